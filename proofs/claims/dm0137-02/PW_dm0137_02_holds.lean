import PyProof.Rows.All
import Wide.All
import OpenK.AllK
import Wide.FinOn
import PyProof.ExcStrCall
import PyProof.ExcStrAll.TypeError
import PyProof.ExcStrAll.IndexError
import PyProof.IsiPairs
import PyProof.Rows.ZipGen
import PySem.Challenge.RW_dm0137_02
set_option Elab.async false
set_option bootstrap.genMatcherCode false
set_option compiler.extract_closed false
set_option genSizeOf false
set_option genInjectivity false
/-! Fw1 -/
set_option autoImplicit false
set_option maxRecDepth 100000
set_option linter.unusedVariables false
namespace Mine
open PySem PySem.W PyProof.Rows

/-- the rest of the state stands -/
noncomputable def Sm (s s' : Shared) : Prop := s'.os = s.os ∧ s'.gens = s.gens
theorem Sm.rfl {s : Shared} : Sm s s := ⟨Eq.refl _, Eq.refl _⟩
theorem Sm.trans {a b c : Shared} (x : Sm a b) (y : Sm b c) : Sm a c := ⟨y.1.trans x.1, y.2.trans x.2⟩

/-! the abstract values and heaps -/
inductive V where
  | none
  | bool (b : Bool)
  | int (i : Int)
  | str (s : Str)
  | ref (a : Addr)
  | val (v : Value)
  | tup (vs : List V)
  | rng (a b c : Int)
  | obj (a : Addr)
  | func (fd : FuncData)
  | exc (cls : String) (words : Str)

/-- objects that no step changes -/
noncomputable def Imm (o : Obj) : Prop := (o.cls = .type "tuple" ∧ ∃ vs n, o.data = .seq vs n) ∨ ((o.cls = .type "range" ∨ o.cls = .type "TypeError" ∨ o.cls = .type "IndexError") ∧ ∃ vs, o.data = .fields vs) ∨ (∃ fd, o.data = .func fd) ∨ o.data = .plain

mutual
inductive Rep (h : Heap) : Value → V → Prop
  | none : Rep h .none .none
  | bool (b : Bool) : Rep h (.bool b) (.bool b)
  | int (i : Int) (t : Tok) : Rep h (.int i t) (.int i)
  | str (s : Str) (t : Tok) : Rep h (.str s t) (.str s)
  | ref (a : Addr) : Rep h (.ref a) (.ref a)
  | val (v : Value) : Rep h v (.val v)
  | tup {a : Addr} {vs : List Value} {xs : List V} : IsTup h a vs.toArray → Reps h vs xs → Rep h (.ref a) (.tup xs)
  | rng {r : Addr} {a b c : Int} {t u v : Tok} : IsRange h r a b c t u v → Rep h (.ref r) (.rng a b c)
  | obj {a : Addr} {o : Obj} : h.get? a = some o → o.data = .plain → Rep h (.ref a) (.obj a)
  | func {a : Addr} {o : Obj} {fd : FuncData} : h.get? a = some o → o.data = .func fd → Rep h (.ref a) (.func fd)
  | exc {a t : Addr} {o : Obj} {cls : String} {words : Str} {vs : Array Value} {tk : Tok} : h.get? a = some o → (o.cls = .type cls ∧ (cls = "TypeError" ∨ cls = "IndexError")) → (o.data = .fields vs ∧ vs[0]? = some (.ref t)) → IsTup h t #[.str words tk] → Rep h (.ref a) (.exc cls words)
inductive Reps (h : Heap) : List Value → List V → Prop
  | nil : Reps h [] []
  | cons {v : Value} {x : V} {vs : List Value} {xs : List V} : Rep h v x → Reps h vs xs → Reps h (v :: vs) (x :: xs)
end

/-! what bears a value -/
section
variable {h : Heap} {v : Value}
theorem Rep.iint {i : Int} (r : Rep h v (.int i)) : ∃ t, v = .int i t := by cases r; exact ⟨_, rfl⟩
theorem Rep.istr {x : Str} (r : Rep h v (.str x)) : ∃ t, v = .str x t := by cases r; exact ⟨_, rfl⟩
theorem Rep.iref {a : Addr} (r : Rep h v (.ref a)) : v = .ref a := by cases r; rfl
theorem Rep.inone (r : Rep h v .none) : v = .none := by cases r; rfl
theorem Rep.ibool {b : Bool} (r : Rep h v (.bool b)) : v = .bool b := by cases r; rfl
theorem Rep.irng {a b c : Int} (r : Rep h v (.rng a b c)) : ∃ l t u w, v = .ref l ∧ IsRange h l a b c t u w := by cases r with | rng y => exact ⟨_, _, _, _, rfl, y⟩
theorem Rep.itup {xs : List V} (r : Rep h v (.tup xs)) : ∃ a vs, v = .ref a ∧ IsTup h a vs.toArray ∧ Reps h vs xs := by cases r with | tup y q => exact ⟨_, _, rfl, y, q⟩
theorem Rep.iexc {cls : String} {words : Str} (r : Rep h v (.exc cls words)) : ∃ a t o vs tk, v = .ref a ∧ h.get? a = some o ∧ (o.cls = .type cls ∧ (cls = "TypeError" ∨ cls = "IndexError")) ∧ (o.data = .fields vs ∧ vs[0]? = some (.ref t)) ∧ IsTup h t #[.str words tk] := by cases r with | exc a b c d => exact ⟨_, _, _, _, _, rfl, a, b, c, d⟩
theorem Reps.inil {vs : List Value} (r : Reps h vs []) : vs = [] := by cases r; rfl
theorem Reps.icons {vs : List Value} {x : V} {xs : List V} (r : Reps h vs (x :: xs)) : ∃ v us, vs = v :: us ∧ Rep h v x ∧ Reps h us xs := by cases r with | cons a b => exact ⟨_, _, rfl, a, b⟩
end
inductive AObj where
  | list (xs : List V)
  | flist (xs : List V)
  | iter (src : Option Addr) (i : Nat)
  | imap (m : Int → Option V) (n : Nat)

abbrev Hp := Addr → Option AObj

noncomputable def upd (σ : Hp) (a : Addr) (o : AObj) : Hp := fun b => if b = a then some o else σ b
theorem upd_same (σ : Hp) (a : Addr) (o : AObj) : upd σ a o a = some o := if_pos rfl
theorem upd_ne (σ : Hp) {a b : Addr} (o : AObj) (h : b ≠ a) : upd σ a o b = σ b := if_neg h
theorem upd_upd (σ : Hp) (a : Addr) (o o' : AObj) : upd (upd σ a o) a o' = upd σ a o' := by
  funext b; unfold upd; split <;> rfl
theorem upd_id {σ : Hp} {a : Addr} {o : AObj} (h : σ a = some o) : upd σ a o = σ := by
  funext b; unfold upd; split
  · rename_i e; rw [e, h]
  · rfl

noncomputable def AObj.mut : AObj → Bool
  | .list _ => true
  | .flist _ => false
  | .iter _ _ => true
  | .imap _ _ => true
noncomputable def AObj.isMap : AObj → Bool
  | .imap _ _ => true
  | _ => false

noncomputable def LObj (vs : List Value) (n : Nat) : Obj := { cls := .type "list", dict := none, data := .seq vs.toArray n, slots := #[] }
noncomputable def Holds (h : Heap) (a : Addr) : AObj → Prop
  | .list xs => ∃ (vs : List Value) (n : Nat), h.get? a = some (LObj vs n) ∧ Reps h vs xs
  | .flist xs => ∃ vs : List Value, h.IsList a vs.toArray ∧ Reps h vs xs
  | .iter (some l) i => h.IsListIter a l i
  | .iter none i => ∃ o, h.get? a = some o ∧ o.cls = .type "list_iterator" ∧ o.data = .fields #[.none, .int i 0]
  | .imap m n => ∃ f, h.IntMap a f ∧ h.DictLe a n ∧ ∀ k x, m k = some x → ∃ v, f k = some v ∧ Rep h v x

noncomputable def BIG : Nat := 1000000
noncomputable def AObj.small : AObj → Prop
  | .list xs => xs.length ≤ BIG
  | .flist xs => xs.length ≤ BIG
  | .iter _ _ => True
  | .imap _ n => n ≤ BIG
noncomputable def Mut (σ : Hp) (a : Addr) : Prop := ∃ o, σ a = some o ∧ o.mut = true

/-- the concrete heap bears the abstract one over the ground h₀ -/
structure W (h₀ : Heap) (σ : Hp) (h : Heap) : Prop where
  stays : ∀ b o, h₀.get? b = some o → h.get? b = some o
  holds : ∀ a o, σ a = some o → Holds h a o
  above : ∀ a, Mut σ a → h₀.get? a = none
  small : ∀ a o, σ a = some o → o.small

noncomputable def Keep (σ : Hp) (h h' : Heap) : Prop := ∀ a o, ¬ Mut σ a → h.get? a = some o → h'.get? a = some o
noncomputable def Grow (σ : Hp) (h : Heap) (σ' : Hp) : Prop := ∀ a, (Mut σ' a → Mut σ a ∨ h.get? a = none) ∧ (σ' a ≠ none → σ a ≠ none ∨ h.get? a = none)

theorem Grow.refl (σ : Hp) (h : Heap) : Grow σ h σ := fun _ => ⟨.inl, .inl⟩
theorem Grow.not {σ σ' : Hp} {h : Heap} (g : Grow σ h σ') {a : Addr} {o : Obj} (e : h.get? a = some o) (n : ¬ Mut σ a) : ¬ Mut σ' a := fun m =>
  ((g a).1 m).elim n fun q => by rw [e] at q; cases q
theorem Grow.none {σ σ' : Hp} {h : Heap} (g : Grow σ h σ') {a : Addr} {o : Obj} (e : h.get? a = some o) (n : σ a = none) : σ' a = none := by
  cases q : σ' a with
  | none => rfl
  | some p => exact (((g a).2 (by rw [q]; simp)).elim (fun r => r n) fun r => by rw [e] at r; cases r).elim

theorem holds_not_imm {h : Heap} {a : Addr} {o : AObj} {p : Obj} (x : Holds h a o) (e : h.get? a = some p) (i : Imm p) : False := by
  cases o with
  | list xs => obtain ⟨_, n, e2, _⟩ := x; rw [e] at e2; cases e2; rcases i with i | i | i | i <;> simp [LObj] at i
  | flist xs => obtain ⟨_, ⟨o2, e2, c2, n, d2⟩, _⟩ := x; rw [e] at e2; cases e2; rcases i with ⟨i, _⟩ | ⟨i, _⟩ | ⟨fd, i⟩ | i <;> simp_all
  | iter l i' => cases l <;> (obtain ⟨o2, e2, c2, d2⟩ := x; rw [e] at e2; cases e2; rcases i with ⟨i, _⟩ | ⟨i, _⟩ | ⟨fd, i⟩ | i <;> simp_all)
  | imap m n => obtain ⟨f, ⟨o2, es, ep, e2, c2, d2, _⟩, _⟩ := x; rw [e] at e2; cases e2; rcases i with ⟨i, _⟩ | ⟨i, _⟩ | ⟨fd, i⟩ | i <;> simp_all

noncomputable def Tups (h h' : Heap) : Prop := ∀ a o, h.get? a = some o → Imm o → h'.get? a = some o
theorem tup_keep {h₀ : Heap} {σ : Hp} {h h' : Heap} (w : W h₀ σ h) (k : Keep σ h h') : Tups h h' := fun a p e i =>
  k a p (fun ⟨o, q, _⟩ => holds_not_imm (w.holds a o q) e i) e
theorem Tups.tup {h h' : Heap} (k : Tups h h') {a : Addr} {vs : Array Value} (y : IsTup h a vs) : IsTup h' a vs := by
  obtain ⟨o1, e1, c, n, r⟩ := y; exact ⟨o1, k a o1 e1 (.inl ⟨c, _, _, r⟩), c, n, r⟩
mutual
theorem Rep.tups {h h' : Heap} (k : Tups h h') : ∀ {v : Value} {x : V}, Rep h v x → Rep h' v x
  | _, _, .none => .none
  | _, _, .bool b => .bool b
  | _, _, .int i t => .int i t
  | _, _, .str s t => .str s t
  | _, _, .ref a => .ref a
  | _, _, .val v => .val v
  | _, _, .tup y r => .tup (k.tup y) (Reps.tups k r)
  | _, _, .rng y => .rng (k _ _ y (.inr (.inl ⟨.inl rfl, _, rfl⟩)))
  | _, _, .obj e c => .obj (k _ _ e (.inr (.inr (.inr c)))) c
  | _, _, .func e c => .func (k _ _ e (.inr (.inr (.inl ⟨_, c⟩)))) c
  | _, _, .exc e c d y => .exc (k _ _ e (.inr (.inl ⟨.inr (c.2.imp (fun q => by rw [← q]; exact c.1) fun q => by rw [← q]; exact c.1), _, d.1⟩))) c d (k.tup y)
theorem Reps.tups {h h' : Heap} (k : Tups h h') : ∀ {vs : List Value} {xs : List V}, Reps h vs xs → Reps h' vs xs
  | _, _, .nil => .nil
  | _, _, .cons r rs => .cons (Rep.tups k r) (Reps.tups k rs)
end

noncomputable def IsD (o : Obj) : Prop := ∃ es n, o.data = .dict es n
/-- a step of the run: what is not under σ and not one's own stays, but for the slots of a namespace -/
structure StepX (own : Addr → Prop) (h₀ : Heap) (σ : Hp) (h : Heap) (σ' : Hp) (h' : Heap) : Prop where
  w : W h₀ σ' h'
  keep : ∀ a o, ¬ Mut σ a → ¬ own a → ¬ IsD o → h.get? a = some o → h'.get? a = some o
  dict : ∀ a o, ¬ Mut σ a → ¬ own a → IsD o → h.get? a = some o → ∃ sl, h'.get? a = some { o with slots := sl }
  grow : Grow σ h σ'
  tups : Tups h h'
  alive : ∀ a o, h.get? a = some o → ∃ o', h'.get? a = some o' ∧ (IsD o → IsD o')
noncomputable def nobody : Addr → Prop := fun _ => False
abbrev Step (h₀ : Heap) (σ : Hp) (h : Heap) (σ' : Hp) (h' : Heap) : Prop := StepX nobody h₀ σ h σ' h'
theorem Step.of {h₀ : Heap} {σ : Hp} {h : Heap} {σ' : Hp} {h' : Heap} (w₀ : W h₀ σ h) (w : W h₀ σ' h') (k : Keep σ h h') (g : Grow σ h σ') (al : ∀ a o, h.get? a = some o → ∃ o', h'.get? a = some o' ∧ (IsD o → IsD o')) : Step h₀ σ h σ' h' :=
  ⟨w, fun a o n _ _ e => k a o n e, fun a o n _ _ e => ⟨o.slots, k a o n e⟩, g, tup_keep w₀ k, al⟩
theorem Step.keeps {h₀ : Heap} {σ : Hp} {h : Heap} {σ' : Hp} {h' : Heap} (s : Step h₀ σ h σ' h') (a : Addr) (o : Obj) (n : ¬ Mut σ a) (d : ¬ IsD o) (e : h.get? a = some o) : h'.get? a = some o := s.keep a o n (fun f => f) d e
theorem StepX.more {own own' : Addr → Prop} {h₀ : Heap} {σ : Hp} {h : Heap} {σ' : Hp} {h' : Heap} (s : StepX own h₀ σ h σ' h') (i : ∀ a, own a → own' a) : StepX own' h₀ σ h σ' h' :=
  ⟨s.w, fun a o n m d e => s.keep a o n (fun q => m (i a q)) d e, fun a o n m d e => s.dict a o n (fun q => m (i a q)) d e, s.grow, s.tups, s.alive⟩
theorem Step.any {own : Addr → Prop} {h₀ : Heap} {σ : Hp} {h : Heap} {σ' : Hp} {h' : Heap} (s : Step h₀ σ h σ' h') : StepX own h₀ σ h σ' h' := s.more fun _ f => f.elim
theorem StepX.refl {own : Addr → Prop} {h₀ : Heap} {σ : Hp} {h : Heap} (w : W h₀ σ h) : StepX own h₀ σ h σ h := ⟨w, fun _ _ _ _ _ e => e, fun _ o _ _ _ e => ⟨o.slots, e⟩, .refl _ _, fun _ _ e _ => e, fun _ o e => ⟨o, e, id⟩⟩
theorem StepX.trans {own : Addr → Prop} {h₀ : Heap} {σ σ' σ'' : Hp} {h h' h'' : Heap} (x : StepX own h₀ σ h σ' h') (y : StepX own h₀ σ' h' σ'' h'') : StepX own h₀ σ h σ'' h'' :=
  ⟨y.w, fun a o n m d e => y.keep a o (x.grow.not e n) m d (x.keep a o n m d e), (fun a o n m d e => by
    obtain ⟨sl, e1⟩ := x.dict a o n m d e
    exact y.dict a { o with slots := sl } (x.grow.not e n) m (by obtain ⟨es, k, q⟩ := d; exact ⟨es, k, q⟩) e1), (fun a => by
    have key : h'.get? a = none → h.get? a = none := fun q => by
      cases e : h.get? a with
      | none => rfl
      | some o => obtain ⟨o', e', _⟩ := x.alive a o e; rw [e'] at q; exact absurd q (by simp)
    refine ⟨fun m => ?_, fun m => ?_⟩
    · rcases (y.grow a).1 m with q | q
      · exact (x.grow a).1 q
      · exact .inr (key q)
    · rcases (y.grow a).2 m with q | q
      · exact (x.grow a).2 q
      · exact .inr (key q)),
   fun a o e i => y.tups a o (x.tups a o e i) i, fun a o e => by
    obtain ⟨o1, e1, d1⟩ := x.alive a o e
    obtain ⟨o2, e2, d2⟩ := y.alive a o1 e1
    exact ⟨o2, e2, fun d => d2 (d1 d)⟩⟩
theorem Step.trans {h₀ : Heap} {σ σ' σ'' : Hp} {h h' h'' : Heap} (x : Step h₀ σ h σ' h') (y : Step h₀ σ' h' σ'' h'') : Step h₀ σ h σ'' h'' := StepX.trans x y
theorem Rep.step {own : Addr → Prop} {h₀ : Heap} {σ σ' : Hp} {h h' : Heap} {v : Value} {x : V} (r : Rep h v x) (s : StepX own h₀ σ h σ' h') : Rep h' v x := r.tups s.tups
theorem Reps.step {own : Addr → Prop} {h₀ : Heap} {σ σ' : Hp} {h h' : Heap} {v : List Value} {x : List V} (r : Reps h v x) (s : StepX own h₀ σ h σ' h') : Reps h' v x := r.tups s.tups

theorem Reps.ind {h : Heap} {P : List Value → List V → Prop} (n : P [] []) (c : ∀ {v x vs xs}, Rep h v x → Reps h vs xs → P vs xs → P (v :: vs) (x :: xs)) : ∀ {vs : List Value} {xs : List V}, Reps h vs xs → P vs xs
  | _, _, .nil => n
  | _, _, .cons a r => c a r (Reps.ind n c r)
theorem Reps.length {h : Heap} {vs : List Value} {xs : List V} (r : Reps h vs xs) : vs.length = xs.length := r.ind (P := fun vs xs => vs.length = xs.length) rfl fun _ _ ih => congrArg (· + 1) ih
theorem Reps.append {h : Heap} {vs ws : List Value} {xs ys : List V} (r : Reps h vs xs) (q : Reps h ws ys) : Reps h (vs ++ ws) (xs ++ ys) := r.ind (P := fun vs xs => Reps h (vs ++ ws) (xs ++ ys)) q fun a _ ih => .cons a ih
theorem Reps.get {h : Heap} {vs : List Value} {xs : List V} (r : Reps h vs xs) : ∀ {i : Nat} {x : V}, xs[i]? = some x → ∃ v, vs[i]? = some v ∧ Rep h v x :=
  r.ind (P := fun vs xs => ∀ {i : Nat} {x : V}, xs[i]? = some x → ∃ v, vs[i]? = some v ∧ Rep h v x) (fun e => by simp at e) fun a _ ih => by
    intro i x e
    cases i with
    | zero => simp at e; subst e; exact ⟨_, rfl, a⟩
    | succ i => simp at e; simpa using ih e
theorem Reps.getRev {h : Heap} {vs : List Value} {xs : List V} (r : Reps h vs xs) : ∀ {i : Nat} {v : Value}, vs[i]? = some v → ∃ x, xs[i]? = some x ∧ Rep h v x :=
  r.ind (P := fun vs xs => ∀ {i : Nat} {v : Value}, vs[i]? = some v → ∃ x, xs[i]? = some x ∧ Rep h v x) (fun e => by simp at e) fun a _ ih => by
    intro i x e
    cases i with
    | zero => simp at e; subst e; exact ⟨_, rfl, a⟩
    | succ i => simp at e; simpa using ih e
theorem Reps.set {h : Heap} {vs : List Value} {xs : List V} (r : Reps h vs xs) : ∀ (i : Nat) {v : Value} {x : V}, Rep h v x → Reps h (vs.set i v) (xs.set i x) :=
  r.ind (P := fun vs xs => ∀ (i : Nat) {v : Value} {x : V}, Rep h v x → Reps h (vs.set i v) (xs.set i x)) (fun _ _ _ _ => .nil) fun a r ih => by
    intro i v x e
    cases i with
    | zero => exact .cons e r
    | succ i => exact .cons a (ih i e)
theorem Reps.filterMap {h : Heap} {vs : List Value} {xs : List V} (r : Reps h vs xs) : ∀ js : List Nat, Reps h (js.filterMap (vs[·]?)) (js.filterMap (xs[·]?))
  | [] => .nil
  | j :: js => by
    simp only [List.filterMap_cons]
    cases e : vs[j]? with
    | none =>
      have : xs[j]? = none := by
        rw [List.getElem?_eq_none_iff] at e ⊢; rw [← r.length]; exact e
      rw [this]; exact r.filterMap js
    | some v =>
      obtain ⟨x, e', rr⟩ := r.getRev e
      rw [e']; exact .cons rr (r.filterMap js)

theorem upd_small {σ : Hp} {a : Addr} {o : AObj} (h : ∀ a o, σ a = some o → o.small) (sm : o.small) : ∀ b p, upd σ a o b = some p → p.small := fun b p e => by
  unfold upd at e; split at e
  · cases e; exact sm
  · exact h b p e
theorem upd_grow {σ : Hp} {h : Heap} {a : Addr} {o : AObj} (n : Mut σ a ∨ h.get? a = none) : Grow σ h (upd σ a o) := fun b => by
  by_cases q : b = a
  · subst q; exact ⟨fun _ => n, fun _ => n.imp (fun ⟨p, e, _⟩ => by rw [e]; simp) id⟩
  · unfold Mut; rw [upd_ne _ _ q]; exact ⟨.inl, .inl⟩
/-- a new object at a fresh address, put under σ -/
theorem get_push_none (h : Heap) : h.get? h.objs.size = none := by
  cases e : h.get? h.objs.size with
  | none => rfl
  | some o => exact absurd (Heap.lt_size e) (Nat.lt_irrefl _)
theorem W.fresh {h₀ : Heap} {σ : Hp} {h : Heap} (w : W h₀ σ h) {a : Addr} (e : h.get? a = none) : σ a = none := by
  cases q : σ a with
  | none => rfl
  | some o =>
    have := w.holds a o q
    cases o with
    | list xs => obtain ⟨_, _, e2, _⟩ := this; rw [e] at e2; cases e2
    | flist xs => obtain ⟨_, ⟨o2, e2, _⟩, _⟩ := this; rw [e] at e2; cases e2
    | iter l i => cases l <;> (obtain ⟨o2, e2, _⟩ := this; rw [e] at e2; cases e2)
    | imap m n => obtain ⟨f, ⟨o2, es, ep, e2, _⟩, _⟩ := this; rw [e] at e2; cases e2
theorem Holds.alive {h : Heap} {a : Addr} {o : AObj} (x : Holds h a o) : ∃ b, h.get? a = some b := by
  cases o with
  | list xs => obtain ⟨vs, n, e2, rr⟩ := x; exact ⟨_, e2⟩
  | flist xs => obtain ⟨vs, ⟨o2, e2, r⟩, rr⟩ := x; exact ⟨_, e2⟩
  | iter l i => cases l <;> (obtain ⟨o2, e2, r⟩ := x; exact ⟨_, e2⟩)
  | imap m n => obtain ⟨f, ⟨o2, es, ep, e2, _⟩, _⟩ := x; exact ⟨_, e2⟩
theorem holds_map {h h' : Heap} {a : Addr} {m : Int → Option V} {n : Nat} (t : Tups h h') (x : Holds h a (.imap m n)) (same : ∀ b, h.get? a = some b → h'.get? a = some b) : Holds h' a (.imap m n) := by
  obtain ⟨f, ⟨o2, es, ep, e2, c, d, r⟩, l, g⟩ := x
  exact ⟨f, ⟨o2, es, ep, same _ e2, c, d, r⟩, l.of_same e2 (same _ e2), fun k x e => by obtain ⟨v, q, rr⟩ := g k x e; exact ⟨v, q, rr.tups t⟩⟩
theorem Holds.keep {h₀ : Heap} {σ : Hp} {h h' : Heap} (w : W h₀ σ h) (k : Keep σ h h') {a : Addr} {o : AObj} (x : Holds h a o) (same : ∀ b, h.get? a = some b → h'.get? a = some b) : Holds h' a o := by
  cases o with
  | list xs => obtain ⟨vs, n, e2, rr⟩ := x; exact ⟨vs, n, same _ e2, rr.tups (tup_keep w k)⟩
  | flist xs => obtain ⟨vs, ⟨o2, e2, r⟩, rr⟩ := x; exact ⟨vs, ⟨o2, same _ e2, r⟩, rr.tups (tup_keep w k)⟩
  | iter l i => cases l <;> (obtain ⟨o2, e2, r⟩ := x; exact ⟨o2, same _ e2, r⟩)
  | imap m n => exact holds_map (tup_keep w k) x same
theorem holds_isD {h : Heap} {a : Addr} {o : AObj} {p : Obj} (x : Holds h a o) (n : o.isMap = true) (e : h.get? a = some p) : IsD p := by
  cases o with
  | imap m n => obtain ⟨f, ⟨o2, es, ep, e2, c, d, _⟩, _⟩ := x; rw [e] at e2; cases e2; exact ⟨es, ep, d⟩
  | _ => cases n
theorem holds_notD {h : Heap} {a : Addr} {o : AObj} {p : Obj} (x : Holds h a o) (nm : o.isMap = false) (e : h.get? a = some p) : ¬ IsD p := by
  rintro ⟨es, n, d⟩
  cases o with
  | list xs => obtain ⟨vs, n, e2, rr⟩ := x; rw [e] at e2; cases e2; cases d
  | flist xs => obtain ⟨vs, ⟨o2, e2, _, n, r⟩, rr⟩ := x; rw [e] at e2; cases e2; rw [d] at r; cases r
  | iter l i => cases l <;> (obtain ⟨o2, e2, _, r⟩ := x; rw [e] at e2; cases e2; rw [d] at r; cases r)
  | imap m n => cases nm
/-- only new objects: all that was stays -/
theorem W.extend {h₀ : Heap} {σ : Hp} {h h' : Heap} (w : W h₀ σ h) (k : ∀ b o, h.get? b = some o → h'.get? b = some o) : Step h₀ σ h σ h' := by
  have kk : Keep σ h h' := fun a o _ e => k a o e
  exact .of w ⟨fun b o e => k b o (w.stays b o e), fun a o e => (w.holds a o e).keep w kk (fun b => k a b), w.above, w.small⟩ kk (.refl _ _) (fun a o e => ⟨o, k a o e, id⟩)
/-- a new object of the abstract heap -/
theorem W.alloc {h₀ : Heap} {σ : Hp} {h h' : Heap} (w : W h₀ σ h) (k : ∀ b o, h.get? b = some o → h'.get? b = some o) {a : Addr} (n : h.get? a = none) {o : AObj} (x : Holds h' a o) (sm : o.small) : Step h₀ σ h (upd σ a o) h' := by
  have kk : Keep σ h h' := fun a o _ e => k a o e
  refine .of w ⟨fun b o e => k b o (w.stays b o e), fun b p e => ?_, fun b m => ?_, upd_small w.small sm⟩ kk (upd_grow (.inr n)) (fun a o e => ⟨o, k a o e, id⟩)
  · unfold upd at e; split at e
    · rename_i q; subst q; cases e; exact x
    · exact (w.holds b p e).keep w kk (fun b' => k b b')
  · by_cases q : b = a
    · subst q
      cases r : h₀.get? b with
      | none => rfl
      | some o' => rw [w.stays b o' r] at n; cases n
    · obtain ⟨p, e, mm⟩ := m; rw [upd_ne _ _ q] at e; exact w.above b ⟨p, e, mm⟩
/-- a change of one mutable object -/
theorem W.change {h₀ : Heap} {σ : Hp} {h h' : Heap} (w : W h₀ σ h) {a : Addr} (m : Mut σ a) (k : Heap.ExtBut a h h') {o : AObj} (x : Keep σ h h' → Holds h' a o) (sm : o.small) (sk : ∀ oo, σ a = some oo → oo.isMap = o.isMap) : Step h₀ σ h (upd σ a o) h' := by
  have kk : Keep σ h h' := fun b o n e => k b o (by rintro rfl; exact n m) e
  refine .of w ⟨fun b o e => ?_, fun b p e => ?_, fun b m' => ?_, upd_small w.small sm⟩ kk (upd_grow (.inl m)) (fun b p e => by
    by_cases q : b = a
    · subst q
      obtain ⟨o', e'⟩ := (x kk).alive
      obtain ⟨oo, eo, _⟩ := m
      refine ⟨o', e', fun d => ?_⟩
      cases q : oo.isMap with
      | false => exact absurd d (holds_notD (w.holds _ _ eo) q e)
      | true => exact holds_isD (x kk) ((sk oo eo).symm.trans q) e'
    · exact ⟨p, k b p q e, id⟩)
  · refine k b o ?_ (w.stays b o e)
    rintro rfl; rw [w.above b m] at e; cases e
  · unfold upd at e; split at e
    · rename_i q; subst q; cases e; exact x kk
    · rename_i q; exact (w.holds b p e).keep w kk (fun b' => k b b' q)
  · by_cases q : b = a
    · subst q; exact w.above b m
    · obtain ⟨p, e, mm⟩ := m'; rw [upd_ne _ _ q] at e; exact w.above b ⟨p, e, mm⟩
/-- an object that lies there already is put under σ -/
theorem W.adopt {h₀ : Heap} {σ : Hp} {h : Heap} (w : W h₀ σ h) {a : Addr} (f : h₀.get? a = none) {o : AObj} (x : Holds h a o) (sm : o.small) : W h₀ (upd σ a o) h := by
  refine ⟨w.stays, fun b p e => ?_, fun b m => ?_, upd_small w.small sm⟩
  · unfold upd at e; split at e
    · rename_i q; subst q; cases e; exact x
    · exact w.holds b p e
  · by_cases q : b = a
    · subst q; exact f
    · obtain ⟨p, e, mm⟩ := m; rw [upd_ne _ _ q] at e; exact w.above b ⟨p, e, mm⟩
theorem StepX.ns {own : Addr → Prop} {h₀ : Heap} {σ σ' : Hp} {h h' : Heap} (x : StepX own h₀ σ h σ' h') {a : Addr} {m : Str → Option Value} (n : ¬ Mut σ a) (no : ¬ own a) (q : h.Ns a m) : h'.Ns a m := by
  obtain ⟨o, es, ep, ho, hd, r⟩ := q
  obtain ⟨sl, e⟩ := x.dict a o n no ⟨_, _, hd⟩ ho
  exact ⟨_, es, ep, e, hd, r⟩
theorem LObj.isList {h : Heap} {a : Addr} {vs : List Value} {n : Nat} (e : h.get? a = some (LObj vs n)) : h.IsList a vs.toArray := ⟨_, e, rfl, n, rfl⟩
theorem LObj.mapSeq (vs : List Value) (n : Nat) (f : Array Value → Array Value) : ∃ m, (LObj vs n).mapSeq f = LObj (f vs.toArray).toList m := ⟨_, rfl⟩
theorem LObj.update {h : Heap} {a : Addr} {vs : List Value} {n : Nat} (e : h.get? a = some (LObj vs n)) (f : Array Value → Array Value) :
    ∃ m, (h.update a (Obj.mapSeq f)).get? a = some (LObj (f vs.toArray).toList m) := by
  obtain ⟨m, q⟩ := LObj.mapSeq vs n f
  exact ⟨m, by rw [← q]; exact Heap.get?_update_self _ e rfl⟩

noncomputable def listAt (σ : Hp) (a : Addr) : Option (List V) := match σ a with | some (.list xs) => some xs | some (.flist xs) => some xs | _ => none
theorem listAt_list {σ : Hp} {a : Addr} {xs : List V} (h : σ a = some (.list xs)) : listAt σ a = some xs := by unfold listAt; rw [h]
theorem listAt_flist {σ : Hp} {a : Addr} {xs : List V} (h : σ a = some (.flist xs)) : listAt σ a = some xs := by unfold listAt; rw [h]
theorem W.list {h₀ : Heap} {σ : Hp} {h : Heap} (w : W h₀ σ h) {a : Addr} {xs : List V} (e : listAt σ a = some xs) : ∃ vs : List Value, h.IsList a vs.toArray ∧ Reps h vs xs := by
  unfold listAt at e
  split at e
  · cases e; rename_i q; obtain ⟨vs, n, g, r⟩ := w.holds _ _ q; exact ⟨vs, LObj.isList g, r⟩
  · cases e; rename_i q; exact w.holds _ _ q
  · cases e
theorem W.mlist {h₀ : Heap} {σ : Hp} {h : Heap} (w : W h₀ σ h) {a : Addr} {xs : List V} (e : σ a = some (.list xs)) : ∃ (vs : List Value) (n : Nat), h.get? a = some (LObj vs n) ∧ Reps h vs xs := w.holds _ _ e
/-- a mutable list of σ changed by a map of its items -/
theorem W.mapSeq {h₀ : Heap} {σ : Hp} {h : Heap} (w : W h₀ σ h) {a : Addr} {xs : List V} (e : σ a = some (.list xs)) {vs : List Value} {n : Nat} (g : h.get? a = some (LObj vs n)) (f : Array Value → Array Value) {ys : List V}
    (r : Reps h (f vs.toArray).toList ys) (sm : ys.length ≤ BIG) : Step h₀ σ h (upd σ a (.list ys)) (h.update a (Obj.mapSeq f)) :=
  w.change ⟨_, e, rfl⟩ (Heap.SameBut.update ..).extBut (fun k => by
    obtain ⟨m, q⟩ := LObj.update g f
    exact ⟨_, m, q, r.tups (tup_keep w k)⟩) sm (fun oo q => by rw [e] at q; cases q; rfl)
theorem W.len {h₀ : Heap} {σ : Hp} {h : Heap} (w : W h₀ σ h) {a : Addr} {xs : List V} (e : listAt σ a = some xs) : xs.length ≤ BIG := by
  unfold listAt at e
  split at e
  · cases e; rename_i q; exact w.small _ _ q
  · cases e; rename_i q; exact w.small _ _ q
  · cases e

/-! N2 -/
/-- room of the machine for n calls more -/
structure Room (A : Around) (n : Nat) : Prop where
  handled : A.handled = none
  depth : A.depth + n ≤ 800
  units : A.units + 8 * n + 5 ≤ 9000
  env : ∃ env l, A.frames = some (env :: l) ∧ env.scope.isGenerator = false ∧ env.scope.isCoroutine = false ∧ env.builtins = builtinsNs ∧ env.globals = mainGlobals
/-- the same, seen from within a builtin -/
structure RoomW (A : Around) (n : Nat) : Prop where
  handled : A.handled = none
  depth : A.depth + n ≤ 800
  units : A.units + 8 * n ≤ 9000
  env : ∃ env l, A.frames = some (env :: l) ∧ env.scope.isGenerator = false ∧ env.scope.isCoroutine = false ∧ env.builtins = builtinsNs ∧ env.globals = mainGlobals
theorem Room.weak {A : Around} {n : Nat} (r : Room A n) : RoomW A n := ⟨r.handled, r.depth, by have := r.units; omega, r.env⟩
theorem RoomW.le {A : Around} {n m : Nat} (r : RoomW A n) (h : m ≤ n) : RoomW A m := ⟨r.handled, by have := r.depth; omega, by have := r.units; omega, r.env⟩
/-- the ground -/
structure Gnd (prog : Program) (h₀ : Heap) (mg mb : Str → Option Value) : Prop where
  g : h₀.Ns mainGlobals mg
  b : h₀.Ns builtinsNs mb
  nolimit : h₀.NoLimit
  seer : h₀.NoSeer
  tree : prog.given.tree = none
  boot : ∀ x : Str, x ≠ "__name__" → mb x = bootBuiltins x

inductive PV (h₀ : Heap) (σ : Hp) (s : Shared) (Q : V → Hp → Prop) (v : Value) (s' : Shared) : Prop
  | mk (x : V) (σ' : Hp) (h1 : Rep s'.heap v x) (h2 : (Step h₀ σ s.heap σ' s'.heap ∧ Sm s s')) (h3 : Q x σ') : PV h₀ σ s Q v s'
noncomputable def E0 : Value → Shared → Prop := fun _ _ => False
theorem BIG_le : BIG ≤ sizeLine := by decide
theorem big_line {n : Nat} (h : n ≤ BIG) : n ≤ sizeLine := Nat.le_trans h BIG_le
noncomputable def newL (xs : List V) (Q : V → Hp → Prop) (σ : Hp) : Prop := xs.length ≤ BIG ∧ ∀ a, σ a = none → Q (.ref a) (upd σ a (.list xs))

section
variable {prog : Program} {w : World} {A : Around} {s : Shared} {h₀ : Heap} {mg mb : Str → Option Value} {σ : Hp} {Q : V → Hp → Prop}

theorem PV.same {v : Value} {x : V} (hw : W h₀ σ s.heap) (r : Rep s.heap v x) (q : Q x σ) (tk : Nat) : PV h₀ σ s Q v { s with toks := tk } := ⟨x, σ, r, ⟨.refl hw, .rfl⟩, q⟩
theorem PV.same' {v : Value} {x : V} (hw : W h₀ σ s.heap) (r : Rep s.heap v x) (q : Q x σ) : PV h₀ σ s Q v s := ⟨x, σ, r, ⟨.refl hw, .rfl⟩, q⟩
/-- a new list behind a push -/
theorem PV.push (hw : W h₀ σ s.heap) {vs : List Value} {xs : List V} {n : Nat} (r : Reps s.heap vs xs) (q : newL xs Q σ) (tk : Nat) :
    PV h₀ σ s Q (.ref s.heap.objs.size) { s with heap := s.heap.push (LObj vs n), toks := tk } := by
  have k : ∀ b o, s.heap.get? b = some o → (s.heap.push (LObj vs n)).get? b = some o := fun b o e => Heap.get?_push_of_some _ e
  have x : Step h₀ σ s.heap (upd σ s.heap.objs.size (.list xs)) (s.heap.push (LObj vs n)) :=
    hw.alloc k (get_push_none _) ⟨vs, n, Heap.get?_push_size _ rfl, r.tups (fun a o e _ => k a o e)⟩ q.1
  exact ⟨_, _, .ref _, ⟨x, Eq.refl _, Eq.refl _⟩, q.2 _ (hw.fresh (get_push_none _))⟩
/-- a new list at any fresh address -/
theorem PV.new (hw : W h₀ σ s.heap) {vs : List Value} {xs : List V} {n : Nat} {a : Addr} {s' : Shared} (k : ∀ b o, s.heap.get? b = some o → s'.heap.get? b = some o) (f : s.heap.get? a = none)
    (g : s'.heap.get? a = some (LObj vs n)) (r : Reps s.heap vs xs) (q : newL xs Q σ) (m : Sm s s' := by exact ⟨rfl, rfl⟩) : PV h₀ σ s Q (.ref a) s' :=
  ⟨_, _, .ref _, ⟨hw.alloc (o := .list xs) k f ⟨vs, n, g, r.tups (fun a o e _ => k a o e)⟩ q.1, m⟩, q.2 _ (hw.fresh f)⟩

theorem reps_replicate {h : Heap} {v : Value} {x : V} (r : Rep h v x) : ∀ n : Nat, Reps h (List.replicate n v) (List.replicate n x)
  | 0 => .nil
  | n + 1 => .cons r (reps_replicate r n)

/-- what an operator asks, told by the machine itself -/
structure BinS (op : Operator) (a b : V) (Q : V → Hp → Prop) (σ : Hp) : Prop where
  go : ∀ ⦃prog : Program⦄ ⦃w : World⦄ ⦃A : Around⦄ ⦃s : Shared⦄ ⦃h₀ : Heap⦄ ⦃mg mb : Str → Option Value⦄ ⦃n : Nat⦄ ⦃va vb : Value⦄, Gnd prog h₀ mg mb → Room A n → W h₀ σ s.heap → Rep s.heap va a → Rep s.heap vb b →
  wpAny (model prog w) A (binaryOp op va vb) (PV h₀ σ s Q) E0 s
noncomputable def binI (op : Operator) (x y : Int) (Q : V → Hp → Prop) (σ : Hp) : Prop := match op with
  | .Add => Q (.int (x + y)) σ
  | .Sub => Q (.int (x - y)) σ
  | .Mult => IntMulOk x y ∧ Q (.int (x * y)) σ
  | .FloorDiv => y ≠ 0 ∧ Q (.int (x.fdiv y)) σ
  | .Mod => y ≠ 0 ∧ Q (.int (x.fmod y)) σ
  | .RShift => 0 ≤ x ∧ y = 1 ∧ Q (.int (x / 2)) σ
  | .Pow => 0 ≤ y ∧ y ≤ 1000 ∧ x.natAbs < 2 ^ 64 ∧ Q (.int (x ^ y.toNat)) σ
  | _ => False
noncomputable def opBin (op : Operator) (a b : V) (Q : V → Hp → Prop) (σ : Hp) : Prop := match a, b with
  | .int x, .int y => binI op x y Q σ
  | a, b => BinS op a b Q σ

theorem pylong (G : Gnd prog h₀ mg mb) (hw : W h₀ σ s.heap) {n : Nat} (R : Room A n) : PylongRoom (model prog w) A s := by
  obtain ⟨env, l, h1, h2, h3, h4, h5⟩ := R.env
  refine PylongRoom.of (G.nolimit.keeps hw.stays) (by have := R.depth; show A.depth + 100 < 1000; omega) (SeerAt.of (G.seer.keeps hw.stays) G.tree h1 h2 h3 h4 h5)

theorem opBin_ok (G : Gnd prog h₀ mg mb) {n : Nat} (R : Room A n) (hw : W h₀ σ s.heap) {op : Operator} {a b : V} {va vb : Value} (ra : Rep s.heap va a) (rb : Rep s.heap vb b) (h : opBin op a b Q σ) :
    wpAny (model prog w) A (binaryOp op va vb) (PV h₀ σ s Q) E0 s := by
  unfold opBin at h
  split at h
  · obtain ⟨ta, rfl⟩ := ra.iint
    obtain ⟨tb, rfl⟩ := rb.iint
    cases op with
    | Add => exact add_int (PV.same hw (.int _ _) h _)
    | Sub => exact sub_int' (PV.same hw (.int _ _) h _)
    | Mult => exact mul_int (PV.same hw (.int _ _) h.2 _) h.1
    | FloorDiv => exact floordiv_int h.1 (PV.same hw (.int _ _) h.2 _) (.inr (pylong G hw R))
    | Mod => exact mod_int' h.1 (PV.same hw (.int _ _) h.2 _)
    | RShift => obtain ⟨h1, rfl, h3⟩ := h; exact wpAny_rshift1_int h1 (PV.same hw (.int _ _) h3 _)
    | Pow => exact pow_int_small h.1 (by have := h.2.1; omega) h.2.2.1 (PV.same hw (.int _ _) h.2.2.2 _)
    | _ => exact h.elim
  · exact h.go G R hw ra rb
theorem add_lists {x y : Addr} {xs ys : List V} (e1 : listAt σ x = some xs) (e2 : listAt σ y = some ys) (q : newL (xs ++ ys) Q σ) : opBin .Add (.ref x) (.ref y) Q σ := by
  refine BinS.mk ?_
  intro prog w A s h₀ mg mb n va vb G R hw ra rb
  obtain rfl := ra.iref
  obtain rfl := rb.iref
  obtain ⟨vs, hl, r1⟩ := hw.list e1
  obtain ⟨ws, hb, r2⟩ := hw.list e2
  have hsz : vs.length + ws.length ≤ sizeLine := big_line (by have := q.1; rw [List.length_append] at this; rw [r1.length, r2.length]; exact this)
  obtain ⟨⟨cls, dd, data, sl⟩, ho, hc, n, hd⟩ := id hl
  obtain ⟨⟨cls2, dd2, data2, sl2⟩, ho2, hc2, n2, hd2⟩ := id hb
  simp only at hc hd hc2 hd2
  subst hc hd hc2 hd2
  have e : vs.toArray ++ ws.toArray = (vs ++ ws).toArray := by simp
  refine concat_meets ⟨_, ho, rfl⟩ ⟨_, ho2, rfl⟩ noFill_list_add seq_list_add PySem.F.slot_list_add PySem.F.entry_list_add (PySem.F.args_list_add_2 _ _) (list_addW x y vs.toArray ws.toArray n n2 dd dd2 sl sl2 (by simpa using hsz)) ⟨ho, ho2, ?_⟩
  rw [e]
  exact PV.push (n := 0) hw (r1.append r2) q _
end

/-! N3 -/
/-! data, for == -/
mutual
inductive Dat (σ : Hp) : V → PyData → Prop
  | none : Dat σ .none .none
  | bool (b : Bool) : Dat σ (.bool b) (.bool b)
  | int (i : Int) : Dat σ (.int i) (.int i)
  | str (s : Str) : PyData.strOk s = true → Dat σ (.str s) (.str s)
  | tup {xs : List V} {ds : List PyData} : Dats σ xs ds → Dat σ (.tup xs) (.tuple ds)
  | list {a : Addr} {xs : List V} {ds : List PyData} : listAt σ a = some xs → Dats σ xs ds → Dat σ (.ref a) (.list ds)
inductive Dats (σ : Hp) : List V → List PyData → Prop
  | nil : Dats σ [] []
  | cons {x : V} {d : PyData} {xs : List V} {ds : List PyData} : Dat σ x d → Dats σ xs ds → Dats σ (x :: xs) (d :: ds)
end
mutual
theorem Dat.lay {σ : Hp} : ∀ {x : V} {d : PyData}, Dat σ x d → d.canLay0 = true
  | _, _, .none => by simp [PyData.canLay0]
  | _, _, .bool _ => by simp [PyData.canLay0]
  | _, _, .int _ => by simp [PyData.canLay0]
  | _, _, .str _ h => by simpa [PyData.canLay0] using h
  | _, _, .tup h => by simpa [PyData.canLay0] using Dats.lay h
  | _, _, .list _ h => by simpa [PyData.canLay0] using Dats.lay h
theorem Dats.lay {σ : Hp} : ∀ {xs : List V} {ds : List PyData}, Dats σ xs ds → PyData.canLayAll0 ds = true
  | _, _, .nil => by simp [PyData.canLayAll0]
  | _, _, .cons a b => by simp [PyData.canLayAll0, Dat.lay a, Dats.lay b]
end
mutual
theorem Dat.reads {h₀ : Heap} {σ : Hp} {h : Heap} (w : W h₀ σ h) : ∀ {x : V} {d : PyData}, Dat σ x d → ∀ {v : Value}, Rep h v x → ∃ as, Reads h v d as
  | _, _, .none => fun r => by obtain rfl := r.inone; exact ⟨_, .none⟩
  | _, _, .bool _ => fun r => by obtain rfl := r.ibool; exact ⟨_, .bool _⟩
  | _, _, .int _ => fun r => by obtain ⟨t, rfl⟩ := r.iint; exact ⟨_, .int _ _⟩
  | _, _, .str _ _ => fun r => by obtain ⟨t, rfl⟩ := r.istr; exact ⟨_, .str _ _⟩
  | _, _, .tup h1 => fun r => by
    obtain ⟨ta, vs, rfl, y, r⟩ := r.itup
    obtain ⟨as, q⟩ := Dats.reads w h1 r
    obtain ⟨o, e, c, n, dd⟩ := y
    exact ⟨_, .tuple e c dd q⟩
  | _, _, .list e h1 => fun r => by
    obtain rfl := r.iref
    obtain ⟨vs, ⟨o, e, c, n, dd⟩, r⟩ := w.list e
    obtain ⟨as, q⟩ := Dats.reads w h1 r
    exact ⟨_, .list e c dd q⟩
theorem Dats.reads {h₀ : Heap} {σ : Hp} {h : Heap} (w : W h₀ σ h) : ∀ {xs : List V} {ds : List PyData}, Dats σ xs ds → ∀ {vs : List Value}, Reps h vs xs → ∃ as, ReadsAll h vs ds as
  | _, _, .nil => fun r => by obtain rfl := r.inil; exact ⟨_, .nil⟩
  | _, _, .cons a b => fun r => by
    obtain ⟨u, us, rfl, r, rs⟩ := r.icons
    obtain ⟨as, q⟩ := Dat.reads w a r
    obtain ⟨bs, q'⟩ := Dats.reads w b rs
    exact ⟨_, .cons q q'⟩
end

/-! items -/
noncomputable def nth (xs : List V) (k : Int) : Option V := if 0 ≤ k then xs[k.toNat]? else if -(xs.length : Int) ≤ k then xs[(k + xs.length).toNat]? else none
theorem nth_lt {xs : List V} {k : Int} {x : V} (h : nth xs k = some x) : -(xs.length : Int) ≤ k ∧ k < xs.length := by
  unfold nth at h
  split at h
  · have := (List.getElem?_eq_some_iff.mp h).1; omega
  · split at h
    · omega
    · cases h
theorem seqIndex_pos {k : Int} {n : Nat} (h0 : 0 ≤ k) (h1 : k < n) : seqIndex? k n = some k.toNat := by
  unfold seqIndex?
  dsimp only
  rw [if_neg (by omega : ¬ k < 0)]
  rw [if_pos (by simp only [Bool.and_eq_true, decide_eq_true_eq]; omega)]
/-- what a subscript asks -/
structure opSub (o i : V) (Q : V → Hp → Prop) (σ : Hp) : Prop where
  go : ∀ ⦃prog : Program⦄ ⦃w : World⦄ ⦃A : Around⦄ ⦃s : Shared⦄ ⦃h₀ : Heap⦄ ⦃vo vi : Value⦄ ⦃value slice : Expr⦄, Rep s.heap vo o → Rep s.heap vi i → W h₀ σ s.heap →
  (∀ o i, subscripted slice false o i = operate [o, i] (getItem o i)) → wpAny (model prog w) A (subscriptTail value slice vo vi) (PV h₀ σ s Q) E0 s
section
variable {prog : Program} {w : World} {A : Around} {s : Shared} {h₀ : Heap} {mg mb : Str → Option Value} {σ : Hp} {Q : V → Hp → Prop}

theorem getList_ok {a : Addr} {k : Int} {u : Tok} {xs : List V} {x : V} (hw : W h₀ σ s.heap) (e : listAt σ a = some xs) (hx : nth xs k = some x) (q : Q x σ) :
    wpAny (model prog w) A (getItem (.ref a) (.int k u)) (PV h₀ σ s Q) E0 s := by
  obtain ⟨vs, hl, r⟩ := hw.list e
  have hb := hw.len e
  have hk := nth_lt hx
  have hlen := r.length
  unfold BIG at hb
  unfold nth at hx
  split at hx
  · obtain ⟨v, e1, rr⟩ := r.get hx
    exact wpAny_getItem_list hl (by assumption) (by omega) (by simpa using e1) (PV.same' hw rr q)
  · rename_i hneg
    rw [if_pos hk.1] at hx
    obtain ⟨v, e1, rr⟩ := r.get hx
    exact wpAny_getItem_list_neg hl (by omega) (by simp; omega) (by omega) (by simpa [hlen] using e1) (PV.same' hw rr q)

theorem sub_list {a : Addr} {k : Int} {xs : List V} {x : V} (e : listAt σ a = some xs) (hx : nth xs k = some x) (q : Q x σ) : opSub (.ref a) (.int k) Q σ := by
  refine opSub.mk ?_
  intro prog w A s h₀ vo vi value slice ro ri hw hs
  obtain rfl := ro.iref
  obtain ⟨ti, rfl⟩ := ri.iint
  obtain ⟨vs, hl, r⟩ := hw.list e
  exact tail_any hl.typeIs slot_list_getitem.lookup (getList_ok hw e hx q) (hs _ _)
theorem sub_tup {xs : List V} {k : Int} {x : V} (hb : xs.length ≤ BIG) (hx : nth xs k = some x) (q : Q x σ) : opSub (.tup xs) (.int k) Q σ := by
  refine opSub.mk ?_
  intro prog w A s h₀ vo vi value slice ro ri hw hs
  obtain ⟨ti, rfl⟩ := ri.iint
  obtain ⟨oa, vs, rfl, y, r⟩ := ro.itup
  have hk := nth_lt hx
  have hlen := r.length
  unfold BIG at hb
  refine tail_any y.typeIs slot_tuple_getitem.lookup ?_ (hs _ _)
  unfold nth at hx
  split at hx
  · obtain ⟨v, e1, rr⟩ := r.get hx
    exact getItem_tuple y (by omega) (by omega) (j := k.toNat) (by simp; exact seqIndex_pos (by omega) (by omega)) (by simpa using e1) (PV.same' hw rr q)
  · rw [if_pos hk.1] at hx
    obtain ⟨v, e1, rr⟩ := r.get hx
    exact getItem_tuple y (by omega) (by omega) (j := (k + xs.length).toNat) (by simp [hlen]; exact seqIndex_neg (by omega) (by omega)) (by simpa using e1) (PV.same' hw rr q)
inductive PU (h₀ : Heap) (σ : Hp) (s : Shared) (Q : Hp → Prop) (s' : Shared) : Prop
  | mk (σ' : Hp) (h1 : (Step h₀ σ s.heap σ' s'.heap ∧ Sm s s')) (h2 : Q σ') : PU h₀ σ s Q s'
structure opSet (o i v : V) (Q : Hp → Prop) (σ : Hp) : Prop where
  go : ∀ ⦃prog : Program⦄ ⦃w : World⦄ ⦃A : Around⦄ ⦃s : Shared⦄ ⦃h₀ : Heap⦄ ⦃vo vi vv : Value⦄, Rep s.heap vo o → Rep s.heap vi i → Rep s.heap vv v → W h₀ σ s.heap →
  wpAny (model prog w) A (setItem vo vi vv) (fun _ => PU h₀ σ s Q) E0 s
theorem set_list {a : Addr} {k : Int} {v : V} {xs : List V} {P : Hp → Prop} (e : σ a = some (.list xs)) (h0 : 0 ≤ k) (hn : k < xs.length) (q : P (upd σ a (.list (xs.set k.toNat v)))) : opSet (.ref a) (.int k) v P σ := by
  refine opSet.mk ?_
  intro prog w A s h₀ vo vi vv ro ri rv hw
  obtain rfl := ro.iref
  obtain ⟨t, rfl⟩ := ri.iint
  obtain ⟨vs, n, g, r⟩ := hw.mlist e
  have hb := hw.len (listAt_list e)
  have hlen := r.length
  unfold BIG at hb
  have hl : s.heap.IsList a vs.toArray := LObj.isList g
  unfold setItem
  try with_reducible refine wpAny_holding ?_
  first | refine wpAny_bind (wpAny_pure ?_) | skip
  refine wpAny_bind (wpAny_sequenceKey hl.typeIs (by decide) ?_)
  refine wpAny_bind (wpAny_callSpecial?_slot (name := Str.ofString "__setitem__") hl.typeIs slot_list_setitem
    (wpAny_call_entry slot_list_setitem hl.typeIs entry_list_setitem ?_ (args_list_setitem _ _ _)))
  show wpAny _ _ (Builtin.List.listSubscript? (.int k t) >>= _) _ _ s
  refine wpAny_bind (wpAny_listSubscript_int (fitsIndex_of h0 (by omega)) ?_)
  obtain ⟨j, rfl⟩ := Int.eq_ofNat_of_zero_le h0
  have hj : j < vs.toArray.size := by simp; omega
  have hx' : vs.toArray[j]? = some vs.toArray[j] := Array.getElem?_eq_getElem hj
  show wpAny _ _ ((seqItemAt a j >>= fun r => pure (r.map (j, ·))) >>= _) _ _ s
  refine wpAny_bind (wpAny_bind (wpAny_seqItemAt (items := vs.toArray) (n := n) g rfl (wpAny_pure ?_)))
  rw [hx']
  show wpAny _ _ (setSeqItemAt a j vv >>= _) _ _ s
  refine wpAny_bind (wpAny_setSeqItemAt (items := vs.toArray) (n := n) g rfl ?_)
  have fin : PU h₀ σ s P { s with heap := s.heap.update a (Obj.mapSeq (·.setIfInBounds j vv)) } :=
    ⟨_, ⟨hw.mapSeq (ys := xs.set j v) e g (·.setIfInBounds j vv) (by simpa using r.set j rv) (by simp; unfold BIG; omega), Eq.refl _, Eq.refl _⟩, q⟩
  first
    | exact wpAny_bind (wpAny_pure (wpAny_pure ⟨.none, rfl, wpAny_pure fin⟩))
    | exact wpAny_pure ⟨.none, rfl, wpAny_pure fin⟩

/-! comparisons -/
structure CmpS (op : CmpOp) (a b : V) (Q : V → Hp → Prop) (σ : Hp) : Prop where
  go : ∀ ⦃prog : Program⦄ ⦃w : World⦄ ⦃A : Around⦄ ⦃s : Shared⦄ ⦃h₀ : Heap⦄ ⦃n : Nat⦄ ⦃va vb : Value⦄, Room A n → Rep s.heap va a → Rep s.heap vb b → W h₀ σ s.heap →
  wpAny (model prog w) A (compareOp op va vb) (PV h₀ σ s Q) E0 s
noncomputable def cmpI (op : CmpOp) (x y : Int) (Q : V → Hp → Prop) (σ : Hp) : Prop := match op with
  | .Lt => Q (.bool (decide (x < y))) σ
  | .LtE => Q (.bool (decide (x ≤ y))) σ
  | .Gt => Q (.bool (decide (y < x))) σ
  | .GtE => Q (.bool (decide (y ≤ x))) σ
  | .Eq => Q (.bool (x == y)) σ
  | .NotEq => Q (.bool (x != y)) σ
  | _ => False
noncomputable def opCmp (op : CmpOp) (a b : V) (Q : V → Hp → Prop) (σ : Hp) : Prop := match a, b with
  | .int x, .int y => cmpI op x y Q σ
  | a, b => CmpS op a b Q σ
theorem opCmp_ok {n : Nat} (R : Room A n) {op : CmpOp} {va vb : Value} {a b : V} (ra : Rep s.heap va a) (rb : Rep s.heap vb b) (hw : W h₀ σ s.heap) (h : opCmp op a b Q σ) :
    wpAny (model prog w) A (compareOp op va vb) (PV h₀ σ s Q) E0 s := by
  unfold opCmp at h
  split at h
  · obtain ⟨ta, rfl⟩ := ra.iint
    obtain ⟨tb, rfl⟩ := rb.iint
    cases op with
    | Lt => exact lt_int (PV.same' hw (.bool _) h)
    | LtE => exact le_int (PV.same' hw (.bool _) h)
    | Gt => exact gt_int (PV.same' hw (.bool _) h)
    | GtE => exact ge_int (PV.same' hw (.bool _) h)
    | Eq => exact eq_int (PV.same' hw (.bool _) h)
    | NotEq => exact ne_int (PV.same' hw (.bool _) h)
    | _ => exact h.elim
  · exact h.go R ra rb hw
/-- equality of data -/
theorem eq_dat {a b : V} {d e : PyData} (h1 : Dat σ a d) (h2 : Dat σ b e) (hd : d.depth ≤ 60) (q : Q (.bool (PyData.eqv d e)) σ) : CmpS .Eq a b Q σ := by
  refine CmpS.mk ?_
  intro prog w A s h₀ n va vb R ra rb hw
  obtain ⟨as, r1⟩ := h1.reads hw ra
  obtain ⟨bs, r2⟩ := h2.reads hw rb
  have hu : A.units ≤ 9000 := by have := R.units; omega
  exact SeqAt.compareEq_reads r1 r2 h1.lay h2.lay (by show _ < 9900; omega) (PV.same' hw (.bool _) q)
theorem ne_dat {a b : V} {d e : PyData} (h1 : Dat σ a d) (h2 : Dat σ b e) (hd : d.depth ≤ 60) (q : Q (.bool (!PyData.eqv d e)) σ) : CmpS .NotEq a b Q σ := by
  refine CmpS.mk ?_
  intro prog w A s h₀ n va vb R ra rb hw
  obtain ⟨as, r1⟩ := h1.reads hw ra
  obtain ⟨bs, r2⟩ := h2.reads hw rb
  have hu : A.units ≤ 9000 := by have := R.units; omega
  exact SeqAt.compareNe_reads r1 r2 h1.lay h2.lay (by show _ < 9900; omega) (PV.same' hw (.bool _) q)

noncomputable def truth (v : V) (Q : Bool → Hp → Prop) (σ : Hp) : Prop :=
  match v with
  | .none => Q false σ
  | .bool b => Q b σ
  | .int i => Q (i != 0) σ
  | .ref a => ∃ xs, listAt σ a = some xs ∧ Q (!xs.isEmpty) σ
  | _ => False
inductive PB (h₀ : Heap) (σ : Hp) (s : Shared) (Q : Bool → Hp → Prop) (b : Bool) (s' : Shared) : Prop
  | mk (σ' : Hp) (h1 : (Step h₀ σ s.heap σ' s'.heap ∧ Sm s s')) (h2 : Q b σ') : PB h₀ σ s Q b s'
theorem truth_ok {vv : Value} {v : V} {P : Bool → Hp → Prop} (rv : Rep s.heap vv v) (hw : W h₀ σ s.heap) (h : truth v P σ) :
    wpAny (model prog w) A (truthy vv) (PB h₀ σ s P) E0 s := by
  unfold truth at h
  split at h
  · obtain rfl := rv.inone; exact truthy_none ⟨_, ⟨.refl hw, Eq.refl _, Eq.refl _⟩, h⟩
  · obtain rfl := rv.ibool; exact wpAny_truthy_bool ⟨_, ⟨.refl hw, Eq.refl _, Eq.refl _⟩, h⟩
  · obtain ⟨t, rfl⟩ := rv.iint; exact truthy_int ⟨_, ⟨.refl hw, Eq.refl _, Eq.refl _⟩, h⟩
  · obtain rfl := rv.iref
    obtain ⟨xs, e, q⟩ := h
    obtain ⟨vs, hl, r⟩ := hw.list e
    have hb := hw.len e
    have hlen := r.length
    unfold BIG at hb
    refine wpAny_truthy_list hl (by simp; omega) ⟨_, ⟨.refl hw, Eq.refl _, Eq.refl _⟩, ?_⟩
    have : (!vs.toArray.isEmpty) = !xs.isEmpty := by
      cases xs with
      | nil => rw [r.inil]; rfl
      | cons x xs => obtain ⟨u, us, rfl, _⟩ := r.icons; rfl
    rw [this]; exact q
  · exact h.elim
end

/-! N4 -/
inductive BI where
  | len | min | max | sum | range | list | abs | sorted | divmod | reversed | zip | iter | object | str | isinstance
  deriving DecidableEq
noncomputable def BI.val : BI → Value
  | .len => .builtin "len"
  | .min => .builtin "min"
  | .max => .builtin "max"
  | .sum => .builtin "sum"
  | .range => .type "range"
  | .list => .type "list"
  | .abs => .builtin "abs"
  | .sorted => .builtin "sorted"
  | .divmod => .builtin "divmod"
  | .reversed => .type "reversed"
  | .zip => .type "zip"
  | .iter => .builtin "iter"
  | .object => .type "object"
  | .str => .type "str"
  | .isinstance => .builtin "isinstance"
noncomputable def BI.name : BI → Str
  | .len => "len" | .min => "min" | .max => "max" | .sum => "sum" | .range => "range" | .list => "list" | .abs => "abs" | .sorted => "sorted" | .divmod => "divmod" | .reversed => "reversed" | .zip => "zip" | .iter => "iter" | .object => "object" | .str => "str" | .isinstance => "isinstance"
noncomputable def BI.isType : BI → Bool
  | .range => true | .list => true | .reversed => true | .zip => true | .object => true | .str => true | _ => false

noncomputable def rlen (a b c : Int) : Nat := if 0 < c then (b - a).toNat else (a - b).toNat
noncomputable def rok (a b c : Int) : Prop := (c = 1 ∨ c = -1) ∧ a.natAbs ≤ 1000000000 ∧ b.natAbs ≤ 1000000000
theorem rok_small {a b c : Int} (h : rok a b c) : Builtin.Range.small a b c = true := by
  obtain ⟨h1, h2, h3⟩ := h
  rcases h1 with rfl | rfl
  · exact small_one (by omega) (by omega) (by omega) (by omega)
  · unfold Builtin.Range.small Builtin.Range.rangeSize Builtin.Range.rangeFitsLong
    rw [if_neg (by decide)]
    simp only [Bool.and_eq_true, decide_eq_true_eq, Bool.or_eq_true, beq_iff_eq]
    split <;> simp <;> omega
theorem rok_size {a b c : Int} (h : rok a b c) : Builtin.Range.rangeSize a b c = (rlen a b c : Nat) := by
  obtain ⟨h1, h2, h3⟩ := h
  unfold Builtin.Range.rangeSize rlen
  rcases h1 with rfl | rfl
  · simp; split <;> omega
  · simp; split <;> omega

section
variable {prog : Program} {w : World} {A : Around} {s : Shared} {h₀ : Heap} {mg mb : Str → Option Value} {σ : Hp} {Q : V → Hp → Prop}

/-- what a call asks -/
structure CallS (fv : Value) (args : List V) (Q : V → Hp → Prop) (σ : Hp) : Prop where
  go : ∀ ⦃prog : Program⦄ ⦃w : World⦄ ⦃A : Around⦄ ⦃s : Shared⦄ ⦃h₀ : Heap⦄ ⦃mg mb : Str → Option Value⦄ ⦃n : Nat⦄ ⦃vargs : List Value⦄, Gnd prog h₀ mg mb → Room A n → Reps s.heap vargs args → W h₀ σ s.heap →
  wpAny (model prog w) A (call fv vargs) (PV h₀ σ s Q) E0 s
noncomputable def rngC (args : List V) (Q : V → Hp → Prop) (σ : Hp) : Prop := match args with
  | [.int b] => Q (.rng 0 b 1) σ
  | [.int a, .int b] => Q (.rng a b 1) σ
  | [.int a, .int b, .int c] => c ≠ 0 ∧ Q (.rng a b c) σ
  | _ => False
noncomputable def opCall (f : BI) (args : List V) (Q : V → Hp → Prop) (σ : Hp) : Prop := match f with
  | .range => rngC args Q σ
  | f => CallS f.val args Q σ

theorem reps_ints {h : Heap} : ∀ {vs : List Value} {ns : List Int}, Reps h vs (ns.map .int) → IntsAre vs ns
  | vs, [], r => by rw [r.inil]; exact .nil
  | vs, n :: ns, r => by
    obtain ⟨v, us, rfl, r, rs⟩ := Reps.icons r
    obtain ⟨t, rfl⟩ := r.iint
    exact .cons _ _ (reps_ints rs)
theorem one_rep {h : Heap} {vs : List Value} {x : V} (r : Reps h vs [x]) : ∃ v, vs = [v] ∧ Rep h v x := by
  obtain ⟨v, us, rfl, r1, r2⟩ := r.icons
  rw [r2.inil]; exact ⟨_, rfl, r1⟩
theorem two_rep {h : Heap} {vs : List Value} {x y : V} (r : Reps h vs [x, y]) : ∃ v u, vs = [v, u] ∧ Rep h v x ∧ Rep h u y := by
  obtain ⟨v, us, rfl, r1, r2⟩ := r.icons
  obtain ⟨u, rfl, q⟩ := one_rep r2; exact ⟨_, _, rfl, r1, q⟩
theorem range_call {args : List V} (h : rngC args Q σ) : CallS (.type "range") args Q σ := by
  refine CallS.mk ?_
  intro prog w A s h₀ mg mb n vargs G R ra hw
  unfold rngC at h
  split at h
  · obtain ⟨v, rfl, r⟩ := one_rep ra; obtain ⟨t, rfl⟩ := r.iint
    exact call_range_1 ⟨_, σ, .rng (Heap.get?_push_size _ rfl), ⟨hw.extend (fun b o e => Heap.get?_push_of_some _ e), Eq.refl _, Eq.refl _⟩, h⟩
  · obtain ⟨v, u, rfl, r, r'⟩ := two_rep ra; obtain ⟨t, rfl⟩ := r.iint; obtain ⟨t', rfl⟩ := r'.iint
    exact call_range_2 ⟨_, σ, .rng (Heap.get?_push_size _ rfl), ⟨hw.extend (fun b o e => Heap.get?_push_of_some _ e), Eq.refl _, Eq.refl _⟩, h⟩
  · obtain ⟨v1, us, rfl, r1, r2⟩ := ra.icons
    obtain ⟨v, u, rfl, r, r'⟩ := two_rep r2; obtain ⟨t, rfl⟩ := r.iint; obtain ⟨t', rfl⟩ := r'.iint; obtain ⟨t1, rfl⟩ := r1.iint
    exact call_range_3 h.1 ⟨_, σ, .rng (Heap.get?_push_size _ rfl), ⟨hw.extend (fun b o e => Heap.get?_push_of_some _ e), Eq.refl _, Eq.refl _⟩, h.2⟩ (.inr (pylong G hw R))
  · exact h.elim
theorem opCall_ok {f : BI} {args : List V} (h : opCall f args Q σ) : CallS f.val args Q σ := by
  cases f with
  | range => exact range_call h
  | _ => exact h
theorem call_len {a : Addr} {xs : List V} (e : listAt σ a = some xs) (q : Q (.int xs.length) σ) : opCall .len [.ref a] Q σ := by
  refine CallS.mk ?_
  intro prog w A s h₀ mg mb n vargs G R ra hw
  obtain ⟨v, rfl, r⟩ := one_rep ra; obtain rfl := r.iref
  obtain ⟨vs, hl, r⟩ := hw.list e
  have hb := hw.len e
  have hlen := r.length
  unfold BIG at hb
  refine Calls.call_len_list hl (by simp; omega) (PV.same hw (.int _ _) ?_ _)
  simp only [List.size_toArray, hlen]; exact q
theorem call_min {a b : Int} (q : Q (.int (if b < a then b else a)) σ) : opCall .min [.int a, .int b] Q σ := by
  refine CallS.mk ?_
  intro prog w A s h₀ mg mb n vargs G R ra hw
  obtain ⟨v, u, rfl, r, r'⟩ := two_rep ra; obtain ⟨t, rfl⟩ := r.iint; obtain ⟨t', rfl⟩ := r'.iint
  refine min_two_ints R.handled fun h' tk k => ?_
  refine ⟨_, σ, ?_, ⟨hw.extend k, Eq.refl _, Eq.refl _⟩, q⟩
  split <;> exact .int _ _
theorem call_sum {a : Addr} {ns : List Int} (e : listAt σ a = some (ns.map .int)) (q : Q (.int ns.sum) σ) : opCall .sum [.ref a] Q σ := by
  refine CallS.mk ?_
  intro prog w A s h₀ mg mb n vargs G R ra hw
  obtain ⟨v, rfl, r⟩ := one_rep ra; obtain rfl := r.iref
  obtain ⟨vs, hl, r⟩ := hw.list e
  have hi := reps_ints r
  obtain ⟨xs, hx⟩ := hi.allInts.items
  rw [hx] at hl
  refine sum_intListG R.handled hl fun h' tk t' k => ?_
  refine ⟨_, σ, .int _ _, ⟨hw.extend k, Eq.refl _, Eq.refl _⟩, ?_⟩
  have e2 : preSum (numAt xs) xs.size = ns.sum := by
    have := hi.numsOf
    rw [show vs = vs.toArray.toList from rfl, hx, nums_intItems] at this
    rw [preSum_eq, List.take_of_length_le (by simp), this]
  rw [e2]; exact q
theorem call_list {a : Addr} {xs : List V} (e : listAt σ a = some xs) (q : newL xs Q σ) : opCall .list [.ref a] Q σ := by
  refine CallS.mk ?_
  intro prog w A s h₀ mg mb n vargs G R ra hw
  obtain ⟨v, rfl, r⟩ := one_rep ra; obtain rfl := r.iref
  obtain ⟨vs, hl, r⟩ := hw.list e
  have hb := hw.len e
  have hlen := r.length
  obtain ⟨o, ho, hc, n, hd⟩ := id hl
  exact call_list_seq _ (.inl rfl) ho hc hd (fun h' c' k g => PV.new (n := c') hw k (get_push_none _) g r q) (by simp; exact big_line (by omega))
inductive Meth where
  | append | extend | pop | index | reverse | sort
  deriving DecidableEq
noncomputable def Meth.name : Meth → Str
  | .append => "append" | .extend => "extend" | .pop => "pop" | .index => "index" | .reverse => "reverse" | .sort => "sort"
noncomputable def Meth.id : Meth → String
  | .append => "list.append" | .extend => "list.extend" | .pop => "list.pop" | .index => "list.index" | .reverse => "list.reverse" | .sort => "list.sort"
/-- what a method asks -/
structure opMeth (m : Meth) (o : V) (args : List V) (Q : V → Hp → Prop) (σ : Hp) : Prop where
  go : ∀ ⦃prog : Program⦄ ⦃w : World⦄ ⦃A : Around⦄ ⦃s : Shared⦄ ⦃h₀ : Heap⦄ ⦃mg mb : Str → Option Value⦄ ⦃n : Nat⦄ ⦃vo : Value⦄ ⦃vargs : List Value⦄, Gnd prog h₀ mg mb → Room A n → Rep s.heap vo o → Reps s.heap vargs args → W h₀ σ s.heap →
  wpAny (model prog w) A (call (.builtin m.id) (vo :: vargs)) (PV h₀ σ s Q) E0 s
theorem m_append {a : Addr} {x : V} {xs : List V} (e : σ a = some (.list xs)) (hb : xs.length < BIG) (q : Q .none (upd σ a (.list (xs ++ [x])))) : opMeth .append (.ref a) [x] Q σ := by
  refine opMeth.mk ?_
  intro prog w A s h₀ mg mb n0 vo vargs G R ro ra hw
  obtain ⟨v, rfl, r1⟩ := one_rep ra
  obtain rfl := ro.iref
  obtain ⟨vs, n, g, r⟩ := hw.mlist e
  have hlen := r.length
  have hsz : vs.length ≤ sizeLine := big_line (by omega)
  refine call_meets PySem.F.slot_list_append ⟨_, g, rfl⟩ PySem.F.entry_list_append (PySem.F.args_list_append_2 _ _) (AutoListH.list_append_list_val_0 _ vs.toArray n _ (by simpa using hsz)) ⟨g, ?_⟩
  exact ⟨_, _, .none, ⟨hw.mapSeq e g _ (by simpa using r.append (.cons r1 .nil)) (by simp; omega), Eq.refl _, Eq.refl _⟩, q⟩
end

/-! M5 -/
/-! what a text asks of a postcondition -/
inductive Tgt where
  | name (i : Nat)
  | tup (is : List Nat)
inductive IK where
  | plain | enum | rev
  deriving DecidableEq
abbrev Frm := List (Option V)

inductive It where
  | lst (a : Addr) (i : Nat)
  | rng (x : Int) (n : Nat) (c : Int)
  | vals (vs : List V)
  | enm (k : Nat) (a : Addr)

noncomputable def itStart (k : IK) (x : V) (Q : It → Hp → Prop) (σ : Hp) : Prop :=
  match k, x with
  | .plain, .ref a => (∃ xs, listAt σ a = some xs) ∧ Q (.lst a 0) σ
  | .plain, .rng a b c => rok a b c ∧ Q (.rng a (rlen a b c) c) σ
  | .plain, .tup vs => Q (.vals vs) σ
  | .enum, .ref a => (∃ xs, σ a = some (.list xs)) ∧ Q (.enm 0 a) σ
  | .rev, .rng a b c => a = 0 ∧ c = 1 ∧ 0 ≤ b ∧ b ≤ 1000000 ∧ Q (.rng (b - 1) b.toNat (-1)) σ
  | _, _ => False

noncomputable def itNext (it : It) (σ : Hp) : Option (Option (V × It)) :=
  match it with
  | .lst a i => match listAt σ a with
    | some xs => (match xs[i]? with | some x => some (some (x, .lst a (i + 1))) | none => some none)
    | none => none
  | .rng _ 0 _ => some none
  | .rng x (n + 1) c => some (some (.int x, .rng (x + c) n c))
  | .vals [] => some none
  | .vals (v :: vs) => some (some (v, .vals vs))
  | .enm k a => match listAt σ a with
    | some xs => (match xs[k]? with | some x => some (some (.tup [.int k, x], .enm (k + 1) a)) | none => some none)
    | none => none

noncomputable def setAll : List Nat → List V → Frm → Frm
  | i :: is, v :: vs, F => setAll is vs (F.set i (some v))
  | _, _, F => F

noncomputable def bindT (t : Tgt) (x : V) (Q : Frm → Prop) (F : Frm) (σ : Hp) : Prop :=
  match t, x with
  | .name i, x => Q (F.set i (some x))
  | .tup is, .tup vs => is.length = vs.length ∧ Q (setAll is vs F)
  | _, _ => False

noncomputable def partV (v : V) (Q : Option Int → Prop) : Prop := match v with | .none => Q .none | .int i => Q (some i) | _ => False
noncomputable def pickL (xs : List V) (lo hi st : Option Int) : List V :=
  (sliceRange (sliceBounds lo hi st xs.length).1 (sliceBounds lo hi st xs.length).2.1 (sliceBounds lo hi st xs.length).2.2).filterMap (xs[·]?)
noncomputable def opSlice (o lo hi st : V) (Q : V → Hp → Prop) (σ : Hp) : Prop :=
  match o with
  | .ref a => ∃ xs, listAt σ a = some xs ∧ partV lo fun l => partV hi fun h => partV st fun s => s ≠ some 0 ∧ newL (pickL xs l h s) Q σ
  | _ => False

abbrev Fns := Nat → List V → (V → Hp → Prop) → Hp → Prop
/-- an expression: as a value, as a test -/
structure PE where
  v : Fns → (V → Hp → Prop) → Frm → Hp → Prop
  t : Fns → (Bool → Hp → Prop) → Frm → Hp → Prop
noncomputable def vE (Φ : Fns) (p : PE) (Q : V → Hp → Prop) (F : Frm) (σ : Hp) : Prop := p.v Φ Q F σ
noncomputable def vT (Φ : Fns) (p : PE) (P : Bool → Hp → Prop) (F : Frm) (σ : Hp) : Prop := p.t Φ P F σ
noncomputable def PE.of (v : Fns → (V → Hp → Prop) → Frm → Hp → Prop) : PE := ⟨v, fun Φ P F σ => v Φ (fun x σ => truth x P σ) F σ⟩
noncomputable def vEs (Φ : Fns) : List PE → (List V → Hp → Prop) → Frm → Hp → Prop
  | [], Q, F, σ => Q [] σ
  | e :: es, Q, F, σ => vE Φ e (fun v σ => vEs Φ es (fun vs σ => Q (v :: vs) σ) F σ) F σ
noncomputable def vO (Φ : Fns) : Option PE → (V → Hp → Prop) → Frm → Hp → Prop
  | .none, Q, F, σ => Q .none σ
  | some e, Q, F, σ => vE Φ e Q F σ
noncomputable def vTs (Φ : Fns) : List PE → (Bool → Hp → Prop) → Frm → Hp → Prop
  | [], Q, F, σ => Q true σ
  | e :: es, Q, F, σ => vT Φ e (fun b σ => if b then vTs Φ es Q F σ else Q false σ) F σ
noncomputable def negQ (Q : V → Hp → Prop) (a : V) (σ : Hp) : Prop := match a with | .int x => Q (.int (-x)) σ | _ => False
noncomputable def look (F : Frm) (i : Nat) (K : V → Prop) : Prop := match F[i]? with | some (some v) => K v | _ => False
noncomputable def frOf (fmap : List (Option Nat)) (F : Frm) : Frm := fmap.map fun j => match j with | some j => (match F[j]? with | some v => v | none => none) | none => none
/-- the turns of a comprehension -/
inductive CompG (Φ : Fns) (ifs : List PE) (elt : PE) (t : Tgt) (F0 : Frm) (Q : V → Hp → Prop) (I : It) (σ : Hp) : Prop
  | mk (Inv : Nat → It → List V → Hp → Prop) (h1 : (∃ n, Inv n I [] σ)) (h2 : ∀ n I acc σ, Inv n I acc σ →
        match itNext I σ with
        | none => False
        | some none => newL acc Q σ
        | some (some (x, I')) => bindT t x (fun F1 => vTs Φ ifs (fun b σ => if b then vE Φ elt (fun y σ => acc.length < BIG ∧ ∃ m, m < n ∧ Inv m I' (acc ++ [y]) σ) F1 σ else ∃ m, m < n ∧ Inv m I' acc σ) F1 σ) F0 σ) : CompG Φ ifs elt t F0 Q I σ
namespace PE
noncomputable def int (i : Int) : PE := .of fun Φ Q F σ => Q (.int i) σ
noncomputable def bool (b : Bool) : PE := .of fun Φ Q F σ => Q (.bool b) σ
noncomputable def none : PE := .of fun Φ Q F σ => Q .none σ
noncomputable def str (s : Str) : PE := .of fun Φ Q F σ => Q (.str s) σ
noncomputable def var (i : Nat) : PE := .of fun Φ Q F σ => look F i (fun v => Q v σ)
noncomputable def bin (op : Operator) (l r : PE) : PE := .of fun Φ Q F σ => vE Φ l (fun a σ => vE Φ r (fun b σ => opBin op a b Q σ) F σ) F σ
noncomputable def neg (e : PE) : PE := .of fun Φ Q F σ => vE Φ e (negQ Q) F σ
noncomputable def not (e : PE) : PE := ⟨fun Φ Q F σ => vT Φ e (fun b σ => Q (.bool (!b)) σ) F σ, fun Φ P F σ => vT Φ e (fun b σ => P (!b) σ) F σ⟩
noncomputable def cmp (op : CmpOp) (l r : PE) : PE := .of fun Φ Q F σ => vE Φ l (fun a σ => vE Φ r (fun b σ => opCmp op a b Q σ) F σ) F σ
noncomputable def and (l r : PE) : PE := ⟨fun Φ Q F σ => vE Φ l (fun a σ => truth a (fun b σ => if b then vE Φ r Q F σ else Q a σ) σ) F σ, fun Φ P F σ => vT Φ l (fun b σ => if b then vT Φ r P F σ else P false σ) F σ⟩
noncomputable def or (l r : PE) : PE := ⟨fun Φ Q F σ => vE Φ l (fun a σ => truth a (fun b σ => if b then Q a σ else vE Φ r Q F σ) σ) F σ, fun Φ P F σ => vT Φ l (fun b σ => if b then P true σ else vT Φ r P F σ) F σ⟩
noncomputable def ite (c a b : PE) : PE := .of fun Φ Q F σ => vT Φ c (fun t σ => if t then vE Φ a Q F σ else vE Φ b Q F σ) F σ
noncomputable def sub (o i : PE) : PE := .of fun Φ Q F σ => vE Φ o (fun a σ => vE Φ i (fun b σ => opSub a b Q σ) F σ) F σ
noncomputable def slice (o : PE) (lo hi st : Option PE) : PE := .of fun Φ Q F σ => vE Φ o (fun a σ => vO Φ lo (fun l σ => vO Φ hi (fun h σ => vO Φ st (fun s σ => opSlice a l h s Q σ) F σ) F σ) F σ) F σ
noncomputable def list (es : List PE) : PE := .of fun Φ Q F σ => vEs Φ es (fun vs σ => newL vs Q σ) F σ
noncomputable def tuple (es : List PE) : PE := .of fun Φ Q F σ => vEs Φ es (fun vs σ => vs.length ≤ BIG ∧ Q (.tup vs) σ) F σ
noncomputable def call (f : BI) (es : List PE) : PE := .of fun Φ Q F σ => vEs Φ es (fun vs σ => opCall f vs Q σ) F σ
noncomputable def ucall (f : Nat) (es : List PE) : PE := .of fun Φ Q F σ => vEs Φ es (fun vs σ => Φ f vs Q σ) F σ
noncomputable def meth (m : Meth) (o : PE) (es : List PE) : PE := .of fun Φ Q F σ => vE Φ o (fun a σ => (∃ b xs, a = .ref b ∧ σ b = some (.list xs)) ∧ vEs Φ es (fun vs σ => opMeth m a vs Q σ) F σ) F σ
noncomputable def comp (fm : List (Option Nat)) (elt : PE) (t : Tgt) (k : IK) (it : PE) (ifs : List PE) : PE := .of fun Φ Q F σ => vE Φ it (fun x σ => itStart k x (fun I σ => CompG Φ ifs elt t (frOf fm F) Q I σ) σ) F σ
end PE
inductive Fl where
  | next | brk | cont
  | ret (v : V)
noncomputable def PS : Type := Fns → (Fl → Frm → Hp → Prop) → Frm → Hp → Prop
noncomputable def vS (Φ : Fns) (p : PS) (Q : Fl → Frm → Hp → Prop) (F : Frm) (σ : Hp) : Prop := p Φ Q F σ
/-- what comes behind a statement -/
structure Seq (fl : Fl) (A B : Prop) : Prop where
  go : match fl with
    | .next => A
    | _ => B
noncomputable def vSs (Φ : Fns) : List PS → (Fl → Frm → Hp → Prop) → Frm → Hp → Prop
  | [], Q, F, σ => Q .next F σ
  | s :: ss, Q, F, σ => vS Φ s (fun fl F σ => Seq fl (vSs Φ ss Q F σ) (Q fl F σ)) F σ
inductive ForG (Φ : Fns) (b : List PS) (t : Tgt) (Q : Fl → Frm → Hp → Prop) (I : It) (F : Frm) (σ : Hp) : Prop
  | mk (Inv : Nat → It → Frm → Hp → Prop) (h1 : (∃ n, Inv n I F σ)) (h2 : ∀ n I F σ, Inv n I F σ →
        match itNext I σ with
        | none => False
        | some none => Q .next F σ
        | some (some (x, I')) => bindT t x (fun F1 => vSs Φ b (fun fl F σ => match fl with
          | .next => ∃ m, m < n ∧ Inv m I' F σ
          | .cont => ∃ m, m < n ∧ Inv m I' F σ
          | .brk => Q .next F σ
          | .ret v => Q (.ret v) F σ) F1 σ) F σ) : ForG Φ b t Q I F σ
inductive WhileG (Φ : Fns) (c : PE) (b : List PS) (Q : Fl → Frm → Hp → Prop) (F : Frm) (σ : Hp) : Prop
  | mk (Inv : Nat → Frm → Hp → Prop) (h1 : (∃ n, Inv n F σ)) (h2 : ∀ n F σ, Inv n F σ →
      vT Φ c (fun t σ => if t then vSs Φ b (fun fl F σ => match fl with
        | .next => ∃ m, m < n ∧ Inv m F σ
        | .cont => ∃ m, m < n ∧ Inv m F σ
        | .brk => Q .next F σ
        | .ret v => Q (.ret v) F σ) F σ else Q .next F σ) F σ) : WhileG Φ c b Q F σ
noncomputable def augI (op : Operator) (x y : Int) (Q : V → Hp → Prop) (σ : Hp) : Prop := match op with
  | .Add => Q (.int (x + y)) σ
  | .Mult => IntMulOk x y ∧ Q (.int (x * y)) σ
  | _ => False
noncomputable def opAug (op : Operator) (a b : V) (Q : V → Hp → Prop) (σ : Hp) : Prop := match a, b with
  | .int x, .int y => augI op x y Q σ
  | _, _ => False
namespace PS
noncomputable def expr (e : PE) : PS := fun Φ R F σ => vE Φ e (fun _ σ => R .next F σ) F σ
noncomputable def assign (t : Tgt) (e : PE) : PS := fun Φ R F σ => vE Φ e (fun v σ => bindT t v (fun F' => R .next F' σ) F σ) F σ
noncomputable def setitem (o i e : PE) : PS := fun Φ R F σ => vE Φ e (fun v σ => vE Φ o (fun ov σ => vE Φ i (fun iv σ => opSet ov iv v (fun σ => R .next F σ) σ) F σ) F σ) F σ
noncomputable def aug (i : Nat) (op : Operator) (e : PE) : PS := fun Φ R F σ => look F i (fun x => vE Φ e (fun b σ => opAug op x b (fun v σ => R .next (F.set i (some v)) σ) σ) F σ)
noncomputable def augsub (o i : PE) (op : Operator) (e : PE) : PS := fun Φ R F σ => vE Φ o (fun a σ => vE Φ i (fun b σ => opSub a b (fun x σ => vE Φ e (fun y σ => opAug op x y (fun z σ => opSet a b z (fun σ => R .next F σ) σ) σ) F σ) σ) F σ) F σ
noncomputable def ifs (c : PE) (a b : List PS) : PS := fun Φ R F σ => vT Φ c (fun t σ => if t then vSs Φ a R F σ else vSs Φ b R F σ) F σ
noncomputable def whil (c : PE) (b : List PS) : PS := fun Φ R F σ => WhileG Φ c b R F σ
noncomputable def «for» (t : Tgt) (k : IK) (it : PE) (b : List PS) : PS := fun Φ R F σ => vE Φ it (fun x σ => itStart k x (fun I σ => ForG Φ b t R I F σ) σ) F σ
noncomputable def ret (e : PE) : PS := fun Φ R F σ => vE Φ e (fun v σ => R (.ret v) F σ) F σ
noncomputable def brk : PS := fun Φ R F σ => R .brk F σ
noncomputable def cont : PS := fun Φ R F σ => R .cont F σ
end PS

/-! the walk's equations -/
section
variable (Φ : Fns) (Q : V → Hp → Prop) (P : Bool → Hp → Prop) (R : Fl → Frm → Hp → Prop) (F : Frm) (σ : Hp)
theorem e_int (i : Int) : vE Φ (.int i) Q F σ = Q (.int i) σ := rfl
theorem e_bool (b : Bool) : vE Φ (.bool b) Q F σ = Q (.bool b) σ := rfl
theorem e_none : vE Φ .none Q F σ = Q .none σ := rfl
theorem e_str (s : Str) : vE Φ (.str s) Q F σ = Q (.str s) σ := rfl
theorem e_bin (op : Operator) (l r : PE) : vE Φ (.bin op l r) Q F σ = vE Φ l (fun a σ => vE Φ r (fun b σ => opBin op a b Q σ) F σ) F σ := rfl
theorem e_cmp (op : CmpOp) (l r : PE) : vE Φ (.cmp op l r) Q F σ = vE Φ l (fun a σ => vE Φ r (fun b σ => opCmp op a b Q σ) F σ) F σ := rfl
theorem e_and (l r : PE) : vE Φ (.and l r) Q F σ = vE Φ l (fun a σ => truth a (fun b σ => if b then vE Φ r Q F σ else Q a σ) σ) F σ := rfl
theorem e_or (l r : PE) : vE Φ (.or l r) Q F σ = vE Φ l (fun a σ => truth a (fun b σ => if b then Q a σ else vE Φ r Q F σ) σ) F σ := rfl
theorem e_ite (c a b : PE) : vE Φ (.ite c a b) Q F σ = vT Φ c (fun t σ => if t then vE Φ a Q F σ else vE Φ b Q F σ) F σ := rfl
theorem e_sub (o i : PE) : vE Φ (.sub o i) Q F σ = vE Φ o (fun a σ => vE Φ i (fun b σ => opSub a b Q σ) F σ) F σ := rfl
theorem e_slice (o : PE) (lo hi st : Option PE) : vE Φ (.slice o lo hi st) Q F σ = vE Φ o (fun a σ => vO Φ lo (fun l σ => vO Φ hi (fun h σ => vO Φ st (fun s σ => opSlice a l h s Q σ) F σ) F σ) F σ) F σ := rfl
theorem e_list (es : List PE) : vE Φ (.list es) Q F σ = vEs Φ es (fun vs σ => newL vs Q σ) F σ := rfl
theorem e_tuple (es : List PE) : vE Φ (.tuple es) Q F σ = vEs Φ es (fun vs σ => vs.length ≤ BIG ∧ Q (.tup vs) σ) F σ := rfl
theorem e_call (f : BI) (es : List PE) : vE Φ (.call f es) Q F σ = vEs Φ es (fun vs σ => opCall f vs Q σ) F σ := rfl
theorem e_ucall (f : Nat) (es : List PE) : vE Φ (.ucall f es) Q F σ = vEs Φ es (fun vs σ => Φ f vs Q σ) F σ := rfl
theorem e_meth (m : Meth) (o : PE) (es : List PE) : vE Φ (.meth m o es) Q F σ = vE Φ o (fun a σ => (∃ b xs, a = .ref b ∧ σ b = some (.list xs)) ∧ vEs Φ es (fun vs σ => opMeth m a vs Q σ) F σ) F σ := rfl
theorem t_not (e : PE) : vT Φ (.not e) P F σ = vT Φ e (fun b σ => P (!b) σ) F σ := rfl
theorem t_and (l r : PE) : vT Φ (.and l r) P F σ = vT Φ l (fun b σ => if b then vT Φ r P F σ else P false σ) F σ := rfl
theorem t_or (l r : PE) : vT Φ (.or l r) P F σ = vT Φ l (fun b σ => if b then P true σ else vT Φ r P F σ) F σ := rfl
theorem t_cmp (op : CmpOp) (l r : PE) : vT Φ (.cmp op l r) P F σ = vE Φ l (fun a σ => vE Φ r (fun b σ => opCmp op a b (fun v σ => truth v P σ) σ) F σ) F σ := rfl
theorem t_call (f : BI) (es : List PE) : vT Φ (.call f es) P F σ = vEs Φ es (fun vs σ => opCall f vs (fun v σ => truth v P σ) σ) F σ := rfl
theorem t_ucall (f : Nat) (es : List PE) : vT Φ (.ucall f es) P F σ = vEs Φ es (fun vs σ => Φ f vs (fun v σ => truth v P σ) σ) F σ := rfl
theorem s_expr (e : PE) : vS Φ (.expr e) R F σ = vE Φ e (fun _ σ => R .next F σ) F σ := rfl
theorem s_assign (t : Tgt) (e : PE) : vS Φ (.assign t e) R F σ = vE Φ e (fun v σ => bindT t v (fun F' => R .next F' σ) F σ) F σ := rfl
theorem s_setitem (o i e : PE) : vS Φ (.setitem o i e) R F σ = vE Φ e (fun v σ => vE Φ o (fun ov σ => vE Φ i (fun iv σ => opSet ov iv v (fun σ => R .next F σ) σ) F σ) F σ) F σ := rfl
theorem s_ifs (c : PE) (a b : List PS) : vS Φ (.ifs c a b) R F σ = vT Φ c (fun t σ => if t then vSs Φ a R F σ else vSs Φ b R F σ) F σ := rfl
theorem s_ret (e : PE) : vS Φ (.ret e) R F σ = vE Φ e (fun v σ => R (.ret v) F σ) F σ := rfl
theorem s_brk : vS Φ .brk R F σ = R .brk F σ := rfl
theorem s_cont : vS Φ .cont R F σ = R .cont F σ := rfl
theorem e_not (e : PE) : vE Φ (.not e) Q F σ = vT Φ e (fun b σ => Q (.bool (!b)) σ) F σ := rfl
theorem ss_nil : vSs Φ [] R F σ = R .next F σ := rfl
theorem es_nil (K : List V → Hp → Prop) : vEs Φ [] K F σ = K [] σ := rfl
theorem es_cons (K : List V → Hp → Prop) (e : PE) (es : List PE) : vEs Φ (e :: es) K F σ = vE Φ e (fun v σ => vEs Φ es (fun vs σ => K (v :: vs) σ) F σ) F σ := rfl
theorem o_none : vO Φ none Q F σ = Q .none σ := rfl
theorem o_some (e : PE) : vO Φ (some e) Q F σ = vE Φ e Q F σ := rfl
theorem ts_nil : vTs Φ [] P F σ = P true σ := rfl
theorem ts_cons (e : PE) (es : List PE) : vTs Φ (e :: es) P F σ = vT Φ e (fun b σ => if b then vTs Φ es P F σ else P false σ) F σ := rfl
theorem e_var (i : Nat) : vE Φ (.var i) Q F σ = look F i (fun v => Q v σ) := rfl
theorem e_neg (e : PE) : vE Φ (.neg e) Q F σ = vE Φ e (negQ Q) F σ := rfl
theorem n_int (x : Int) : negQ Q (.int x) σ = Q (.int (-x)) σ := rfl
theorem e_comp (fm : List (Option Nat)) (elt : PE) (t : Tgt) (k : IK) (it : PE) (ifs : List PE) : vE Φ (.comp fm elt t k it ifs) Q F σ = vE Φ it (fun x σ => itStart k x (fun I σ => CompG Φ ifs elt t (frOf fm F) Q I σ) σ) F σ := rfl
theorem t_var (i : Nat) : vT Φ (.var i) P F σ = look F i (fun v => truth v P σ) := rfl
theorem t_sub (o i : PE) : vT Φ (.sub o i) P F σ = vE Φ o (fun a σ => vE Φ i (fun b σ => opSub a b (fun v σ => truth v P σ) σ) F σ) F σ := rfl
theorem s_aug (i : Nat) (op : Operator) (e : PE) : vS Φ (.aug i op e) R F σ = look F i (fun x => vE Φ e (fun b σ => opAug op x b (fun v σ => R .next (F.set i (some v)) σ) σ) F σ) := rfl
theorem a_add (x y : Int) : opAug .Add (.int x) (.int y) Q σ = Q (.int (x + y)) σ := rfl
theorem a_mul (x y : Int) : opAug .Mult (.int x) (.int y) Q σ = (IntMulOk x y ∧ Q (.int (x * y)) σ) := rfl
theorem s_while (c : PE) (b : List PS) : vS Φ (.whil c b) R F σ = WhileG Φ c b R F σ := rfl
theorem s_for (t : Tgt) (k : IK) (it : PE) (b : List PS) : vS Φ (.for t k it b) R F σ = vE Φ it (fun x σ => itStart k x (fun I σ => ForG Φ b t R I F σ) σ) F σ := rfl
noncomputable def seqQ (Φ : Fns) (ss : List PS) (R : Fl → Frm → Hp → Prop) (fl : Fl) (F : Frm) (σ : Hp) : Prop := Seq fl (vSs Φ ss R F σ) (R fl F σ)
theorem q_next (ss : List PS) : seqQ Φ ss R .next F σ = vSs Φ ss R F σ := propext ⟨fun h => h.go, fun h => ⟨h⟩⟩
theorem q_brk (ss : List PS) : seqQ Φ ss R .brk F σ = R .brk F σ := propext ⟨fun h => h.go, fun h => ⟨h⟩⟩
theorem q_cont (ss : List PS) : seqQ Φ ss R .cont F σ = R .cont F σ := propext ⟨fun h => h.go, fun h => ⟨h⟩⟩
theorem q_ret (ss : List PS) (v : V) : seqQ Φ ss R (.ret v) F σ = R (.ret v) F σ := propext ⟨fun h => h.go, fun h => ⟨h⟩⟩
theorem go_cons {s : PS} {ss : List PS} {Φ : Fns} {R : Fl → Frm → Hp → Prop} {F : Frm} {σ : Hp} (h : vS Φ s (seqQ Φ ss R) F σ) : vSs Φ (s :: ss) R F σ := h
theorem q_nextI {ss : List PS} {Φ : Fns} {R : Fl → Frm → Hp → Prop} {F : Frm} {σ : Hp} (h : vSs Φ ss R F σ) : seqQ Φ ss R .next F σ := ⟨h⟩
theorem q_brkI {ss : List PS} {Φ : Fns} {R : Fl → Frm → Hp → Prop} {F : Frm} {σ : Hp} (h : R .brk F σ) : seqQ Φ ss R .brk F σ := ⟨h⟩
theorem q_contI {ss : List PS} {Φ : Fns} {R : Fl → Frm → Hp → Prop} {F : Frm} {σ : Hp} (h : R .cont F σ) : seqQ Φ ss R .cont F σ := ⟨h⟩
theorem q_retI {ss : List PS} {v : V} {Φ : Fns} {R : Fl → Frm → Hp → Prop} {F : Frm} {σ : Hp} (h : R (.ret v) F σ) : seqQ Φ ss R (.ret v) F σ := ⟨h⟩
theorem ss_nilI {Φ : Fns} {R : Fl → Frm → Hp → Prop} {F : Frm} {σ : Hp} (h : R .next F σ) : vSs Φ [] R F σ := h
theorem bt_name (i : Nat) (x : V) (K : Frm → Prop) : bindT (.name i) x K F σ = K (F.set i (some x)) := rfl
theorem bt_tup (is : List Nat) (vs : List V) (K : Frm → Prop) : bindT (.tup is) (.tup vs) K F σ = (is.length = vs.length ∧ K (setAll is vs F)) := rfl
theorem c_range1 (b : Int) : opCall .range [.int b] Q σ = Q (.rng 0 b 1) σ := rfl
theorem c_range2 (a b : Int) : opCall .range [.int a, .int b] Q σ = Q (.rng a b 1) σ := rfl
theorem c_range3 (a b c : Int) : opCall .range [.int a, .int b, .int c] Q σ = (c ≠ 0 ∧ Q (.rng a b c) σ) := rfl
theorem i_rng (a b c : Int) (K : It → Hp → Prop) : itStart .plain (.rng a b c) K σ = (rok a b c ∧ K (.rng a (rlen a b c) c) σ) := rfl
theorem i_ref (a : Addr) (K : It → Hp → Prop) : itStart .plain (.ref a) K σ = ((∃ xs, listAt σ a = some xs) ∧ K (.lst a 0) σ) := rfl
theorem i_tup (vs : List V) (K : It → Hp → Prop) : itStart .plain (.tup vs) K σ = K (.vals vs) σ := rfl
theorem i_enm (a : Addr) (K : It → Hp → Prop) : itStart .enum (.ref a) K σ = ((∃ xs, σ a = some (.list xs)) ∧ K (.enm 0 a) σ) := rfl
theorem i_rev (a b c : Int) (K : It → Hp → Prop) : itStart .rev (.rng a b c) K σ = (a = 0 ∧ c = 1 ∧ 0 ≤ b ∧ b ≤ 1000000 ∧ K (.rng (b - 1) b.toNat (-1)) σ) := rfl
theorem look_zero (v : V) (K : V → Prop) : look (some v :: F) 0 K = K v := rfl
theorem look_succ (v : Option V) (i : Nat) (K : V → Prop) : look (v :: F) (i + 1) K = look F i K := rfl
theorem sa_nil (vs : List V) : setAll [] vs F = F := rfl
theorem sa_cons (i : Nat) (is : List Nat) (v : V) (vs : List V) : setAll (i :: is) (v :: vs) F = setAll is vs (F.set i (some v)) := rfl
variable (x y : Int) (b : Bool)
theorem c_lt : opCmp .Lt (.int x) (.int y) Q σ = Q (.bool (decide (x < y))) σ := rfl
theorem c_le : opCmp .LtE (.int x) (.int y) Q σ = Q (.bool (decide (x ≤ y))) σ := rfl
theorem c_gt : opCmp .Gt (.int x) (.int y) Q σ = Q (.bool (decide (y < x))) σ := rfl
theorem c_ge : opCmp .GtE (.int x) (.int y) Q σ = Q (.bool (decide (y ≤ x))) σ := rfl
theorem c_eq : opCmp .Eq (.int x) (.int y) Q σ = Q (.bool (x == y)) σ := rfl
theorem c_ne : opCmp .NotEq (.int x) (.int y) Q σ = Q (.bool (x != y)) σ := rfl
theorem b_add : opBin .Add (.int x) (.int y) Q σ = Q (.int (x + y)) σ := rfl
theorem b_sub : opBin .Sub (.int x) (.int y) Q σ = Q (.int (x - y)) σ := rfl
theorem b_mul : opBin .Mult (.int x) (.int y) Q σ = (IntMulOk x y ∧ Q (.int (x * y)) σ) := rfl
theorem b_div : opBin .FloorDiv (.int x) (.int y) Q σ = (y ≠ 0 ∧ Q (.int (x.fdiv y)) σ) := rfl
theorem b_mod : opBin .Mod (.int x) (.int y) Q σ = (y ≠ 0 ∧ Q (.int (x.fmod y)) σ) := rfl
theorem b_pow : opBin .Pow (.int x) (.int y) Q σ = (0 ≤ y ∧ y ≤ 1000 ∧ x.natAbs < 2 ^ 64 ∧ Q (.int (x ^ y.toNat)) σ) := rfl
theorem b_shr : opBin .RShift (.int x) (.int 1) Q σ = (0 ≤ x ∧ (1 : Int) = 1 ∧ Q (.int (x / 2)) σ) := rfl
theorem t_bool : truth (.bool b) P σ = P b σ := rfl
theorem t_int : truth (.int x) P σ = P (x != 0) σ := rfl
end
/-! which syntax it is that of -/
structure Cfg where
  sc : List (Str × NameKind)
  fns : List Str
noncomputable def isVar : NameKind → Bool
  | .local => true
  | .cell => true
  | .free => true
  | _ => false
noncomputable def Cfg.names (c : Cfg) : List Str := (c.sc.filter fun x => isVar x.2).map (·.1)

noncomputable def fmapOf (c : Cfg) (sc : List (Str × NameKind)) : List (Option Nat) :=
  (sc.filter fun x => isVar x.2).map fun x => if x.2 == .free then some (c.names.idxOf x.1) else none
noncomputable def scOk (c : Cfg) (sc : List (Str × NameKind)) : Bool :=
  decide (sc.map (·.1)).Nodup && sc.all fun x => (x.2 != .free || (c.names.contains x.1 && c.sc.lookup x.1 != some .local)) && (isVar x.2 || x.2 == .globalImplicit)

mutual
/-- a target -/
inductive CG : Cfg → Expr → Tgt → Prop
  | name {c : Cfg} {x : Str} {p : Pos} {i : Nat} : c.names[i]? = some x → c.sc.lookup x ≠ some .free → CG c (.Name x p) (.name i)
  | tup {c : Cfg} {es : List Expr} {k : Nat} {p : Pos} {is : List Nat} : CGs c es is → CG c (.Tuple es k p) (.tup is)
inductive CGs : Cfg → List Expr → List Nat → Prop
  | nil {c : Cfg} : CGs c [] []
  | cons {c : Cfg} {x : Str} {p : Pos} {i : Nat} {es : List Expr} {is : List Nat} : c.names[i]? = some x → c.sc.lookup x ≠ some .free → CGs c es is → CGs c (.Name x p :: es) (i :: is)
end

/-! M6 -/
/-- where a name's cell lies -/
inductive CellAt (c : Cfg) (env : Env) (own : Addr → Prop) (F : Frm) (h₀ : Heap) (σ : Hp) (h : Heap) (i : Nat) (x : Str) : Prop
  | mk (a : Addr) (cv : Option Value) (h1 : env.cells.lookup x = some a) (h2 : h.IsCell a cv) (h3 : σ a = none) (h4 : a ≠ env.locals) (h5 : c.sc.lookup x = some .cell → own a ∧ h₀.get? a = none) (h6 : ∀ v, F[i]? = some (some v) → ∃ w, cv = some w ∧ Rep h w v) : CellAt c env own F h₀ σ h i x
inductive NsHas (c : Cfg) (env : Env) (F : Frm) (h : Heap) : Prop
  | mk (m : Str → Option Value) (h1 : h.Ns env.locals m) (h2 : ∀ (i : Nat) x v, c.names[i]? = some x → env.kindOf x = some .local → F[i]? = some (some v) → ∃ w, m x = some w ∧ Rep h w v) : NsHas c env F h
/-- a frame bears F -/
structure FrOk (c : Cfg) (env : Env) (own : Addr → Prop) (F : Frm) (h₀ : Heap) (σ : Hp) (h : Heap) : Prop where
  kind : env.scope.kind = .function
  glob : env.globals = mainGlobals
  bi : env.builtins = builtinsNs
  gk : ∀ x, c.sc.lookup x = some .globalImplicit → env.kindOf x = some .globalImplicit
  vk : ∀ (i : Nat) x, c.names[i]? = some x → (c.sc.lookup x = some .local ∧ env.kindOf x = some .local) ∨ (c.sc.lookup x = some .cell ∧ env.kindOf x = some .cell) ∨
    (c.sc.lookup x = some .free ∧ (env.kindOf x = some .cell ∨ env.kindOf x = some .free))
  ns : NsHas c env F h
  cell : ∀ (i : Nat) x, c.names[i]? = some x → env.kindOf x ≠ some .local → CellAt c env own F h₀ σ h i x
  inj : ∀ x y a, env.cells.lookup x = some a → env.cells.lookup y = some a → x = y
  loc : own env.locals ∧ σ env.locals = none ∧ h₀.get? env.locals = none
  nd : ∀ (i j : Nat) x, c.names[i]? = some x → c.names[j]? = some x → i = j
  ex : ∀ a, own a → ∃ o, h.get? a = some o

section
variable {prog : Program} {w : World} {A : Around} {s : Shared} {h₀ : Heap} {mg mb : Str → Option Value} {σ σ' : Hp} {c : Cfg} {env : Env} {own : Addr → Prop} {F : Frm} {h h' : Heap}

theorem none_mut {σ : Hp} {a : Addr} (e : σ a = none) : ¬ Mut σ a := fun ⟨o, q, _⟩ => by rw [e] at q; cases q
theorem FrOk.step (f : FrOk c env own F h₀ σ h) (st : Step h₀ σ h σ' h') : FrOk c env own F h₀ σ' h' := by
  refine ⟨f.kind, f.glob, f.bi, f.gk, f.vk, ?_, fun i x e n => ?_, f.inj, ?_, f.nd, fun a oa => (f.ex a oa).elim fun o e => (st.alive a o e).imp fun _ q => q.1⟩
  · obtain ⟨m, n, r⟩ := f.ns
    exact ⟨m, st.ns (none_mut f.loc.2.1) (fun h => h) n, fun i x v e1 e2 e3 => by
      obtain ⟨w, e4, e5⟩ := r i x v e1 e2 e3
      exact ⟨w, e4, e5.step st⟩⟩
  · obtain ⟨a, cv, e1, ⟨o, e2, e2'⟩, e3, e4, e5, e6⟩ := f.cell i x e n
    refine ⟨a, cv, e1, ⟨o, st.keeps _ _ (none_mut e3) (fun ⟨_, _, d⟩ => by rw [e2'] at d; cases d) e2, e2'⟩, st.grow.none e2 e3, e4, e5, fun v hv => ?_⟩
    obtain ⟨w, q1, q2⟩ := e6 v hv
    exact ⟨w, q1, q2.step st⟩
  · obtain ⟨m, n, r⟩ := f.ns
    obtain ⟨o, es, ep, ho, q⟩ := n
    exact ⟨f.loc.1, st.grow.none ho f.loc.2.1, f.loc.2.2⟩

/-- the frame at a heap that has more -/
theorem FrOk.load (f : FrOk c env own F h₀ σ s.heap) {i : Nat} {x : Str} {v : V} (e : c.names[i]? = some x) (hv : F[i]? = some (some v)) (hcd : (x == ("__classdict__" : Str)) = false)
    {Q : Value → Shared → Prop} {E : Value → Shared → Prop} (q : ∀ w, Rep s.heap w v → Q w s) : wpAny (model prog w) A (loadName env x) Q E s := by
  rcases f.vk i x e with ⟨_, k⟩ | ⟨_, k⟩ | ⟨_, k | k⟩
  · obtain ⟨m, n, r⟩ := f.ns
    obtain ⟨w, e1, e2⟩ := r i x v e k hv
    exact wpAny_loadName_local f.kind k n e1 (q w e2)
  · obtain ⟨a, cv, e1, e2, e3, e4, e5, e6⟩ := f.cell i x e (by rw [k]; simp)
    obtain ⟨w, rfl, q2⟩ := e6 v hv
    exact wpAny_loadName_cell f.kind k e1 e2 (q w q2)
  · obtain ⟨a, cv, e1, e2, e3, e4, e5, e6⟩ := f.cell i x e (by rw [k]; simp)
    obtain ⟨w, rfl, q2⟩ := e6 v hv
    exact wpAny_loadName_cell f.kind k e1 e2 (q w q2)
  · obtain ⟨a, cv, e1, e2, e3, e4, e5, e6⟩ := f.cell i x e (by rw [k]; simp)
    obtain ⟨w, rfl, q2⟩ := e6 v hv
    exact wpAny_loadName_free f.kind k e1 e2 (q w q2) hcd

/-- a change of one's own object: the rest stays -/
theorem own_step {own : Addr → Prop} {a : Addr} (hw : W h₀ σ h) (oa : own a) (na : σ a = none) (ng : h₀.get? a = none) (sb : Heap.SameBut a h h') (ni : ∀ o, h.get? a = some o → ¬ Imm o)
    (al : ∀ o, h.get? a = some o → ∃ o', h'.get? a = some o' ∧ (IsD o → IsD o')) : StepX own h₀ σ h σ h' := by
  have keep : ∀ b o, b ≠ a → h.get? b = some o → h'.get? b = some o := fun b o n e => (sb.2 b n).trans e
  have tups : Tups h h' := fun b o e i => keep b o (by rintro rfl; exact ni o e i) e
  refine ⟨⟨fun b o e => keep b o (by rintro rfl; rw [ng] at e; cases e) (hw.stays b o e), fun b o e => ?_, hw.above, hw.small⟩, fun b o _ no _ e => keep b o (by rintro rfl; exact no oa) e, fun b o _ no _ e => ⟨o.slots, keep b o (by rintro rfl; exact no oa) e⟩, .refl _ _, tups, fun b o e => ?_⟩
  · have nb : b ≠ a := by rintro rfl; rw [na] at e; cases e
    have x := hw.holds b o e
    cases o with
    | list xs => obtain ⟨vs, n, e2, rr⟩ := x; exact ⟨vs, n, keep _ _ nb e2, rr.tups tups⟩
    | flist xs => obtain ⟨vs, ⟨o2, e2, r⟩, rr⟩ := x; exact ⟨vs, ⟨o2, keep _ _ nb e2, r⟩, rr.tups tups⟩
    | iter l i => cases l <;> (obtain ⟨o2, e2, r⟩ := x; exact ⟨o2, keep _ _ nb e2, r⟩)
    | imap m n => exact holds_map tups x fun ob eo => keep _ ob nb eo
  · by_cases q : b = a
    · subst q; exact al o e
    · exact ⟨o, keep b o q e, id⟩

theorem ns_not_imm {a : Addr} {m : Str → Option Value} (n : h.Ns a m) : ∀ o, h.get? a = some o → ¬ Imm o := fun o e i => by
  obtain ⟨o', es, ep, ho, hd, _⟩ := n
  rw [e] at ho; cases ho
  rcases i with ⟨_, vs, n, q⟩ | ⟨_, vs, q⟩ | ⟨fd, q⟩ | q
  · rw [hd] at q; cases q
  · rw [hd] at q; cases q
  · rw [hd] at q; cases q
  · rw [hd] at q; cases q
theorem cell_not_imm {a : Addr} {v : Option Value} (n : h.IsCell a v) : ∀ o, h.get? a = some o → ¬ Imm o := fun o e i => by
  obtain ⟨o', ho, hd⟩ := n
  rw [e] at ho; cases ho
  rcases i with ⟨_, vs, n, q⟩ | ⟨_, vs, q⟩ | ⟨fd, q⟩ | q <;> rw [hd] at q <;> cases q

/-- storing a name -/
theorem FrOk.store (f : FrOk c env own F h₀ σ s.heap) (hw : W h₀ σ s.heap) {i : Nat} {x : Str} {vv : Value} {v : V} (e : c.names[i]? = some x) (nf : c.sc.lookup x ≠ some .free) (rv : Rep s.heap vv v)
    {Q : Unit → Shared → Prop} {E : Value → Shared → Prop} (q : ∀ s', Sm s s' → StepX own h₀ σ s.heap σ s'.heap → FrOk c env own (F.set i (some v)) h₀ σ s'.heap → Q () s') : wpAny (model prog w) A (storeName env x vv) Q E s := by
  have hi := (List.getElem?_eq_some_iff.mp e).1
  have same : ∀ (j : Nat) y (u : V), c.names[j]? = some y → (F.set i (some v))[j]? = some (some u) → (j = i ∧ u = v) ∨ (j ≠ i ∧ F[j]? = some (some u)) := fun j y u _ e2 => by
    by_cases q : j = i
    · subst q
      rw [List.getElem?_set_self'] at e2
      cases q2 : F[j]? with
      | none => rw [q2] at e2; cases e2
      | some z => rw [q2] at e2; simp at e2; exact .inl ⟨rfl, e2.symm⟩
    · rw [List.getElem?_set_ne (fun h => q h.symm)] at e2; exact .inr ⟨q, e2⟩
  rcases f.vk i x e with ⟨_, k⟩ | ⟨kc, k⟩ | ⟨k, _⟩
  · obtain ⟨m, n, r⟩ := f.ns
    refine wpAny_storeName_local k n (fun h' n' sb => ?_) (by rw [f.kind]; rfl)
    have st : StepX own h₀ σ s.heap σ h' := own_step hw f.loc.1 f.loc.2.1 f.loc.2.2 sb (ns_not_imm n) (fun o _ => by obtain ⟨o', es, ep, ho, hd, _⟩ := n'; exact ⟨o', ho, fun _ => ⟨_, _, hd⟩⟩)
    refine q _ ⟨Eq.refl _, Eq.refl _⟩ st ⟨f.kind, f.glob, f.bi, f.gk, f.vk, ⟨_, n', fun j y u e1 e2 e3 => ?_⟩, fun j y e1 e2 => ?_, f.inj, f.loc, f.nd, fun a oa => (f.ex a oa).elim fun o e => (st.alive a o e).imp fun _ q => q.1⟩
    · rcases same j y u e1 e3 with ⟨rfl, rfl⟩ | ⟨hj, e3⟩
      · rw [e] at e1; cases e1
        exact ⟨vv, if_pos rfl, rv.step st⟩
      · obtain ⟨w, e4, e5⟩ := r j y u e1 e2 e3
        refine ⟨w, ?_, e5.step st⟩
        show (if y = x then some vv else m y) = some w
        rw [if_neg (by rintro rfl; exact hj (f.nd _ _ _ e1 e))]; exact e4
    · obtain ⟨a, cv, g1, g2, g3, g4, g5, g6⟩ := f.cell j y e1 e2
      refine ⟨a, cv, g1, g2.sameBut sb g4, g3, g4, g5, fun u hu => ?_⟩
      rcases same j y u e1 hu with ⟨rfl, rfl⟩ | ⟨hj, e3⟩
      · rw [e] at e1; cases e1; exact absurd k e2
      · obtain ⟨w, q1, q2⟩ := g6 u e3
        exact ⟨w, q1, q2.step st⟩
  · obtain ⟨a, cv, g1, g2, g3, g4, g5, g6⟩ := f.cell i x e (by rw [k]; simp)
    refine wpAny_storeName_cell f.kind k g1 g2 fun h' n' sb => ?_
    have st : StepX own h₀ σ s.heap σ h' := own_step hw (g5 kc).1 g3 (g5 kc).2 sb (cell_not_imm g2) (fun o eo => by obtain ⟨o', ho, _⟩ := n'; exact ⟨o', ho, fun ⟨_, _, d⟩ => by obtain ⟨o2, e2, d2⟩ := g2; rw [eo] at e2; cases e2; rw [d] at d2; cases d2⟩)
    refine q _ ⟨Eq.refl _, Eq.refl _⟩ st ⟨f.kind, f.glob, f.bi, f.gk, f.vk, ?_, fun j y e1 e2 => ?_, f.inj, f.loc, f.nd, fun a oa => (f.ex a oa).elim fun o e => (st.alive a o e).imp fun _ q => q.1⟩
    · obtain ⟨m, n, r⟩ := f.ns
      refine ⟨m, n.sameBut sb (fun h => g4 h.symm), fun j y u e1 e2 e3 => ?_⟩
      rcases same j y u e1 e3 with ⟨rfl, rfl⟩ | ⟨hj, e3⟩
      · rw [e] at e1; cases e1; rw [k] at e2; cases e2
      · obtain ⟨w, e4, e5⟩ := r j y u e1 e2 e3
        exact ⟨w, e4, e5.step st⟩
    · obtain ⟨a', cv', g1', g2', g3', g4', g5', g6'⟩ := f.cell j y e1 e2
      by_cases hya : y = x
      · subst hya
        rw [g1] at g1'; cases g1'
        refine ⟨a, some vv, g1, n', g3, g4, g5', fun u hu => ?_⟩
        rcases same j _ u e1 hu with ⟨rfl, rfl⟩ | ⟨hj, e3⟩
        · exact ⟨vv, rfl, rv.step st⟩
        · exact absurd (f.nd _ _ _ e1 e) hj
      · have na : a' ≠ a := by rintro rfl; exact hya (f.inj _ _ _ g1' g1)
        refine ⟨a', cv', g1', g2'.sameBut sb na, g3', g4', g5', fun u hu => ?_⟩
        rcases same j y u e1 hu with ⟨rfl, rfl⟩ | ⟨hj, e3⟩
        · rw [e] at e1; cases e1; exact absurd rfl hya
        · obtain ⟨w, q1, q2⟩ := g6' u e3
          exact ⟨w, q1, q2.step st⟩
  · exact absurd k nf
end

/-! M7 -/
section
variable {prog : Program} {w : World} {A : Around} {s : Shared} {h₀ : Heap} {mg mb : Str → Option Value} {σ σ' σs : Hp} {c : Cfg} {env : Env} {own : Addr → Prop} {F : Frm} {h h' hs : Heap}

theorem FrOk.move (f : FrOk c env own F h₀ σ h) (kl : ∀ o, h.get? env.locals = some o → h'.get? env.locals = some o) (kc : ∀ x a, env.cells.lookup x = some a → ∀ o, h.get? a = some o → h'.get? a = some o)
    (t : Tups h h') (al : ∀ a, own a → ∃ o, h'.get? a = some o) : FrOk c env own F h₀ σ h' := by
  refine ⟨f.kind, f.glob, f.bi, f.gk, f.vk, ?_, fun i x e n => ?_, f.inj, f.loc, f.nd, al⟩
  · obtain ⟨m, n, r⟩ := f.ns
    obtain ⟨o, es, ep, ho, q⟩ := n
    exact ⟨m, ⟨o, es, ep, kl _ ho, q⟩, fun i x v e1 e2 e3 => by
      obtain ⟨w, e4, e5⟩ := r i x v e1 e2 e3
      exact ⟨w, e4, e5.tups t⟩⟩
  · obtain ⟨a, cv, e1, ⟨o, e2, e2'⟩, e3, e4, e5, e6⟩ := f.cell i x e n
    refine ⟨a, cv, e1, ⟨o, kc _ _ e1 _ e2, e2'⟩, e3, e4, e5, fun v hv => ?_⟩
    obtain ⟨w, q1, q2⟩ := e6 v hv
    exact ⟨w, q1, q2.tups t⟩

/-- objects beside all (iterators) change -/
noncomputable def Beside (as : List Addr) (h₀ : Heap) (σ : Hp) (hs : Heap) : Prop := ∀ a ∈ as, hs.get? a = none ∧ σ a = none ∧ h₀.get? a = none
theorem W.slip {as : List Addr} (hw : W h₀ σ h) (b : ∀ a ∈ as, σ a = none ∧ h₀.get? a = none) (ni : ∀ a ∈ as, ∀ o, h.get? a = some o → ¬ Imm o) (k : ∀ b o, b ∉ as → h.get? b = some o → h'.get? b = some o) : W h₀ σ h' ∧ Tups h h' := by
  have tups : Tups h h' := fun a o e i => k a o (fun m => ni a m o e i) e
  refine ⟨⟨fun a o e => k a o (fun m => by rw [(b a m).2] at e; cases e) (hw.stays a o e), fun a o e => ?_, hw.above, hw.small⟩, tups⟩
  have na : a ∉ as := fun m => by rw [(b a m).1] at e; cases e
  have x := hw.holds a o e
  cases o with
  | list xs => obtain ⟨vs, n, e2, rr⟩ := x; exact ⟨vs, n, k _ _ na e2, rr.tups tups⟩
  | flist xs => obtain ⟨vs, ⟨o2, e2, r⟩, rr⟩ := x; exact ⟨vs, ⟨o2, k _ _ na e2, r⟩, rr.tups tups⟩
  | iter l i => cases l <;> (obtain ⟨o2, e2, r⟩ := x; exact ⟨o2, k _ _ na e2, r⟩)
  | imap m n => exact holds_map tups x fun ob eo => k _ ob na eo
theorem StepX.slip {as : List Addr} (x : StepX own h₀ σs hs σ h) (b : Beside as h₀ σ hs) (ni : ∀ a ∈ as, ∀ o, h.get? a = some o → ¬ Imm o) (k : ∀ b o, b ∉ as → h.get? b = some o → h'.get? b = some o) : StepX own h₀ σs hs σ h' := by
  obtain ⟨w', tups⟩ := x.w.slip (fun a m => (b a m).2) ni k
  have old : ∀ a o, hs.get? a = some o → a ∉ as := fun a o e m => by rw [(b a m).1] at e; cases e
  exact ⟨w', fun a o n m d e => k a o (old a o e) (x.keep a o n m d e), fun a o n m d e => (x.dict a o n m d e).imp fun sl e' => k a _ (old a o e) e', x.grow, fun a o e i => k a o (old a o e) (x.tups a o e i), fun a o e => by
    obtain ⟨o', e', d⟩ := x.alive a o e
    exact ⟨o', k a o' (old a o e) e', d⟩⟩

inductive ItVals (h : Heap) (v : Value) (as : List Addr) (vs : List V) : Prop
  | mk (I t : Addr) (k : Nat) (ws : List Value) (h1 : v = .ref I) (h2 : as = [I]) (h3 : h.IsTupleIter I t k) (h4 : h.IsTuple t ws.toArray) (h5 : Reps h (ws.drop k) vs) : ItVals h v as vs
inductive ItEnm (h : Heap) (v : Value) (as : List Addr) (k : Nat) (a : Addr) : Prop
  | mk (e I : Addr) (old : Value) (h1 : v = .ref e) (h2 : as = [e, I]) (h3 : e ≠ I) (h4 : IsEnum h e I k old) (h5 : h.IsListIter I a k) : ItEnm h v as k a
/-- an iterator of the machine, beside the abstract heap -/
noncomputable def ItRep (h : Heap) (v : Value) (as : List Addr) : It → Prop
  | .lst a i => ∃ I, v = .ref I ∧ as = [I] ∧ h.IsListIter I a i
  | .rng x n c => ∃ I, v = .ref I ∧ as = [I] ∧ IsRangeIter h I x n c
  | .vals vs => ItVals h v as vs
  | .enm k a => ItEnm h v as k a
theorem ItRep.notImm {v : Value} {as : List Addr} {it : It} (r : ItRep h v as it) : ∀ a ∈ as, ∀ o, h.get? a = some o → ¬ Imm o := by
  intro a m o e i
  cases it with
  | lst b k => obtain ⟨I, _, rfl, o', e', c', d'⟩ := r; simp at m; subst m; rw [e] at e'; cases e'; rcases i with ⟨i, _⟩ | ⟨i, _⟩ | ⟨fd, i⟩ | i <;> simp_all
  | rng x n c => obtain ⟨I, _, rfl, e'⟩ := r; simp at m; subst m; have e2 := e.symm.trans e'; cases e2; rcases i with ⟨i, _⟩ | ⟨i, _⟩ | ⟨fd, i⟩ | i <;> simp_all
  | vals vs => obtain ⟨I, t, k, ws, _, rfl, ⟨o', e', c', d'⟩, _⟩ := r; simp at m; subst m; rw [e] at e'; cases e'; rcases i with ⟨i, _⟩ | ⟨i, _⟩ | ⟨fd, i⟩ | i <;> simp_all
  | enm k b =>
    obtain ⟨e1, I, old, _, rfl, _, e', o', e2, c', d'⟩ := r
    simp at m
    rcases m with rfl | rfl
    · have e3 := e.symm.trans e'; cases e3; rcases i with ⟨i, _⟩ | ⟨i, _⟩ | ⟨fd, i⟩ | i <;> simp_all
    · rw [e] at e2; cases e2; rcases i with ⟨i, _⟩ | ⟨i, _⟩ | ⟨fd, i⟩ | i <;> simp_all
theorem ItRep.notD {v : Value} {as : List Addr} {it : It} (r : ItRep h v as it) : ∀ a ∈ as, ∀ o, h.get? a = some o → ¬ IsD o := by
  intro a m o e ⟨es, n, d⟩
  cases it with
  | lst b k => obtain ⟨I, _, rfl, o', e', c', d'⟩ := r; simp at m; subst m; rw [e] at e'; cases e'; rw [d] at d'; cases d'
  | rng x n c => obtain ⟨I, _, rfl, e'⟩ := r; simp at m; subst m; have e2 := e.symm.trans e'; cases e2; cases d
  | vals vs => obtain ⟨I, t, k, ws, _, rfl, ⟨o', e', c', d'⟩, _⟩ := r; simp at m; subst m; rw [e] at e'; cases e'; rw [d] at d'; cases d'
  | enm k b =>
    obtain ⟨e1, I, old, _, rfl, _, e', o', e2, c', d'⟩ := r
    simp at m
    rcases m with rfl | rfl
    · have e3 := e.symm.trans e'; cases e3; cases d
    · rw [e] at e2; cases e2; rw [d] at d'; cases d'
/-- it stands where its own objects stand -/
theorem ItRep.move {v : Value} {as : List Addr} {it : It} (r : ItRep h v as it) (k : ∀ a ∈ as, ∀ o, h.get? a = some o → h'.get? a = some o) (t : Tups h h') : ItRep h' v as it := by
  cases it with
  | lst b j => obtain ⟨I, rfl, rfl, o', e', q⟩ := r; exact ⟨I, rfl, rfl, o', k I (by simp) _ e', q⟩
  | rng x n c => obtain ⟨I, rfl, rfl, e'⟩ := r; exact ⟨I, rfl, rfl, k I (by simp) _ e'⟩
  | vals vs =>
    obtain ⟨I, t', j, ws, rfl, rfl, ⟨o', e', q⟩, ⟨o2, e2, c2, n2, d2⟩, rr⟩ := r
    exact ⟨I, t', j, ws, rfl, rfl, ⟨o', k I (by simp) _ e', q⟩, ⟨o2, t _ _ e2 (.inl ⟨c2, _, _, d2⟩), c2, n2, d2⟩, rr.tups t⟩
  | enm j b =>
    obtain ⟨e1, I, old, rfl, rfl, hne, e', o', e2, q⟩ := r
    exact ⟨e1, I, old, rfl, rfl, hne, k e1 (by simp) _ e', o', k I (by simp) _ e2, q⟩

/-- the next item -/
theorem next_item {v : Value} {as : List Addr} {it it' : It} {x : V} (hh : A.handled = none) (hw : W h₀ σ s.heap) (r : ItRep s.heap v as it) (b : ∀ a ∈ as, σ a = none ∧ h₀.get? a = none)
    (hn : itNext it σ = some (some (x, it'))) (hk : (∀ k a, it = .enm k a → False)) {Q : Option Value → Shared → Prop} {E : Value → Shared → Prop}
    (q : ∀ y s', Sm s s' → Rep s'.heap y x → ItRep s'.heap v as it' → (∀ b o, b ∉ as → s.heap.get? b = some o → s'.heap.get? b = some o) → Q (some y) s') : wpAny (model prog w) A (pyNext v) Q E s := by
  cases it with
  | lst a i =>
    obtain ⟨I, rfl, rfl, hi⟩ := r
    simp only [itNext] at hn
    cases e : listAt σ a with
    | none => rw [e] at hn; cases hn
    | some xs =>
      rw [e] at hn
      dsimp only at hn
      cases e2 : xs[i]? with
      | none => rw [e2] at hn; cases hn
      | some z =>
        rw [e2] at hn; cases hn
        obtain ⟨vs, hl, rr⟩ := hw.list e
        obtain ⟨y, e3, ry⟩ := rr.get e2
        refine wpAny_pyNext_list_item hi hl (by simpa using e3) fun h' hi' sb => ?_
        have k : ∀ b o, b ∉ [I] → s.heap.get? b = some o → h'.get? b = some o := fun b o n e => sb.extBut b o (by simpa using n) e
        have t := (hw.slip (as := [I]) b (ItRep.notImm (it := .lst a i) ⟨I, rfl, rfl, hi⟩) k).2
        exact q _ _ ⟨Eq.refl _, Eq.refl _⟩ (ry.tups t) ⟨I, rfl, rfl, hi'⟩ k
  | rng a n cc =>
    obtain ⟨I, rfl, rfl, hi⟩ := r
    cases n with
    | zero => simp [itNext] at hn
    | succ n =>
      simp only [itNext] at hn; cases hn
      refine wpAny_pyNext_range_item hi (by omega) fun h' hi' sb => ?_
      have k : ∀ b o, b ∉ [I] → s.heap.get? b = some o → h'.get? b = some o := fun b o n e => sb.extBut b o (by simpa using n) e
      refine q _ _ ⟨Eq.refl _, Eq.refl _⟩ (.int _ _) ⟨I, rfl, rfl, ?_⟩ k
      have : ((n + 1 : Nat) : Int) - 1 = (n : Int) := by omega
      rw [this] at hi'; exact hi'
  | vals vs =>
    obtain ⟨I, t, k0, ws, rfl, rfl, hi, ht, rr⟩ := r
    cases vs with
    | nil => simp [itNext] at hn
    | cons z zs =>
      simp only [itNext] at hn; cases hn
      have hk0 : k0 < ws.length := by
        rcases Nat.lt_or_ge k0 ws.length with h | h
        · exact h
        · rw [List.drop_eq_nil_of_le h] at rr; cases rr
      rw [List.drop_eq_getElem_cons hk0] at rr
      cases rr with
      | cons ry rr => ?_
      refine wpAny_pyNext_tuple_item hi ht (by simp [hk0]; rfl) fun h' hi' sb => ?_
      have k : ∀ b o, b ∉ [I] → s.heap.get? b = some o → h'.get? b = some o := fun b o n e => sb.extBut b o (by simpa using n) e
      have t2 := (hw.slip (as := [I]) b (ItRep.notImm (it := .vals (x :: zs)) ⟨I, t, k0, ws, rfl, rfl, hi, ht, by rw [List.drop_eq_getElem_cons hk0]; exact .cons ry rr⟩) k).2
      refine q _ _ ⟨Eq.refl _, Eq.refl _⟩ (ry.tups t2) ⟨I, t, k0 + 1, ws, rfl, rfl, hi', ?_, rr.tups t2⟩ k
      obtain ⟨o2, e2, c2, n2, d2⟩ := ht
      exact ⟨o2, t2 _ _ e2 (.inl ⟨c2, _, _, d2⟩), c2, n2, d2⟩
  | enm k a => exact (hk _ _ rfl).elim

theorem next_end {v : Value} {as : List Addr} {it : It} (hh : A.handled = none) (hw : W h₀ σ s.heap) (r : ItRep s.heap v as it)
    (hn : itNext it σ = some none) {Q : Option Value → Shared → Prop} {E : Value → Shared → Prop}
    (q : ∀ s', Sm s s' → (∀ b o, b ∉ as → s.heap.get? b = some o → s'.heap.get? b = some o) → Q none s') : wpAny (model prog w) A (pyNext v) Q E s := by
  cases it with
  | lst a i =>
    obtain ⟨I, rfl, rfl, hi⟩ := r
    simp only [itNext] at hn
    cases e : listAt σ a with
    | none => rw [e] at hn; cases hn
    | some xs =>
      rw [e] at hn
      dsimp only at hn
      cases e2 : xs[i]? with
      | some z => rw [e2] at hn; cases hn
      | none =>
        obtain ⟨vs, hl, rr⟩ := hw.list e
        have e3 : vs[i]? = none := by rw [List.getElem?_eq_none_iff] at e2 ⊢; rw [rr.length]; exact e2
        exact wpAny_pyNext_list_end hh hi hl (by simpa using e3) fun h' sb => q _ ⟨Eq.refl _, Eq.refl _⟩ fun b o n e => sb b o (by simpa using n) e
  | rng a n cc =>
    obtain ⟨I, rfl, rfl, hi⟩ := r
    cases n with
    | succ n => simp [itNext] at hn
    | zero => exact wpAny_pyNext_range_end hh hi (by omega) fun h' sb => q _ ⟨Eq.refl _, Eq.refl _⟩ fun b o n e => sb b o (by simpa using n) e
  | vals vs =>
    obtain ⟨I, t, k0, ws, rfl, rfl, hi, ht, rr⟩ := r
    cases vs with
    | cons z zs => simp [itNext] at hn
    | nil =>
      have hk0 : ws.length ≤ k0 := by
        have := rr.length; simp at this; omega
      exact wpAny_pyNext_tuple_end hh hi ht (by simp; exact hk0) fun h' sb => q _ ⟨Eq.refl _, Eq.refl _⟩ fun b o n e => sb b o (by simpa using n) e
  | enm k a =>
    obtain ⟨e1, I, old, rfl, rfl, hne, he, hi⟩ := r
    simp only [itNext] at hn
    cases e : listAt σ a with
    | none => rw [e] at hn; cases hn
    | some xs =>
      rw [e] at hn
      dsimp only at hn
      cases e2 : xs[k]? with
      | some z => rw [e2] at hn; cases hn
      | none =>
        obtain ⟨vs, hl, rr⟩ := hw.list e
        have e3 : vs[k]? = none := by rw [List.getElem?_eq_none_iff] at e2 ⊢; rw [rr.length]; exact e2
        exact wpAny_pyNext_enum_end hh he hi hl (by simpa using e3) fun h' sb => q _ ⟨Eq.refl _, Eq.refl _⟩ fun b o n e => sb b o (by simp at n; exact n.2) e

theorem next_enum {e1 I a : Addr} {k : Nat} {old : Value} {x : V} {it' : It} (hw : W h₀ σ s.heap) (hne : e1 ≠ I) (he : IsEnum s.heap e1 I k old) (hi : s.heap.IsListIter I a k) (b : ∀ a ∈ [e1, I], σ a = none ∧ h₀.get? a = none)
    (hn : itNext (.enm k a) σ = some (some (x, it'))) {elts : List Expr} {x1 : Nat} {pos : Pos} {Q : Option Value → Shared → Prop} {E : Value → Shared → Prop}
    (q : ∀ y s', wpAny (model prog w) A (letOwnedTupleGo (.Tuple elts x1 pos) (.ref e1) y) (fun _ s'' => Sm s s'' ∧ Rep s''.heap y x ∧ ItRep s''.heap (.ref e1) [e1, I] it' ∧ (∀ b o, b ∉ [e1, I] → s.heap.get? b = some o → s''.heap.get? b = some o)) E0 s' → Q (some y) s') :
    wpAny (model prog w) A (pyNext (.ref e1)) Q E s := by
  simp only [itNext] at hn
  cases e : listAt σ a with
  | none => rw [e] at hn; cases hn
  | some xs =>
    rw [e] at hn
    dsimp only at hn
    cases e2 : xs[k]? with
    | none => rw [e2] at hn; cases hn
    | some z =>
      rw [e2] at hn; cases hn
      obtain ⟨vs, hl, rr⟩ := hw.list e
      obtain ⟨y, e3, ry⟩ := rr.get e2
      refine wpAny_pyNext_enum_item he hi hl (by simpa using e3) hne fun h' eo hi' ht hz kk => q _ _ ?_
      have hlt : e1 < s.heap.objs.size := Heap.lt_size he
      refine wpAny_letOwnedTupleGo_enum eo fun h'' he' sb => ?_
      have k2 : ∀ b o, b ∉ [e1, I] → s.heap.get? b = some o → h''.get? b = some o := fun b o n e => by
        simp at n
        exact sb.extBut b o n.1 (kk b o n.1 n.2 e)
      have t := (hw.slip (as := [e1, I]) b (ItRep.notImm (it := .enm k a) ⟨e1, I, old, rfl, rfl, hne, he, hi⟩) k2).2
      refine ⟨⟨Eq.refl _, Eq.refl _⟩, ?_, ⟨e1, I, y, rfl, rfl, hne, ?_, hi'.extBut sb.extBut (Ne.symm hne)⟩, k2⟩
      · refine .tup (vs := [.int k s.toks, y]) ⟨_, sb.extBut _ _ (Nat.ne_of_gt hlt) ht, rfl, _, rfl⟩ (.cons (.int _ _) (.cons (ry.tups t) .nil))
      · have : ((k + 1 : Nat) : Int) = (k : Int) + 1 := by omega
        rw [this]; exact he'
end

/-! M8 -/
section
variable {prog : Program} {w : World} {A : Around} {s : Shared} {h₀ : Heap} {mg mb : Str → Option Value} {σ σ' σs : Hp} {c : Cfg} {env : Env} {own : Addr → Prop} {F : Frm} {h h' hs : Heap}

theorem beside_one (hw : W h₀ σ h) {a : Addr} (e : h.get? a = none) : h.get? a = none ∧ σ a = none ∧ h₀.get? a = none :=
  ⟨e, hw.fresh e, by cases q : h₀.get? a with | none => rfl | some o => rw [hw.stays a o q] at e; cases e⟩

inductive Started (en : Bool) (h₀ : Heap) (σ : Hp) (s : Shared) (P : It → Hp → Prop) (it : Value) (s' : Shared) : Prop
  | mk (l0 : Sm s s') (I : It) (as : List Addr) (h1 : (∀ k a, I = .enm k a → en = true)) (h2 : ItRep s'.heap it as I) (h3 : Beside as h₀ σ s.heap) (h4 : (∀ b o, s.heap.get? b = some o → s'.heap.get? b = some o)) (h5 : P I σ) : Started en h₀ σ s P it s'

theorem start_plain {v : Value} {x : V} {P : It → Hp → Prop} (hw : W h₀ σ s.heap) (r : Rep s.heap v x) (q : itStart .plain x P σ) : wpAny (model prog w) A (pyIter v) (Started false h₀ σ s P) E0 s := by
  unfold itStart at q
  have b1 := beside_one hw (get_push_none s.heap)
  split at q
  · obtain ⟨⟨xs, e⟩, q⟩ := q
    obtain rfl := r.iref
    obtain ⟨vs, hl, rr⟩ := hw.list e
    exact wpAny_pyIter_list hl ⟨⟨Eq.refl _, Eq.refl _⟩, .lst _ 0, [s.heap.objs.size], (by intro k a e; cases e), ⟨_, rfl, rfl, _, Heap.get?_push_size _ rfl, rfl, rfl⟩, by intro a m; simp at m; subst m; exact b1, fun b o e => Heap.get?_push_of_some _ e, q⟩
  · obtain ⟨ok, q⟩ := q
    obtain ⟨lr, t, u, w', rfl, hr⟩ := r.irng
    refine wpAny_pyIter_range hr (rok_small ok) ⟨⟨Eq.refl _, Eq.refl _⟩, .rng _ _ _, [s.heap.objs.size], (by intro k a e; cases e), ⟨_, rfl, rfl, ?_⟩, by intro a m; simp at m; subst m; exact b1, fun b o e => Heap.get?_push_of_some _ e, q⟩
    rw [rok_size ok]; exact Heap.get?_push_size _ rfl
  · obtain ⟨a, ws, rfl, y, rr⟩ := r.itup
    refine wpAny_pyIter_tuple (items := ws.toArray) y ⟨⟨Eq.refl _, Eq.refl _⟩, .vals _, [s.heap.objs.size], (by intro k a e; cases e), ⟨_, a, 0, ws, rfl, rfl, ⟨_, Heap.get?_push_size _ rfl, rfl, rfl⟩, Heap.IsTuple.push y _, ?_⟩, by intro a m; simp at m; subst m; exact b1, fun b o e => Heap.get?_push_of_some _ e, q⟩
    exact rr.tups fun a o e _ => Heap.get?_push_of_some _ e
  all_goals first | exact q.elim | (exfalso; simp_all)

/-- names in order -/
theorem store_all : ∀ {es : List Expr} {is : List Nat}, CGs c es is → ∀ {F : Frm} {s : Shared} {ys : List Value} {xs : List V}, W h₀ σ s.heap → FrOk c env own F h₀ σ s.heap → Reps s.heap ys xs → is.length = xs.length →
    ∀ {Q : Unit → Shared → Prop} {E : Value → Shared → Prop}, (∀ s', Sm s s' → StepX own h₀ σ s.heap σ s'.heap → FrOk c env own (setAll is xs F) h₀ σ s'.heap → Q () s') → wpAny (model prog w) A (assignInOrder ((assignEach es env).map (·.2)) ys) Q E s
  | _, _, .nil, F, s, ys, xs, hw, hf, r, hl, Q, E, q => by
    cases xs with
    | nil => obtain rfl := r.inil; exact wpAny_pure (q s .rfl (.refl hw) hf)
    | cons _ _ => simp at hl
  | _, _, .cons (x := x) (p := p) (i := i) (es := es) (is := is) e nf hr, F, s, ys, xs, hw, hf, r, hl, Q, E, q => by
    cases xs with
    | nil => simp at hl
    | cons x1 xs =>
      obtain ⟨v, vs, rfl, r1, rs⟩ := r.icons
      show wpAny _ A (do holding vs (assign (.Name x p) env v); assignInOrder ((assignEach es env).map (·.2)) vs) _ _ _
      refine wpAny_bind (wpAny_holding (wpAny_assign_Name (hf.store hw e nf r1 fun s' m st hf' => ?_)))
      refine store_all hr st.w hf' (rs.step st) (by simpa using hl) fun s'' m' st' hf'' => q s'' (m.trans m') (st.trans st') hf''

theorem cgs_len : ∀ {es : List Expr} {is : List Nat}, CGs c es is → (assignEach es env).length = is.length ∧ (assignEach es env).findIdx? (·.1) = none
  | _, _, .nil => ⟨rfl, rfl⟩
  | _, _, .cons (es := es) _ _ hr => by
    have ih := cgs_len hr
    refine ⟨by show (assignEach es env).length + 1 = _; rw [ih.1]; rfl, ?_⟩
    show List.findIdx? _ ((false, _) :: assignEach es env) = none
    rw [List.findIdx?_cons]
    simp [ih.2]

theorem assign_ok {t : Expr} {tg : Tgt} {y : Value} {x : V} {P : Frm → Prop} (hg : CG c t tg) (hh : A.handled = none) (hw : W h₀ σ s.heap) (hf : FrOk c env own F h₀ σ s.heap) (r : Rep s.heap y x) (q : bindT tg x P F σ)
    {Q : Unit → Shared → Prop} {E : Value → Shared → Prop} (k : ∀ s' F1, P F1 → Sm s s' → StepX own h₀ σ s.heap σ s'.heap → FrOk c env own F1 h₀ σ s'.heap → Q () s') :
    wpAny (model prog w) A (assign t env y) Q E s := by
  cases hg with
  | name e nf => exact wpAny_assign_Name (hf.store hw e nf r fun s' m st hf' => k s' _ q m st hf')
  | tup hgs =>
    unfold bindT at q
    split at q
    · rename_i hh2; cases hh2
    · rename_i hh2; cases hh2
      obtain ⟨hl, q⟩ := q
      obtain ⟨ta, tvs, rfl, z, rr⟩ := r.itup
      obtain ⟨l1, l2⟩ := cgs_len (env := env) hgs
      refine wpAny_assign_Tuple hh z (by rw [l1, hl]; simp [rr.length]) l2 fun h' ext => ?_
      have st : Step h₀ σ s.heap σ h' := hw.extend fun b o e => ext b o (Nat.ne_of_lt (Heap.lt_size e)) e
      refine store_all hgs (s := { s with heap := h' }) st.w (hf.step st) (rr.step st) hl fun s'' m st' hf' => k s'' _ q (Sm.trans ⟨Eq.refl _, Eq.refl _⟩ m) ((Step.any st).trans st') hf'
    · exact q.elim
end

/-! M9 -/
/-! the frame of a comprehension -/
noncomputable def clGo (env : Env) : List (Str × NameKind) → List (Str × Addr) → List (Str × Addr)
  | [], acc => acc
  | (n, k) :: r, acc => if k == .free then clGo env r ((n, (env.cells.lookup n).getD 0) :: acc) else clGo env r acc
theorem closure_go {env : Env} (f : Str × NameKind → List (Str × Addr) → Sem (ForInStep (List (Str × Addr))))
    (hf : ∀ n k cs, f (n, k) cs = if k == .free then (do let a ← cellOf env n; pure (.yield ((n, a) :: cs))) else pure (.yield cs)) :
    ∀ (names : List (Str × NameKind)) (acc : List (Str × Addr)), (∀ n, (n, NameKind.free) ∈ names → (env.cells.lookup n).isSome = true) → forIn names acc f = pure (clGo env names acc)
  | [], acc, _ => by rw [List.forIn_nil]; rfl
  | (n, k) :: r, acc, h => by
    rw [List.forIn_cons, hf]
    unfold clGo
    by_cases q : (k == NameKind.free) = true
    · rw [if_pos q, if_pos q]
      have e : k = .free := by simpa using q
      subst e
      obtain ⟨a, ha⟩ := Option.isSome_iff_exists.mp (h n (.head _))
      have : cellOf env n = pure a := by unfold cellOf; rw [ha]
      rw [this]
      show (forIn r ((n, a) :: acc) f) = _
      rw [closure_go f hf r _ (fun m hm => h m (.tail _ hm)), ha]; rfl
    · rw [if_neg q, if_neg q]
      show (forIn r acc f) = _
      exact closure_go f hf r _ (fun m hm => h m (.tail _ hm))
theorem closureFor_eq {env : Env} {scope : Scope} (h : ∀ n, (n, NameKind.free) ∈ scope.names → (env.cells.lookup n).isSome = true) : closureFor scope env = pure (clGo env scope.names []) := by
  simp only [closureFor]
  rw [closure_go (env := env) _ (fun n k cs => ?_) scope.names [] h]
  · rfl
  · cases hk : k == NameKind.free <;> simp

theorem clGo_not {env : Env} {x : Str} : ∀ (names : List (Str × NameKind)) (acc : List (Str × Addr)), (x, NameKind.free) ∉ names → (clGo env names acc).lookup x = acc.lookup x
  | [], acc, _ => rfl
  | (n, k) :: r, acc, h => by
    unfold clGo
    split
    · rename_i q
      have e : k = .free := by simpa using q
      subst e
      rw [clGo_not r _ (fun m => h (.tail _ m)), List.lookup_cons]
      have : (x == n) = false := by
        cases q : x == n with
        | false => rfl
        | true => exact absurd (by rw [beq_iff_eq.mp q]; exact .head _) h
      rw [this]
    · exact clGo_not r _ (fun m => h (.tail _ m))
theorem clGo_free {env : Env} {x : Str} : ∀ (names : List (Str × NameKind)) (acc : List (Str × Addr)), (names.map (·.1)).Nodup → (x, NameKind.free) ∈ names → (clGo env names acc).lookup x = some ((env.cells.lookup x).getD 0)
  | (n, k) :: r, acc, nd, h => by
    unfold clGo
    simp only [List.map_cons, List.nodup_cons] at nd
    rcases List.mem_cons.mp h with e | h'
    · cases e
      rw [if_pos (by decide), clGo_not r _ (fun m => nd.1 (List.mem_map_of_mem (f := (·.1)) m)), List.lookup_cons]
      simp
    · split <;> exact clGo_free r _ nd.2 h'
theorem clGo_some {env : Env} {x : Str} {a : Addr} : ∀ (names : List (Str × NameKind)) (acc : List (Str × Addr)), (clGo env names acc).lookup x = some a → acc.lookup x = some a ∨ ((x, NameKind.free) ∈ names ∧ a = (env.cells.lookup x).getD 0)
  | [], acc, h => .inl h
  | (n, k) :: r, acc, h => by
    unfold clGo at h
    split at h
    · rename_i q
      have e : k = .free := by simpa using q
      subst e
      rcases clGo_some r _ h with q | ⟨q1, q2⟩
      · rw [List.lookup_cons] at q
        cases hx : x == n with
        | true => rw [hx] at q; cases q; have := beq_iff_eq.mp hx; subst this; exact .inr ⟨.head _, rfl⟩
        | false => rw [hx] at q; exact .inl q
      · exact .inr ⟨.tail _ q1, q2⟩
    · rcases clGo_some r _ h with q | ⟨q1, q2⟩
      · exact .inl q
      · exact .inr ⟨.tail _ q1, q2⟩

noncomputable def relK (env : Env) (x : Str) (k : NameKind) : NameKind := if (k == .free && env.scope.kind == .function && env.kindOf x == some .cell) then .cell else k
theorem lookup_relabel {env : Env} {x : Str} : ∀ (names : List (Str × NameKind)),
    (names.map fun (n, k) => if (k == NameKind.free && env.scope.kind == .function && env.kindOf n == some .cell) then (n, NameKind.cell) else (n, k)).lookup x = (names.lookup x).map (relK env x)
  | [] => rfl
  | (n, k) :: r => by
    have ih := lookup_relabel (env := env) (x := x) r
    show List.lookup x ((if (k == NameKind.free && env.scope.kind == .function && env.kindOf n == some .cell) = true then (n, NameKind.cell) else (n, k)) :: _) = _
    cases hx : x == n with
    | true =>
      have := beq_iff_eq.mp hx; subst this
      unfold relK
      by_cases hc : (k == NameKind.free && env.scope.kind == .function && env.kindOf x == some .cell) = true
      · rw [if_pos hc]; simp only [List.lookup_cons, beq_self_eq_true, Option.map_some, if_pos hc]
      · rw [if_neg hc]; simp only [List.lookup_cons, beq_self_eq_true, Option.map_some, if_neg hc]
    | false =>
      by_cases hc : (k == NameKind.free && env.scope.kind == .function && env.kindOf n == some .cell) = true
      · rw [if_pos hc]; simp only [List.lookup_cons, hx]; exact ih
      · rw [if_neg hc]; simp only [List.lookup_cons, hx]; exact ih

theorem lookup_of_nodup {x : Str} {k : NameKind} : ∀ {names : List (Str × NameKind)}, (names.map (·.1)).Nodup → (x, k) ∈ names → names.lookup x = some k
  | (n, k') :: r, nd, h => by
    simp only [List.map_cons, List.nodup_cons] at nd
    rw [List.lookup_cons]
    rcases List.mem_cons.mp h with e | h'
    · cases e; simp
    · have : (x == n) = false := by
        cases q : x == n with
        | false => rfl
        | true => exact absurd (by rw [← beq_iff_eq.mp q]; exact List.mem_map_of_mem (f := (·.1)) h') nd.1
      rw [this]; exact lookup_of_nodup nd.2 h'
theorem names_mem {c : Cfg} {i : Nat} {x : Str} (h : c.names[i]? = some x) : ∃ k, (c.sc.filter fun x => isVar x.2)[i]? = some (x, k) ∧ (x, k) ∈ c.sc ∧ isVar k = true := by
  unfold Cfg.names at h
  rw [List.getElem?_map] at h
  cases e : (c.sc.filter fun x => isVar x.2)[i]? with
  | none => rw [e] at h; cases h
  | some p =>
    rw [e] at h; cases h
    have := List.mem_of_getElem? e
    have := List.mem_filter.mp this
    exact ⟨p.2, rfl, this.1, this.2⟩
theorem getElem_inj {α : Type} {l : List α} (nd : l.Nodup) {i j : Nat} {x : α} (h1 : l[i]? = some x) (h2 : l[j]? = some x) : i = j := by
  obtain ⟨a, b⟩ := List.getElem?_eq_some_iff.mp h1
  obtain ⟨a', b'⟩ := List.getElem?_eq_some_iff.mp h2
  exact (List.getElem_inj nd).mp (b.trans b'.symm)
theorem nodup_names {c : Cfg} (nd : (c.sc.map (·.1)).Nodup) : c.names.Nodup := by
  unfold Cfg.names
  exact List.Nodup.sublist (List.Sublist.map _ List.filter_sublist) nd


/-- the cells of one's own -/
structure OwnCells (names : List (Str × NameKind)) (C : Addr) (h h' : Heap) (A : List (Str × Addr)) : Prop where
  all : ∀ x, names.lookup x = some .cell → (A.lookup x).isSome = true
  mem : ∀ x a, (x, a) ∈ A → (x, NameKind.cell) ∈ names ∧ h'.IsCell a none ∧ h.get? a = none ∧ a ≠ C
  apart : A.Pairwise fun x y => x.2 ≠ y.2
theorem inner_ok {c : Cfg} {env : Env} {own : Addr → Prop} {F : Frm} {h₀ : Heap} {σ : Hp} {h h' : Heap} {scope : Scope} {C : Addr} {A cl : List (Str × Addr)} (hf : FrOk c env own F h₀ σ h) (ok : scOk c scope.names = true) (hk : scope.kind = .function)
    (hcl : cl = A ++ clGo env scope.names []) (hA : OwnCells scope.names C h h' A) (fresh : ∀ a, h.get? a = none → σ a = none ∧ h₀.get? a = none) (k : ∀ b o, h.get? b = some o → h'.get? b = some o) (hC : h.get? C = none) (hn : h'.Ns C fun _ => none) :
    FrOk { sc := scope.names, fns := c.fns } (compEnvC scope cl C env) (fun a => a ∈ C :: A.map (·.2)) (frOf (fmapOf c scope.names) F) h₀ σ h' := by
  simp only [scOk, Bool.and_eq_true, decide_eq_true_eq, List.all_eq_true] at ok
  obtain ⟨nd, ok⟩ := ok
  have t : Tups h h' := fun a o e _ => k a o e
  have kind : ∀ x, (compEnvC scope cl C env).kindOf x = (scope.names.lookup x).map (relK env x) := fun x => lookup_relabel scope.names
  have vark : ∀ (i : Nat) x, (Cfg.mk scope.names c.fns).names[i]? = some x → ∃ kk, (scope.names.filter fun x => isVar x.2)[i]? = some (x, kk) ∧ (x, kk) ∈ scope.names ∧ scope.names.lookup x = some kk ∧ (kk = .local ∨ kk = .free ∨ kk = .cell) := fun i x e => by
    obtain ⟨kk, e1, e2, e3⟩ := names_mem e
    refine ⟨kk, e1, e2, lookup_of_nodup nd e2, ?_⟩
    have := ok _ e2
    cases kk <;> simp_all [isVar]
  have freeOut : ∀ x, (x, NameKind.free) ∈ scope.names → c.names[c.names.idxOf x]? = some x ∧ (env.kindOf x = some .cell ∨ env.kindOf x = some .free) := fun x m => by
    have o := ok _ m
    simp at o
    have hx : x ∈ c.names := o.1.1
    have e : c.names[c.names.idxOf x]? = some x := by
      have hlt := List.idxOf_lt_length_iff.mpr hx
      rw [List.getElem?_eq_getElem hlt, List.getElem_idxOf hlt]
    refine ⟨e, ?_⟩
    rcases hf.vk _ _ e with ⟨q, _⟩ | ⟨_, q⟩ | ⟨_, q⟩
    · exact absurd q o.1.2
    · exact .inl q
    · exact q
  have noA : ∀ x kk, (x, kk) ∈ scope.names → kk ≠ .cell → A.lookup x = none := fun x kk m hkk => by
    cases e : A.lookup x with
    | none => rfl
    | some a =>
      have m2 := (hA.mem x a (mem_of_lookup e)).1
      have l1 := lookup_of_nodup nd m
      have l2 := lookup_of_nodup nd m2
      rw [l1] at l2; cases l2; exact absurd rfl hkk
  have look : ∀ x, cl.lookup x = (A.lookup x).or ((clGo env scope.names []).lookup x) := fun x => by rw [hcl]; exact List.lookup_append
  refine ⟨hk, hf.glob, hf.bi, fun x e => ?_, fun i x e => ?_, ⟨_, hn, fun i x v e1 e2 e3 => ?_⟩, fun i x e1 e2 => ?_, fun x y a e1 e2 => ?_, ⟨.head _, (fresh C hC).1, (fresh C hC).2⟩, fun i j x e1 e2 => getElem_inj (nodup_names nd) e1 e2, fun a e => ?_⟩
  · rw [kind, show scope.names.lookup x = some NameKind.globalImplicit from e]; simp [relK]
  · obtain ⟨kk, _, m, l, q⟩ := vark i x e
    rcases q with rfl | rfl | rfl
    · exact .inl ⟨l, by rw [kind, l]; simp [relK]⟩
    · refine .inr (.inr ⟨l, ?_⟩)
      rw [kind, l]
      rcases (freeOut x m).2 with q | q
      · exact .inl (by simp [relK, hf.kind, q])
      · exact .inr (by simp [relK, q])
    · exact .inr (.inl ⟨l, by rw [kind, l]; simp [relK]⟩)
  · obtain ⟨kk, g, m, l, q⟩ := vark i x e1
    exfalso
    rcases q with rfl | rfl | rfl
    · unfold frOf fmapOf at e3
      rw [List.getElem?_map, List.getElem?_map, g] at e3
      simp at e3
    · rw [kind, l] at e2
      rcases (freeOut x m).2 with q | q
      · simp [relK, hf.kind, q] at e2
      · simp [relK, q] at e2
    · rw [kind, l] at e2
      simp [relK] at e2
  · obtain ⟨kk, g, m, l, q⟩ := vark i x e1
    rcases q with rfl | rfl | rfl
    · exfalso; apply e2; rw [kind, l]; simp [relK]
    · obtain ⟨q1, q2⟩ := freeOut x m
      obtain ⟨a, cv, g1, g2, g3, g4, g5, g6⟩ := hf.cell _ _ q1 (by rcases q2 with q | q <;> rw [q] <;> simp)
      refine ⟨a, cv, ?_, g2.keeps k, g3, ?_, fun hh => ?_, fun v hv => ?_⟩
      · show cl.lookup x = some a
        rw [look, noA x _ m (by simp), clGo_free _ _ nd m, g1]; rfl
      · rintro rfl; obtain ⟨o, ho, _⟩ := g2; rw [hC] at ho; cases ho
      · rw [show ({ sc := scope.names, fns := c.fns } : Cfg).sc.lookup x = some NameKind.free from l] at hh; cases hh
      · unfold frOf fmapOf at hv
        rw [List.getElem?_map, List.getElem?_map, g] at hv
        simp at hv
        obtain ⟨w, w1, w2⟩ := g6 v (by cases q : F[List.idxOf x c.names]? with | none => rw [q] at hv; cases hv | some z => rw [q] at hv; simp at hv; rw [hv])
        exact ⟨w, w1, w2.tups t⟩
    · obtain ⟨a, ha⟩ := Option.isSome_iff_exists.mp (hA.all x l)
      obtain ⟨_, g2, g3, g4⟩ := hA.mem x a (mem_of_lookup ha)
      refine ⟨a, none, ?_, g2, (fresh a g3).1, g4, fun _ => ⟨.tail _ (List.mem_map.mpr ⟨(x, a), mem_of_lookup ha, rfl⟩), (fresh a g3).2⟩, fun v hv => ?_⟩
      · show cl.lookup x = some a
        rw [look, ha]; rfl
      · exfalso
        unfold frOf fmapOf at hv
        rw [List.getElem?_map, List.getElem?_map, g] at hv
        simp at hv
  · have e1' : cl.lookup x = some a := e1
    have e2' : cl.lookup y = some a := e2
    rw [look] at e1' e2'
    have old : ∀ z b, (clGo env scope.names []).lookup z = some b → (∃ o, h.get? b = some o) ∧ env.cells.lookup z = some b := fun z b e => by
      rcases clGo_some _ _ e with q | ⟨m1, q1⟩
      · cases q
      obtain ⟨p1, p2⟩ := freeOut z m1
      obtain ⟨a1, cv, g1, ⟨o, g2, _⟩, _⟩ := hf.cell _ _ p1 (by rcases p2 with q | q <;> rw [q] <;> simp)
      rw [g1] at q1; simp at q1; subst q1
      exact ⟨⟨o, g2⟩, g1⟩
    cases hx : A.lookup x with
    | some a1 =>
      rw [hx] at e1'; simp at e1'; subst e1'
      cases hy : A.lookup y with
      | some a2 => rw [hy] at e2'; simp at e2'; subst e2'; exact name_of_addr hA.apart (mem_of_lookup hx) (mem_of_lookup hy)
      | none =>
        rw [hy] at e2'; simp at e2'
        obtain ⟨⟨o, q⟩, _⟩ := old y _ e2'
        rw [(hA.mem x _ (mem_of_lookup hx)).2.2.1] at q; cases q
    | none =>
      rw [hx] at e1'; simp at e1'
      cases hy : A.lookup y with
      | some a2 =>
        rw [hy] at e2'; simp at e2'; subst e2'
        obtain ⟨⟨o, q⟩, _⟩ := old x _ e1'
        rw [(hA.mem y _ (mem_of_lookup hy)).2.2.1] at q; cases q
      | none =>
        rw [hy] at e2'; simp at e2'
        exact hf.inj x y a (old x a e1').2 (old y a e2').2
  · rcases List.mem_cons.mp e with rfl | e
    · obtain ⟨o, _, _, ho, _⟩ := hn
      exact ⟨o, ho⟩
    · obtain ⟨⟨x, a'⟩, m, rfl⟩ := List.mem_map.mp e
      obtain ⟨o, ho, _⟩ := (hA.mem x a' m).2.1
      exact ⟨o, ho⟩

/-! E1 -/
set_option linter.unusedSimpArgs false
/-! the heap without the frames -/
noncomputable def hide (L : Addr) (h : Heap) : Heap := h.update L fun o => { o with data := .freed }
theorem hide_self (L : Addr) (h : Heap) : (hide L h).get? L = none := by
  obtain ⟨objs, l⟩ := h
  unfold hide Heap.update Heap.get?
  simp only [Array.getElem?_modify, if_true]
  cases objs[L]? <;> rfl
theorem hide_other {L b : Addr} (h : Heap) (n : b ≠ L) : (hide L h).get? b = h.get? b := Heap.get?_update_other _ _ (Ne.symm n)
noncomputable def hideAll : List Addr → Heap → Heap
  | [], h => h
  | L :: Ls, h => hide L (hideAll Ls h)
theorem hideAll_in {b : Addr} (Ls : List Addr) {h : Heap} (m : b ∈ Ls) : (hideAll Ls h).get? b = none := by
  induction Ls with
  | nil => cases m
  | cons L Ls ih =>
    by_cases e : b = L
    · rw [e]; exact hide_self _ _
    · show (hide L (hideAll Ls h)).get? b = none
      rw [hide_other _ e]
      rcases List.mem_cons.mp m with q | q
      · exact absurd q e
      · exact ih q
theorem hideAll_out {b : Addr} : ∀ {Ls : List Addr} {h : Heap}, b ∉ Ls → (hideAll Ls h).get? b = h.get? b
  | [], h, _ => rfl
  | L :: Ls, h, m => by
    show (hide L (hideAll Ls h)).get? b = _
    rw [hide_other _ (fun e => m (by rw [e]; exact .head _))]; exact hideAll_out fun q => m (.tail _ q)
theorem hideAll_some {b : Addr} {o : Obj} {Ls : List Addr} {h : Heap} (e : (hideAll Ls h).get? b = some o) : h.get? b = some o ∧ b ∉ Ls := by
  by_cases m : b ∈ Ls
  · rw [hideAll_in _ m] at e; cases e
  · rw [hideAll_out m] at e; exact ⟨e, m⟩
/-- all stands but the slots of the frames -/
theorem quiet_step {h₀ : Heap} {σ : Hp} {h h' : Heap} {Ls : List Addr} (hw : W h₀ σ h) (hL : ∀ L ∈ Ls, h₀.get? L = none ∧ σ L = none ∧ ∃ o, h.get? L = some o ∧ IsD o) (k : (hideAll Ls h).StaysIn h')
    (d : ∀ b o, h.get? b = some o → IsD o → ∃ sl, h'.get? b = some { o with slots := sl }) : Step h₀ σ h σ h' := by
  have out : ∀ b o, b ∉ Ls → h.get? b = some o → h'.get? b = some o := fun b o n e => k b o (by rw [hideAll_out n]; exact e)
  have nD : ∀ b o, h.get? b = some o → ¬ IsD o → b ∉ Ls := fun b o e n m => by
    obtain ⟨_, _, o', e', d'⟩ := hL b m
    rw [e] at e'; cases e'; exact n d'
  have tups : Tups h h' := fun a o e i => out a o (nD a o e fun ⟨es, n, q⟩ => by
    rcases i with ⟨_, _, _, i⟩ | ⟨_, _, i⟩ | ⟨_, i⟩ | i <;> rw [q] at i <;> cases i) e
  refine ⟨⟨fun b o e => out b o (fun m => by rw [(hL b m).1] at e; cases e) (hw.stays b o e), fun a o e => ?_, hw.above, hw.small⟩, fun a o _ _ n e => out a o (nD a o e n) e, fun a o _ _ q e => d a o e q, .refl _ _, tups, fun a o e => ?_⟩
  · have na : a ∉ Ls := fun m => by rw [(hL a m).2.1] at e; cases e
    have x := hw.holds a o e
    cases o with
    | list xs => obtain ⟨vs, n, e2, rr⟩ := x; exact ⟨vs, n, out _ _ na e2, rr.tups tups⟩
    | flist xs => obtain ⟨vs, ⟨o2, e2, r⟩, rr⟩ := x; exact ⟨vs, ⟨o2, out _ _ na e2, r⟩, rr.tups tups⟩
    | iter l i => cases l <;> (obtain ⟨o2, e2, r⟩ := x; exact ⟨o2, out _ _ na e2, r⟩)
    | imap m n => exact holds_map tups x fun ob eo => out _ ob na eo
  · by_cases q : IsD o
    · obtain ⟨sl, e'⟩ := d a o e q
      exact ⟨_, e', fun _ => q⟩
    · exact ⟨o, out a o (nD a o e q) e, id⟩
noncomputable def frameOfs (l : List Env) : List Addr := l.filterMap (·.frame)
theorem funFrames {h base : Heap} : ∀ {l : List Env}, (∀ env ∈ l, env.scope.kind ≠ .module ∧ ∃ L, env.frame = some L ∧ base.get? L = none ∧ ∃ o, h.get? L = some o ∧ IsD o) → h.FunFrames base l
  | [], _ => trivial
  | env :: l, q => by
    obtain ⟨k, L, e1, e2, o, e3, es, n, e4⟩ := q env (.head _)
    exact ⟨k, ⟨L, o, e1, e2, e3, fun vs d => by rw [e4] at d; cases d⟩, funFrames fun e m => q e (.tail _ m)⟩
/-! what is raised -/
noncomputable def NX (v : V) : Prop := match v with | .exc _ _ => False | _ => True
/-- in flight below the frames fr: made at the heap hr, where all had come to σ' -/
structure Fly (fr : List Env) (own : Addr → Prop) (h₀ : Heap) (σ : Hp) (h : Heap) (cls : String) (words : Str) (σ' : Hp) (e : Addr) (h' : Heap) : Prop where
  go : ∃ (hr : Heap) (tk : Tok) (Ls : List Addr) (t : Addr), StepX own h₀ σ h σ' hr ∧ (∀ L ∈ Ls, h₀.get? L = none ∧ σ' L = none ∧ ∃ o, hr.get? L = some o ∧ IsD o) ∧ (hideAll Ls hr).get? t = none ∧
    Heap.FlyingW (hideAll Ls hr) fr e (.type cls) (.ref t) h' ∧ h'.TupAt t [.str words tk] ∧ (∀ b o, hr.get? b = some o → IsD o → ∃ sl, h'.get? b = some { o with slots := sl })
/-- just made -/
structure Made (own : Addr → Prop) (h₀ : Heap) (σ : Hp) (h : Heap) (cls : String) (words : Str) (σ' : Hp) (e : Addr) (h' : Heap) : Prop where
  go : ∃ (hr : Heap) (tk : Tok), StepX own h₀ σ h σ' hr ∧ Heap.MadeExcOf hr h' e (.type cls) [.str words tk]
/-- what is raised in the frame on top -/
inductive PX (A : Around) (own : Addr → Prop) (h₀ : Heap) (σ : Hp) (s : Shared) (K : V → Hp → Prop) (v : Value) (s' : Shared) : Prop
  | made (e : Addr) (cls : String) (words : Str) (σ' : Hp) (h1 : v = .ref e) (hc : cls = "TypeError" ∨ cls = "IndexError") (h2 : Made own h₀ σ s.heap cls words σ' e s'.heap) (h3 : Sm s s') (h4 : K (.exc cls words) σ') : PX A own h₀ σ s K v s'
  | fly (l : List Env) (e : Addr) (cls : String) (words : Str) (σ' : Hp) (h0 : A.frames = some l) (h1 : v = .ref e) (hc : cls = "TypeError" ∨ cls = "IndexError") (h2 : Fly l own h₀ σ s.heap cls words σ' e s'.heap) (h3 : Sm s s') (h4 : K (.exc cls words) σ') : PX A own h₀ σ s K v s'
theorem PX.back {A : Around} {own : Addr → Prop} {h₀ : Heap} {σ σ₁ : Hp} {s s₁ : Shared} {K : V → Hp → Prop} {v : Value} {s' : Shared} (p : PX A own h₀ σ₁ s₁ K v s') (st : StepX own h₀ σ s.heap σ₁ s₁.heap) (m : Sm s s₁) : PX A own h₀ σ s K v s' := by
  cases p with
  | made e cls words σ' h1 hc h2 h3 h4 =>
    obtain ⟨hr, tk, a, b⟩ := h2.go
    exact .made e cls words σ' h1 hc ⟨hr, tk, st.trans a, b⟩ (m.trans h3) h4
  | fly l e cls words σ' h0 h1 hc h2 h3 h4 =>
    obtain ⟨hr, tk, Ls, t, a, b⟩ := h2.go
    exact .fly l e cls words σ' h0 h1 hc ⟨hr, tk, Ls, t, st.trans a, b⟩ (m.trans h3) h4
theorem PX.any {A : Around} {own : Addr → Prop} {h₀ : Heap} {σ : Hp} {s : Shared} {K : V → Hp → Prop} {v : Value} {s' : Shared} (p : PX A nobody h₀ σ s K v s') : PX A own h₀ σ s K v s' := by
  cases p with
  | made e cls words σ' h1 hc h2 h3 h4 =>
    obtain ⟨hr, tk, a, b⟩ := h2.go
    exact .made e cls words σ' h1 hc ⟨hr, tk, Step.any a, b⟩ h3 h4
  | fly l e cls words σ' h0 h1 hc h2 h3 h4 =>
    obtain ⟨hr, tk, Ls, t, a, b⟩ := h2.go
    exact .fly l e cls words σ' h0 h1 hc ⟨hr, tk, Ls, t, Step.any a, b⟩ h3 h4

/-! M10 -/
theorem BI.boot (f : BI) : bootBuiltins f.name = some f.val := by cases f <;> decide +kernel
theorem BI.notName (f : BI) : f.name ≠ ("__name__" : Str) ∧ (f.name == ("__debug__" : Str)) = false := by cases f <;> decide +kernel
noncomputable def freeNames : List Str := ["len", "min", "max", "sum", "range", "list", "abs", "sorted", "divmod", "reversed", "zip", "iter", "object", "str", "isinstance", "enumerate", "int", "TypeError", "AttributeError", "IndexError"]
theorem BI.mem (f : BI) : f.name ∈ freeNames := by cases f <;> decide +kernel
/-- the frames of the run are namespaces above the ground -/
structure Frs (A : Around) (h₀ : Heap) (σ : Hp) (h : Heap) : Prop where
  go : ∃ l, A.frames = some l ∧ ∀ env ∈ l, env.scope.kind ≠ .module ∧ ∃ L, env.frame = some L ∧ h₀.get? L = none ∧ σ L = none ∧ ∃ o, h.get? L = some o ∧ IsD o
theorem Frs.step {A : Around} {own : Addr → Prop} {h₀ : Heap} {σ σ' : Hp} {h h' : Heap} (f : Frs A h₀ σ h) (st : StepX own h₀ σ h σ' h') : Frs A h₀ σ' h' := by
  obtain ⟨l, e, q⟩ := f.go
  refine ⟨l, e, fun env m => ?_⟩
  obtain ⟨k, L, e1, e2, e3, o, e4, e5⟩ := q env m
  obtain ⟨o', e6, e7⟩ := st.alive L o e4
  exact ⟨k, L, e1, e2, st.grow.none e4 e3, o', e6, e7 e5⟩
/-- the frame on top -/
noncomputable def OnTop (A : Around) (env : Env) : Prop := ∃ l, A.frames = some (env :: l)
/-- a function of this make keeps a contract -/
noncomputable def FdOk (prog : Program) (w : World) (h₀ : Heap) (n : Nat) (fd : FuncData) (Φ : List V → (V → Hp → Prop) → Hp → Prop) : Prop :=
  ∀ (A : Around) (s : Shared) (σ : Hp) (fa : Addr) (o : Obj) (ar : Args) (vals : List Value) (args : List V) (Q : V → Hp → Prop), s.heap.get? fa = some o → o.data = .func fd → (∀ binds, BindsTo s fd ⟨vals, []⟩ binds → BindsTo s fd ar binds) → RoomW A n → Frs A h₀ σ s.heap → W h₀ σ s.heap → Reps s.heap vals args →
    Φ args Q σ → wpAny (model prog w) A (call (.ref fa) ar.pos ar.kw) (PV h₀ σ s Q) E0 s
/-- a def of the text that keeps a contract -/
inductive FnOk (prog : Program) (w : World) (h₀ : Heap) (n : Nat) (fv : Value) (Φ : List V → (V → Hp → Prop) → Hp → Prop) : Prop
  | mk (fa : Addr) (o : Obj) (fd : FuncData) (h1 : fv = .ref fa) (h2 : h₀.get? fa = some o) (h3 : o.data = .func fd) (h4 : FdOk prog w h₀ n fd Φ) : FnOk prog w h₀ n fv Φ
/-- the same of a function that may raise: what is raised comes to the contract as a V.exc -/
noncomputable def FdOkX (prog : Program) (w : World) (h₀ : Heap) (n : Nat) (fd : FuncData) (Φ : List V → (V → Hp → Prop) → Hp → Prop) : Prop :=
  ∀ (A : Around) (s : Shared) (σ : Hp) (fa : Addr) (o : Obj) (vals : List Value) (args : List V) (Q : V → Hp → Prop), s.heap.get? fa = some o → o.data = .func fd → RoomW A n → Frs A h₀ σ s.heap → W h₀ σ s.heap → Reps s.heap vals args →
    Φ args Q σ → wpAny (model prog w) A (call (.ref fa) vals) (PV h₀ σ s fun v σ => NX v ∧ Q v σ) (PX A nobody h₀ σ s Q) s
inductive FnOkX (prog : Program) (w : World) (h₀ : Heap) (n : Nat) (fv : Value) (Φ : List V → (V → Hp → Prop) → Hp → Prop) : Prop
  | mk (fa : Addr) (o : Obj) (fd : FuncData) (h1 : fv = .ref fa) (h2 : h₀.get? fa = some o) (h3 : o.data = .func fd) (h4 : FdOkX prog w h₀ n fd Φ) : FnOkX prog w h₀ n fv Φ
/-- what the ground must show of the names -/
structure NamesOk (prog : Program) (w : World) (h₀ : Heap) (mg : Str → Option Value) (n : Nat) (fns : List Str) (Φ : Fns) : Prop where
  fr : ∀ x ∈ freeNames, mg x = none
  fn : ∀ (i : Nat) x, fns[i]? = some x → ∃ fv, mg x = some fv ∧ FnOk prog w h₀ n fv (Φ i)
  cv : ∀ fd, FdOk prog w h₀ n fd (fun args Q σ => Φ 1000 (.func fd :: args) Q σ)
  gv : ∀ (i : Nat) x fa o fd, fns[i]? = some x → mg x = some (.ref fa) → h₀.get? fa = some o → o.data = .func fd → ∀ σ, Φ 1001 [.int i, .func fd] (fun _ _ => True) σ
  kv : ∀ fa o fd, mg "nsmallest" = some (.ref fa) → h₀.get? fa = some o → o.data = .func fd → ∀ (s : Shared), (∀ b o, h₀.get? b = some o → s.heap.get? b = some o) → ∀ binds a b c,
    (BindsTo s fd ⟨[a, b, c], []⟩ binds → BindsTo s fd ⟨[a, b], [("key", c)]⟩ binds) ∧ (BindsTo s fd ⟨[a, b, .none], []⟩ binds → BindsTo s fd ⟨[a, b], []⟩ binds)
  fx : ∀ (i : Nat) x, fns[i]? = some x → ∃ fv, mg x = some fv ∧ FnOkX prog w h₀ n fv (Φ (3000 + i))

theorem PV.back {h₀ : Heap} {σ σ' : Hp} {s s₁ : Shared} {Q : V → Hp → Prop} {v : Value} {s' : Shared} (p : PV h₀ σ' s₁ Q v s') (st : Step h₀ σ s.heap σ' s₁.heap) (m : Sm s s₁) : PV h₀ σ s Q v s' := by
  obtain ⟨x, σ'', r, ⟨st', m'⟩, q⟩ := p; exact ⟨x, σ'', r, ⟨st.trans st', m.trans m'⟩, q⟩
theorem PB.back {h₀ : Heap} {σ σ' : Hp} {s s₁ : Shared} {Q : Bool → Hp → Prop} {v : Bool} {s' : Shared} (p : PB h₀ σ' s₁ Q v s') (st : Step h₀ σ s.heap σ' s₁.heap) (m : Sm s s₁) : PB h₀ σ s Q v s' := by
  obtain ⟨σ'', ⟨st', m'⟩, q⟩ := p; exact ⟨σ'', ⟨st.trans st', m.trans m'⟩, q⟩
inductive PVs (h₀ : Heap) (σ : Hp) (s : Shared) (Q : List V → Hp → Prop) (v : List Value) (s' : Shared) : Prop
  | mk (x : List V) (σ' : Hp) (h1 : Reps s'.heap v x) (h2 : (Step h₀ σ s.heap σ' s'.heap ∧ Sm s s')) (h3 : Q x σ') : PVs h₀ σ s Q v s'

theorem PV.on {h₀ : Heap} {σ : Hp} {s s' : Shared} {Q : V → Hp → Prop} {v : Value} {R : Prop} (k : ∀ x σ', Rep s'.heap v x → Step h₀ σ s.heap σ' s'.heap → Sm s s' → Q x σ' → R) (p : PV h₀ σ s Q v s') : R := by
  obtain ⟨x, σ', r, ⟨st, m⟩, q⟩ := p; exact k x σ' r st m q
theorem PVs.on {h₀ : Heap} {σ : Hp} {s s' : Shared} {Q : List V → Hp → Prop} {v : List Value} {R : Prop} (k : ∀ x σ', Reps s'.heap v x → Step h₀ σ s.heap σ' s'.heap → Sm s s' → Q x σ' → R) (p : PVs h₀ σ s Q v s') : R := by
  obtain ⟨x, σ', r, ⟨st, m⟩, q⟩ := p; exact k x σ' r st m q
theorem PB.on {h₀ : Heap} {σ : Hp} {s s' : Shared} {Q : Bool → Hp → Prop} {v : Bool} {R : Prop} (k : ∀ σ', Step h₀ σ s.heap σ' s'.heap → Sm s s' → Q v σ' → R) (p : PB h₀ σ s Q v s') : R := by
  obtain ⟨σ', ⟨st, m⟩, q⟩ := p; exact k σ' st m q
theorem list_slots (m : Meth) : Slot "list" m.name m.id ∧ typeOf (.builtin m.id) = pure (.type "method_descriptor") := by
  cases m
  · exact ⟨PySem.F.slot_list_append, by kernel_rfl⟩
  · exact ⟨PySem.F.slot_list_extend, by kernel_rfl⟩
  · exact ⟨PySem.F.slot_list_pop, by kernel_rfl⟩
  · exact ⟨PySem.F.slot_list_index, by kernel_rfl⟩
  · exact ⟨PySem.F.slot_list_reverse, by kernel_rfl⟩
  · exact ⟨PySem.F.slot_list_sort, by kernel_rfl⟩

section
variable {prog : Program} {w : World} {h₀ : Heap} {mg mb : Str → Option Value} {Φ : Fns} {n : Nat} {fns : List Str}

theorem load_glob (G : Gnd prog h₀ mg mb) {A : Around} {s : Shared} {σ : Hp} {c : Cfg} {env : Env} {own : Addr → Prop} {F : Frm} (hw : W h₀ σ s.heap) (hf : FrOk c env own F h₀ σ s.heap) {x : Str} {p : Pos} {v : Value}
    (k : c.sc.lookup x = some .globalImplicit) (hd : (x == ("__debug__" : Str)) = false) (hv : mg x = some v ∨ (mg x = none ∧ mb x = some v)) {Q : Value → Shared → Prop} {E : Value → Shared → Prop} (q : Q v s) :
    wpAny (model prog w) A (eval (.Name x p) env) Q E s := by
  refine Calls.Name_function_global hf.kind (hf.gk x k) ?_ hd
  rcases hv with e | ⟨e1, e2⟩
  · exact Calls.loadGlobal_global (by rw [hf.glob]; exact G.g.keeps hw.stays) e q
  · exact Calls.loadGlobal_builtin (by rw [hf.glob]; exact G.g.keeps hw.stays) e1 (by rw [hf.bi]; exact G.b.keeps hw.stays) e2 q

/-- where a text stands -/
structure Here (prog : Program) (w : World) (h₀ : Heap) (mg mb : Str → Option Value) (Φ : Fns) (n : Nat) (c : Cfg) (A : Around) (s : Shared) (σ : Hp) (env : Env) (own : Addr → Prop) (F : Frm) : Prop where
  G : Gnd prog h₀ mg mb
  NM : NamesOk prog w h₀ mg n c.fns Φ
  R : Room A n
  w : W h₀ σ s.heap
  f : FrOk c env own F h₀ σ s.heap
  fs : Frs A h₀ σ s.heap
theorem Here.step {c : Cfg} {A : Around} {s s' : Shared} {σ σ' : Hp} {env : Env} {own : Addr → Prop} {F : Frm} (X : Here prog w h₀ mg mb Φ n c A s σ env own F) (st : Step h₀ σ s.heap σ' s'.heap) : Here prog w h₀ mg mb Φ n c A s' σ' env own F := ⟨X.G, X.NM, X.R, st.w, X.f.step st, X.fs.step st⟩
end
/-- an expression is what its walk says -/
noncomputable def CE (c : Cfg) (e : Expr) (p : PE) : Prop := ∀ {prog : Program} {w : World} {h₀ : Heap} {mg mb : Str → Option Value} {Φ : Fns} {n : Nat} {A : Around} {s : Shared} {σ : Hp} {env : Env} {own : Addr → Prop} {F : Frm} {Q : V → Hp → Prop},
  Here prog w h₀ mg mb Φ n c A s σ env own F → vE Φ p Q F σ → wpAny (model prog w) A (eval e env) (PV h₀ σ s Q) E0 s
/-- a test -/
noncomputable def CT (c : Cfg) (e : Expr) (p : PE) : Prop := ∀ {prog : Program} {w : World} {h₀ : Heap} {mg mb : Str → Option Value} {Φ : Fns} {n : Nat} {A : Around} {s : Shared} {σ : Hp} {env : Env} {own : Addr → Prop} {F : Frm} {P : Bool → Hp → Prop},
  Here prog w h₀ mg mb Φ n c A s σ env own F → vT Φ p P F σ → wpAny (model prog w) A (isTrue e env (eval e env)) (PB h₀ σ s P) E0 s
inductive CEs (c : Cfg) : List Expr → List PE → Prop
  | nil : CEs c [] []
  | cons {e : Expr} {a : PE} {es : List Expr} {as : List PE} : CE c e a → CEs c es as → (∀ env, starEach (e :: es) env = (false, eval e env) :: starEach es env) → CEs c (e :: es) (a :: as)
inductive CO (c : Cfg) : Option Expr → Option PE → Prop
  | none : CO c none none
  | some {e : Expr} {a : PE} : CE c e a → CO c (some e) (some a)
inductive CTs (c : Cfg) : List Expr → List PE → Prop
  | nil : CTs c [] []
  | cons {e : Expr} {a : PE} {es : List Expr} {as : List PE} : CT c e a → CTs c es as → CTs c (e :: es) (a :: as)
section
variable {prog : Program} {w : World} {h₀ : Heap} {mg mb : Str → Option Value} {Φ : Fns} {n : Nat} {fns : List Str}

theorem star_plain {c : Cfg} {env : Env} {pos : Pos} : ∀ {es : List Expr} {as : List PE}, CEs c es as → (backTo pos (starEach es env)).any (·.1) = false
  | _, _, .nil => rfl
  | _, _, .cons (es := es) _ h hs => by
    rw [hs env]
    show (false || (backTo pos (starEach es env)).any (·.1)) = false
    rw [star_plain h]; rfl

theorem evalArgs_ces {c : Cfg} {es : List Expr} {as : List PE} {env : Env} {pos : Pos} {M : Model} {A : Around} {s : Shared} {E : Value → Shared → Prop} {f : Value} {Q : Args → Shared → Prop} (h : CEs c es as)
    (q : wpAny M A (spliced (backTo pos (starEach es env))) (fun vs s' => Q ⟨vs, []⟩ s') E s) : wpAny M A (evalArgs f true (backTo pos (starEach es env)) []) Q E s := by
  cases h with
  | nil =>
    have q' : wpAny M A (spliced []) (fun vs s' => Q ⟨vs, []⟩ s') E s := q
    show wpAny M A (evalArgs f true [] []) Q E s
    unfold evalArgs
    show wpAny M A (spliced [] >>= _) Q E s
    refine wpAny_bind (wpAny_mono q' (fun vs s' h' => wpAny_bind (wpAny_pure ?_)) fun _ _ x => x)
    refine wpAny_holding ?_
    exact wpAny_bind (wpAny_pure (wpAny_bind (wpAny_pure (wpAny_pure h'))))
  | cons h1 h2 hs =>
    rw [hs env] at q ⊢
    exact Calls.evalArgs_plain q
end

/-! M11 -/
theorem StepX.drop {own : Addr → Prop} {h₀ : Heap} {σ σ' : Hp} {h h' : Heap} (x : StepX own h₀ σ h σ' h') (n : ∀ a, own a → h.get? a = none) : Step h₀ σ h σ' h' :=
  ⟨x.w, fun a o m _ d e => x.keep a o m (fun q => by rw [n a q] at e; cases e) d e, fun a o m _ d e => x.dict a o m (fun q => by rw [n a q] at e; cases e) d e, x.grow, x.tups, x.alive⟩
theorem Beside.of_grow {as : List Addr} {h₀ : Heap} {σ σ' : Hp} {hb h : Heap} (b : Beside as h₀ σ hb) (g : Grow σ h σ') (e : ∀ a ∈ as, ∃ o, h.get? a = some o) : Beside as h₀ σ' hb := fun a m => by
  obtain ⟨o, q⟩ := e a m
  exact ⟨(b a m).1, g.none q (b a m).2.1, (b a m).2.2⟩
theorem ItRep.there {h : Heap} {v : Value} {as : List Addr} {it : It} (r : ItRep h v as it) : ∀ a ∈ as, ∃ o, h.get? a = some o := by
  intro a m
  cases it with
  | lst b k => obtain ⟨I, _, rfl, o', e', _⟩ := r; simp at m; subst m; exact ⟨_, e'⟩
  | rng x n c => obtain ⟨I, _, rfl, e'⟩ := r; simp at m; subst m; exact ⟨_, e'⟩
  | vals vs => obtain ⟨I, t, k, ws, _, rfl, ⟨o', e', _⟩, _⟩ := r; simp at m; subst m; exact ⟨_, e'⟩
  | enm k b =>
    obtain ⟨e1, I, old, _, rfl, _, e', o', e2, _⟩ := r
    simp at m
    rcases m with rfl | rfl
    · exact ⟨_, e'⟩
    · exact ⟨_, e2⟩

noncomputable def Sub0 (F F' : Frm) : Prop := ∀ (i : Nat) v, F[i]? = some (some v) → F'[i]? = some (some v)
theorem FrOk.weak {c : Cfg} {env : Env} {own : Addr → Prop} {F F' : Frm} {h₀ : Heap} {σ : Hp} {h : Heap} (f : FrOk c env own F' h₀ σ h) (s : Sub0 F F') : FrOk c env own F h₀ σ h :=
  ⟨f.kind, f.glob, f.bi, f.gk, f.vk, (by obtain ⟨m, a, b⟩ := f.ns; exact ⟨m, a, fun i x v e1 e2 e3 => b i x v e1 e2 (s i v e3)⟩),
   (fun i x e1 e2 => by obtain ⟨a, cv, g1, g2, g3, g4, g5, g6⟩ := f.cell i x e1 e2; exact ⟨a, cv, g1, g2, g3, g4, g5, fun v hv => g6 v (s i v hv)⟩), f.inj, f.loc, f.nd, f.ex⟩

/-- slots that hold nothing -/
noncomputable def Tgt.free (t : Tgt) (F : Frm) : Prop := match t with | .name i => ∀ v, F[i]? ≠ some (some v) | .tup is => ∀ i ∈ is, ∀ v, F[i]? ≠ some (some v)
theorem sub_set {F : Frm} {i : Nat} {x : V} (h : ∀ v, F[i]? ≠ some (some v)) : Sub0 F (F.set i (some x)) := fun j v e => by
  by_cases q : i = j
  · subst q; exact absurd e (h v)
  · rw [List.getElem?_set_ne q]; exact e
theorem sub_setAll : ∀ (is : List Nat) (xs : List V) (F G : Frm), (∀ i ∈ is, ∀ v, F[i]? ≠ some (some v)) → Sub0 F G → Sub0 F (setAll is xs G)
  | [], _, F, G, _, h => by simpa [setAll] using h
  | i :: is, [], F, G, _, h => by simpa [setAll] using h
  | i :: is, x :: xs, F, G, hn, h => by
    unfold setAll
    refine sub_setAll is xs F _ (fun j m => hn j (.tail _ m)) fun j v e => ?_
    by_cases q : i = j
    · subst q; exact absurd e (hn _ (.head _) v)
    · rw [List.getElem?_set_ne q]; exact h j v e
theorem bind_sub {t : Tgt} {x : V} {P : Frm → Prop} {F : Frm} {σ : Hp} (h : bindT t x P F σ) (f : t.free F) : bindT t x (fun F1 => P F1 ∧ Sub0 F F1) F σ := by
  unfold bindT at h ⊢
  split at h
  · exact ⟨h, sub_set f⟩
  · exact ⟨h.1, h.2, sub_setAll _ _ _ _ f (fun _ _ e => e)⟩
  · exact h
theorem inner_free_at {c : Cfg} {scope : Scope} {F : Frm} (ok : scOk c scope.names = true) {i : Nat} {x : Str} (e : (Cfg.mk scope.names c.fns).names[i]? = some x) (nf : (Cfg.mk scope.names c.fns).sc.lookup x ≠ some .free) :
    ∀ v, (frOf (fmapOf c scope.names) F)[i]? ≠ some (some v) := by
  intro v h
  simp only [scOk, Bool.and_eq_true, decide_eq_true_eq, List.all_eq_true] at ok
  obtain ⟨kk, g, m, l⟩ := names_mem e
  have lk := lookup_of_nodup ok.1 m
  have hk : kk ≠ .free := by rintro rfl; exact nf lk
  unfold frOf fmapOf at h
  rw [List.getElem?_map, List.getElem?_map, g] at h
  simp [hk] at h
theorem inner_free {c : Cfg} {scope : Scope} {F : Frm} (ok : scOk c scope.names = true) {t : Expr} {tg : Tgt} (h : CG { sc := scope.names, fns := c.fns } t tg) : tg.free (frOf (fmapOf c scope.names) F) := by
  cases h with
  | name e nf => exact inner_free_at ok e nf
  | tup hg =>
    show ∀ i ∈ _, _
    exact go hg
where
  go : ∀ {es : List Expr} {is : List Nat}, CGs { sc := scope.names, fns := c.fns } es is → ∀ i ∈ is, ∀ v, (frOf (fmapOf c scope.names) F)[i]? ≠ some (some v)
  | _, _, .nil, i, m => by cases m
  | _, _, .cons e nf hr, i, m => by
    rcases List.mem_cons.mp m with rfl | m
    · exact inner_free_at ok e nf
    · exact go hr i m

section
variable {prog : Program} {w : World} {A : Around} {R : Result → Shared → Prop} {s : Shared}
theorem compLoop_gen {elt target iter : Expr} {ifs : List Expr} {scope : Scope} {pos : Pos} {it acc : Value} {env : Env} (I : Nat → Shared → Prop)
    (turn : ∀ n s, I n s → wpAny (model prog w) A (pyNext it) (fun r s₁ => match r with
      | none => R (.ok .next) s₁
      | some v => wpAny (model prog w) A (letOwnedTupleGo target it v) (fun _ s₁' => wpAny (model prog w) A (assign target env v) (fun _ s₂ =>
          wpAny (model prog w) A (forIn ifs true fun c r => if r = true then do let ok ← isTrue c env (eval c env); pure (ForInStep.yield ok) else pure (ForInStep.yield r)) (fun ok s₃ =>
            if ok = true then wpAny (model prog w) A (eval elt env) (fun x s₄ =>
              wpAny (model prog w) A (call (.builtin "list.append") [acc, x]) (fun _ s₅ => ∃ m, m < n ∧ I m s₅) E0 s₄) E0 s₃
            else ∃ m, m < n ∧ I m s₃) E0 s₂) E0 s₁') E0 s₁) E0 s)
    (n : Nat) (h : I n s) :
    codeAny (model prog w) A (.compLoop (.ListComp elt [⟨target, iter, ifs, 0⟩] scope pos) 0 it acc env) R s := by
  refine codeAny_loop rfl I (fun n s hI => ?_) n h
  show wpAny _ A ((compTurn (.ListComp elt [⟨target, iter, ifs, 0⟩] scope pos) 0 it acc env).onRaise (fun x => do noteFrame x env; theTreesLotGoes x)) _ _ s
  refine wpAny_noted ?_
  rw [compTurn_list]
  have e0 : ∀ (E : Value → Shared → Prop) e s, E0 e s → E e s := fun _ _ _ f => f.elim
  refine wpAny_bind (wpAny_standAt (wpAny_bind (wpAny_mono (turn n s hI) (fun r s₁ h₁ => ?_) (e0 _))))
  cases r with
  | none => exact wpAny_pure h₁
  | some v =>
    refine wpAny_bind (wpAny_mono h₁ (fun _ s₁' h₁' => ?_) (e0 _))
    refine wpAny_bind (wpAny_mono h₁' (fun _ s₂ h₂ => wpAny_bind (wpAny_mono h₂ (fun ok s₃ h₃ => ?_) (e0 _))) (e0 _))
    cases ok with
    | true =>
      simp only [if_true] at h₃ ⊢
      exact wpAny_bind (wpAny_bind (wpAny_mono h₃ (fun x s₄ h₄ => wpAny_bind (wpAny_mono h₄ (fun _ s₅ h₅ => wpAny_pure (wpAny_pure ⟨rfl, h₅⟩)) (e0 _))) (e0 _)))
    | false =>
      simp only [Bool.false_eq_true, if_false] at h₃ ⊢
      exact wpAny_pure ⟨rfl, h₃⟩
end

/-! M12 -/
theorem letGo_at {prog : Program} {w : World} {A : Around} {s : Shared} {t : Expr} {I : Addr} {o : Obj} {T : String} {vs : Array Value} {y : Value} {Q : Unit → Shared → Prop} {E : Value → Shared → Prop} (e : s.heap.get? I = some o) (hc : o.cls = .type T) (hd : o.data = .fields vs)
    (hT : ["enumerate", "zip", "dict_itemiterator", "dict_reverseitemiterator", "odict_iterator", "itertools.zip_longest", "itertools.pairwise"].contains T = false) (q : Q () s) : wpAny (model prog w) A (letOwnedTupleGo t (.ref I) y) Q E s := by
  have key : wpAny (model prog w) A (do
      let (.ref r, .ref a) := (Value.ref I, y) | return
      let o ← load r
      match o.cls, o.data with
      | .type n, .fields vs =>
        if ["enumerate", "zip", "dict_itemiterator", "dict_reverseitemiterator", "odict_iterator", "itertools.zip_longest", "itertools.pairwise"].contains n && vs[0]? == some (rawInt a) then
          rule "for.unpacks-the-owned-tuple"
          updateField r 0 .none
      | _, _ => pure ()) Q E s := by
    cases y with
    | ref a =>
      refine wpAny_bind (wpAny_load e ?_)
      rw [hc, hd]
      dsimp only
      rw [hT]
      exact wpAny_pure q
    | _ => exact wpAny_pure q
  unfold letOwnedTupleGo
  split
  · exact key
  · exact key
  · exact wpAny_pure q
theorem letGo_it {prog : Program} {w : World} {A : Around} {s : Shared} {t : Expr} {iv : Value} {as : List Addr} {it : It} {y : Value} {Q : Unit → Shared → Prop} {E : Value → Shared → Prop} (r : ItRep s.heap iv as it) (hk : (∀ k a, it = .enm k a → False)) (q : Q () s) :
    wpAny (model prog w) A (letOwnedTupleGo t iv y) Q E s := by
  cases it with
  | lst b k => obtain ⟨I, rfl, rfl, o', e', c', d'⟩ := r; exact letGo_at e' c' d' (by decide) q
  | rng x n c => obtain ⟨I, rfl, rfl, e'⟩ := r; exact letGo_at e' rfl rfl (by decide) q
  | vals vs => obtain ⟨I, t, k, ws, rfl, rfl, ⟨o', e', c', d'⟩, _⟩ := r; exact letGo_at e' c' d' (by decide) q
  | enm k b => exact (hk _ _ rfl).elim
theorem pyIter_self {prog : Program} {w : World} {A : Around} {s : Shared} {iv : Value} {as : List Addr} {it : It} {Q : Value → Shared → Prop} {E : Value → Shared → Prop} (hh : A.handled = none) (r : ItRep s.heap iv as it) (q : Q iv s) :
    wpAny (model prog w) A (pyIter iv) Q E s := by
  cases it with
  | lst b k => obtain ⟨I, rfl, rfl, hi⟩ := r; exact wpAny_pyIter_listiter hi q
  | rng x n c =>
    obtain ⟨I, rfl, rfl, hi⟩ := r
    exact (Walks.range hh I x c n).self 0 s Q E (by simpa using hi) q
  | vals vs =>
    obtain ⟨I, t, k, ws, rfl, rfl, hi, ht, _⟩ := r
    have hne : t ≠ I := by
      rintro rfl
      obtain ⟨o, e, c, _⟩ := hi
      obtain ⟨o', e', c', _⟩ := ht
      rw [e] at e'; cases e'; rw [c] at c'; simp at c'
    exact (Walks.tuple hh I t hne ws.toArray).self k s Q E ⟨hi, ht⟩ q
  | enm k b => obtain ⟨e1, I, old, rfl, rfl, hne, he, hi⟩ := r; exact wpAny_pyIter_enum he q
theorem next_kind {it it' : It} {σ : Hp} {x : V} (hn : itNext it σ = some (some (x, it'))) (hk : (∀ k a, it = .enm k a → False)) : (∀ k a, it' = .enm k a → False) := by
  intro k a e
  subst e
  cases it with
  | lst b j =>
    simp only [itNext] at hn
    split at hn
    · split at hn <;> simp at hn
    · cases hn
  | rng x n c => cases n <;> simp [itNext] at hn
  | vals vs => cases vs <;> simp [itNext] at hn
  | enm k b => exact hk _ _ rfl

theorem lobj_notD {vs : List Value} {k : Nat} : ¬ IsD (LObj vs k) := fun ⟨_, _, d⟩ => by cases d
/-- what iterators beside the abstract heap are -/
structure Stand (as : List Addr) (P : Heap → Prop) : Prop where
  move : ∀ {h h' : Heap}, P h → (∀ a ∈ as, ∀ o, h.get? a = some o → h'.get? a = some o) → Tups h h' → P h'
  notImm : ∀ {h : Heap}, P h → ∀ a ∈ as, ∀ o, h.get? a = some o → ¬ Imm o
  there : ∀ {h : Heap}, P h → ∀ a ∈ as, ∃ o, h.get? a = some o
  notD : ∀ {h : Heap}, P h → ∀ a ∈ as, ∀ o, h.get? a = some o → ¬ IsD o
abbrev ItAt (iv : Value) (as : List Addr) (I : It) (h : Heap) : Prop := ItRep h iv as I
theorem stand_it {iv : Value} {as : List Addr} {I : It} : Stand as (ItAt iv as I) := ⟨fun x k t => ItRep.move x k t, fun x => ItRep.notImm x, fun x => ItRep.there x, fun x => ItRep.notD x⟩
/-- how a comprehension stands amid its turns -/
structure CSt (c : Cfg) (env : Env) (Cs : List Addr) (D : Addr) (as : List Addr) (P : Heap → Prop) (F0 : Frm) (h₀ : Heap) (σb : Hp) (hb : Heap) (acc : List V) (σ : Hp) (h : Heap) : Prop where
  it : P h
  sd : Stand as P
  lst : ∃ vs k, h.get? D = some (LObj vs k) ∧ Reps h vs acc
  fr : FrOk c env (fun a => a ∈ Cs) F0 h₀ σ h
  st : Step h₀ σb hb σ h
  bD : hb.get? D = none ∧ σ D = none ∧ h₀.get? D = none
  bC : Beside Cs h₀ σ hb
  bI : Beside as h₀ σ hb
  ne : D ∉ Cs ∧ D ∉ as ∧ ∀ a ∈ Cs, a ∉ as
  cl : ∀ y a, env.cells.lookup y = some a → a ∉ as ∧ a ≠ D ∧ (a ∈ Cs ∨ ∃ o, hb.get? a = some o)

section
variable {prog : Program} {w : World} {A : Around} {s : Shared} {c : Cfg} {env : Env} {Cs : List Addr} {D : Addr} {as : List Addr} {P P' : Heap → Prop} {F0 F1 : Frm} {h₀ : Heap} {σb σ σ' : Hp} {hb h h' : Heap} {acc : List V}

theorem CSt.step (x : CSt c env Cs D as P F0 h₀ σb hb acc σ h) (y : Step h₀ σ h σ' h') : CSt c env Cs D as P F0 h₀ σb hb acc σ' h' := by
  obtain ⟨vs, k, e, r⟩ := x.lst
  refine ⟨x.sd.move x.it (fun a m o e => y.keeps a o (none_mut (x.bI a m).2.1) (x.sd.notD x.it a m o e) e) y.tups, x.sd, ⟨vs, k, y.keeps D _ (none_mut x.bD.2.1) lobj_notD e, r.step y⟩, x.fr.step y, x.st.trans y, ⟨x.bD.1, y.grow.none e x.bD.2.1, x.bD.2.2⟩, x.bC.of_grow y.grow (fun a m => x.fr.ex a m), x.bI.of_grow y.grow (x.sd.there x.it), x.ne, x.cl⟩
/-- the iterator has moved on -/
theorem CSt.moved (x : CSt c env Cs D as P F0 h₀ σb hb acc σ h) (k : ∀ b o, b ∉ as → h.get? b = some o → h'.get? b = some o) (it' : P' h') (sd' : Stand as P') : CSt c env Cs D as P' F0 h₀ σb hb acc σ h' := by
  have t := (x.st.w.slip (fun a m => (x.bI a m).2) (x.sd.notImm x.it) k).2
  have st := StepX.slip x.st x.bI (x.sd.notImm x.it) k
  refine ⟨it', sd', ?_, ?_, st, x.bD, x.bC, x.bI, x.ne, x.cl⟩
  · obtain ⟨vs, j, e, r⟩ := x.lst
    exact ⟨vs, j, k D _ x.ne.2.1 e, r.tups t⟩
  · refine x.fr.move (fun o e => k _ o (x.ne.2.2 _ x.fr.loc.1) e) (fun y a e o e2 => k a o (x.cl y a e).1 e2) t (fun a m => ?_)
    obtain ⟨o, e⟩ := x.fr.ex a m
    exact ⟨o, k a o (x.ne.2.2 a m) e⟩
/-- the target is bound -/
theorem CSt.bound (x : CSt c env Cs D as P F0 h₀ σb hb acc σ h) (y : StepX (fun a => a ∈ Cs) h₀ σ h σ h') (f : FrOk c env (fun a => a ∈ Cs) F1 h₀ σ h') : CSt c env Cs D as P F1 h₀ σb hb acc σ h' := by
  obtain ⟨vs, k, e, r⟩ := x.lst
  refine ⟨x.sd.move x.it (fun a m o e => y.keep a o (none_mut (x.bI a m).2.1) (fun q => x.ne.2.2 a q m) (x.sd.notD x.it a m o e) e) y.tups, x.sd, ⟨vs, k, y.keep D _ (none_mut x.bD.2.1) x.ne.1 lobj_notD e, r.step y⟩, f, ?_, x.bD, x.bC, x.bI, x.ne, x.cl⟩
  exact StepX.drop ((Step.any x.st).trans y) fun a q => (x.bC a q).1
/-- an item is laid down -/
theorem CSt.append (x : CSt c env Cs D as P F1 h₀ σb hb acc σ s.heap) (sub : Sub0 F0 F1) {y : V} {v : Value} (r : Rep s.heap v y) (hb' : acc.length < BIG) {Q : Value → Shared → Prop} {E : Value → Shared → Prop}
    (q : ∀ s', Sm s s' → CSt c env Cs D as P F0 h₀ σb hb (acc ++ [y]) σ s'.heap → Q .none s') : wpAny (model prog w) A (call (.builtin "list.append") [.ref D, v]) Q E s := by
  obtain ⟨vs, k, e, rr⟩ := x.lst
  have hlen := rr.length
  refine call_meets PySem.F.slot_list_append ⟨_, e, rfl⟩ PySem.F.entry_list_append (PySem.F.args_list_append_2 _ _) (AutoListH.list_append_list_val_0 _ vs.toArray k _ (by simp; exact big_line (by omega))) ⟨e, ?_⟩
  have kk : ∀ b o, b ∉ [D] → s.heap.get? b = some o → (s.heap.update D (Obj.mapSeq fun x => x.push v)).get? b = some o := fun b o n e => (Heap.SameBut.update ..).extBut b o (by simpa using n) e
  have ni : ∀ a ∈ [D], ∀ o, s.heap.get? a = some o → ¬ Imm o := fun a m o e' i => by
    simp at m; subst m; rw [e] at e'; cases e'
    rcases i with i | i | i | i <;> simp [LObj] at i
  have bD : Beside [D] h₀ σ hb := fun a m => by simp at m; subst m; exact x.bD
  have t := (x.st.w.slip (fun a m => (bD a m).2) ni kk).2
  have nd : ∀ a ∈ Cs, a ∉ [D] := fun a m m' => by simp at m'; subst m'; exact x.ne.1 m
  refine q _ ⟨Eq.refl _, Eq.refl _⟩ ⟨x.sd.move x.it (fun a m o e => kk a o (by simp; rintro rfl; exact x.ne.2.1 m) e) t, x.sd, ?_, ?_, StepX.slip x.st bD ni kk, x.bD, x.bC, x.bI, x.ne, x.cl⟩
  · obtain ⟨m, g⟩ := LObj.update e (fun x => x.push v)
    refine ⟨_, m, g, ?_⟩
    have : ((fun x : Array Value => x.push v) vs.toArray).toList = vs ++ [v] := by simp
    rw [this]
    exact (rr.tups t).append (.cons (r.tups t) .nil)
  · refine (x.fr.weak sub).move (fun o e => kk _ o (nd _ x.fr.loc.1) e) (fun y a e o e2 => kk a o (by simp; exact (x.cl y a e).2.1) e2) t (fun a m => ?_)
    obtain ⟨o, e⟩ := x.fr.ex a m
    exact ⟨o, kk a o (nd a m) e⟩
theorem CSt.weak (x : CSt c env Cs D as P F1 h₀ σb hb acc σ h) (sub : Sub0 F0 F1) : CSt c env Cs D as P F0 h₀ σb hb acc σ h := ⟨x.it, x.sd, x.lst, x.fr.weak sub, x.st, x.bD, x.bC, x.bI, x.ne, x.cl⟩
end

/-- cells laid behind those of the closure -/
theorem cellsFrom_app : ∀ (names : List (Str × NameKind)) (n : Nat) (a b : List (Str × Addr)), cellsFrom n names (a ++ b) = cellsFrom n names a ++ b
  | [], n, a, b => rfl
  | (x, k) :: r, n, a, b => by
    unfold cellsFrom; split
    · exact cellsFrom_app r (n + 1) ((x, n) :: a) b
    · exact cellsFrom_app r n a b
theorem cells_mem {x : Str} {a : Addr} : ∀ (names : List (Str × NameKind)) (n : Nat) (acc : List (Str × Addr)), (x, a) ∈ cellsFrom n names acc → (x, a) ∈ acc ∨ (x, NameKind.cell) ∈ names
  | [], n, acc, h => .inl h
  | (y, k) :: r, n, acc, h => by
    unfold cellsFrom at h
    split at h
    · rename_i hk
      have e : k = .cell := by simpa using hk
      subst e
      rcases cells_mem r _ _ h with q | q
      · rcases List.mem_cons.mp q with q | q
        · cases q; exact .inr (.head _)
        · exact .inl q
      · exact .inr (.tail _ q)
    · rcases cells_mem r _ _ h with q | q
      · exact .inl q
      · exact .inr (.tail _ q)
theorem newEnv_cells {M : Model} {A : Around} {E : Value → Shared → Prop} {s : Shared} {scope : Scope} {globals : Addr} {cl : List (Str × Addr)} {qual : Str} {outer : Env} {Q : Env → Shared → Prop}
    (hQ : ∀ h' Ac, h'.Ns s.heap.objs.size (fun _ => none) → (∀ b o, s.heap.get? b = some o → h'.get? b = some o) → OwnCells scope.names s.heap.objs.size s.heap h' Ac →
      Q { scope, locals := s.heap.objs.size, globals, cells := Ac ++ cl, qual, func := none, code := outer.code, frame := outer.frame, builtins := outer.builtins } { s with heap := h' }) :
    wpAny M A (newFunctionEnv scope globals cl [] qual none .none (some outer)) Q E s := by
  simp only [newFunctionEnv, Option.isSome_some, if_true]
  refine wpAny_bind (wpAny_alloc ?_)
  refine wpAny_bind (wpAny_layCells _ (fun name kind cells => by cases hkc : kind == NameKind.cell <;> simp [hkc]) _ _ _ _ ?_)
  refine wpAny_bind ?_
  rw [List.forIn_nil]
  refine wpAny_pure (wpAny_pure ?_)
  have sz : ({ s with heap := s.heap.push { cls := .type "dict", data := .dict #[] } } : Shared).heap.objs.size = s.heap.objs.size + 1 := Heap.size_push ..
  rw [sz]
  have e0 : cellsFrom (s.heap.objs.size + 1) scope.names cl = cellsFrom (s.heap.objs.size + 1) scope.names [] ++ cl := cellsFrom_app scope.names _ [] cl
  rw [e0]
  have ok := cellsFrom_ok scope.names (s.heap.push { cls := .type "dict", data := .dict #[] }) (s.heap.objs.size + 1) [] ⟨fun _ _ hm => (nomatch hm), List.Pairwise.nil⟩ (by rw [Heap.size_push]; exact Nat.le_refl _)
  rw [Heap.size_push] at ok
  have hns : (s.heap.push { cls := .type "dict", data := .dict #[] }).Ns s.heap.objs.size (fun _ => none) := Heap.Ns.new ..
  refine hQ _ _ (hns.keeps (pushCells_keeps scope.names _)) (fun b o e => pushCells_keeps scope.names _ b o (Heap.get?_push_of_some _ e)) ⟨fun x e => cellsFrom_some _ _ _ (.inl e), fun x a m => ?_, ok.apart⟩
  obtain ⟨h1, h2⟩ := ok.empty x a m
  refine ⟨(cells_mem _ _ _ m).resolve_left (by simp), h1, ?_, Nat.ne_of_gt h2⟩
  cases q : s.heap.get? a with
  | none => rfl
  | some o => exact absurd (Heap.lt_size q) (Nat.not_lt_of_le (Nat.le_of_succ_le h2))

section
variable {prog : Program} {w : World} {A : Around} {s : Shared} {c : Cfg} {env : Env} {own : Addr → Prop} {as : List Addr} {iv : Value} {F : Frm} {h₀ : Heap} {σ : Hp} {hb : Heap} {I : It}

noncomputable def CompInv (Φ : Fns) (fm : List (Option Nat)) (elt : PE) (t : Tgt) (ifs : List PE) (Q : V → Hp → Prop) (F : Frm) (Inv : Nat → It → List V → Hp → Prop) : Prop :=
  ∀ n I acc σ, Inv n I acc σ →
        match itNext I σ with
        | none => False
        | some none => newL acc Q σ
        | some (some (x, I')) => bindT t x (fun F1 => vTs Φ ifs (fun b σ => if b then vE Φ elt (fun y σ => acc.length < BIG ∧ ∃ m, m < n ∧ Inv m I' (acc ++ [y]) σ) F1 σ else ∃ m, m < n ∧ Inv m I' acc σ) F1 σ)
            (frOf fm F) σ

/-- the frame of a comprehension, laid; then the turns -/
theorem comp_setup {elt t it : Expr} {ifs : List Expr} {rest : List Comprehension} {scope : Scope} {pos : Pos}
    (hh : A.handled = none) (ok : scOk c scope.names = true) (hk : scope.kind = .function)
    (hwb : W h₀ σ hb) (hf : FrOk c env own F h₀ σ hb) (ko : ∀ b o, hb.get? b = some o → s.heap.get? b = some o) (hit : ItRep s.heap iv as I) (bes : Beside as h₀ σ hb)
    {RR : Value → Addr → Result → Shared → Prop}
    (turns : ∀ env' Cs D s₃, Sm s s₃ → CSt { sc := scope.names, fns := c.fns } env' Cs D as (ItAt iv as I) (frOf (fmapOf c scope.names) F) h₀ σ hb [] σ s₃.heap →
      codeAny (model prog w) A (.compLoop (.ListComp elt (⟨t, it, ifs, 0⟩ :: rest) scope pos) 0 iv (.ref D) env') (RR (.ref D) env'.locals) s₃) :
    wpAny (model prog w) A (newList []) (fun acc s₃ => wpAny (model prog w) A (newFunctionEnv scope env.globals (clGo env scope.names []) [] env.qual none .none (some env)) (fun cenv s₄ =>
      codeAny (model prog w) A (.compStart (.ListComp elt (⟨t, it, ifs, 0⟩ :: rest) scope pos) 0 iv acc { cenv with scope := relabel scope env }) (RR acc cenv.locals) s₄) E0 s₃) E0 s := by
  have okk := ok
  simp only [scOk, Bool.and_eq_true, decide_eq_true_eq, List.all_eq_true] at okk
  refine wpAny_newObj_type (newEnv_cells (fun h₁ Ac hns₁ old₁ own₁ => ?_))
  dsimp only at hns₁ old₁ own₁ ⊢
  generalize hH2 : s.heap.push { cls := .type "list", dict := none, data := .seq ([] : List Value).toArray } = H2 at hns₁ old₁ own₁ ⊢
  have hC : H2.objs.size = s.heap.objs.size + 1 := by rw [← hH2, Heap.size_push]
  have hDC : s.heap.objs.size ≠ H2.objs.size := by rw [hC]; exact Nat.ne_of_lt (Nat.lt_succ_self _)
  have below : ∀ b o, s.heap.get? b = some o → b ≠ H2.objs.size ∧ b ≠ s.heap.objs.size := fun b o e => ⟨by rw [hC]; exact Nat.ne_of_lt (Nat.lt_succ_of_lt (Heap.lt_size e)), Nat.ne_of_lt (Heap.lt_size e)⟩
  have old2 : ∀ b o, s.heap.get? b = some o → H2.get? b = some o := fun b o e => hH2 ▸ Heap.get?_push_of_some _ e
  have old : ∀ b o, s.heap.get? b = some o → h₁.get? b = some o := fun b o e => old₁ b o (old2 b o e)
  have gD2 : H2.get? s.heap.objs.size = some (LObj [] 0) := hH2 ▸ Heap.get?_push_size _ rfl
  have hacc : h₁.get? s.heap.objs.size = some (LObj [] 0) := old₁ _ _ gD2
  have sD : s.heap.get? s.heap.objs.size = none := get_push_none _
  have sC : s.heap.get? H2.objs.size = none := by
    cases e : s.heap.get? H2.objs.size with
    | none => rfl
    | some o => exact absurd rfl (below _ _ e).1
  have back : ∀ a, s.heap.get? a = none → hb.get? a = none := fun a e => by
    cases q : hb.get? a with
    | none => rfl
    | some o => rw [ko a o q] at e; cases e
  have back2 : ∀ a, H2.get? a = none → s.heap.get? a = none := fun a e => by
    cases q : s.heap.get? a with
    | none => rfl
    | some o => rw [old2 a o q] at e; cases e
  have st0 : Step h₀ σ hb σ h₁ := hwb.extend fun b o e => old b o (ko b o e)
  have bD := beside_one hwb (back _ sD)
  have own1 : OwnCells scope.names H2.objs.size hb h₁ Ac := ⟨own₁.all, fun x a m => ⟨(own₁.mem x a m).1, (own₁.mem x a m).2.1, back _ (back2 _ (own₁.mem x a m).2.2.1), (own₁.mem x a m).2.2.2⟩, own₁.apart⟩
  have fr1 : FrOk { sc := scope.names, fns := c.fns } (compEnvC scope (Ac ++ clGo env scope.names []) H2.objs.size env) (fun a => a ∈ H2.objs.size :: Ac.map (·.2)) (frOf (fmapOf c scope.names) F) h₀ σ h₁ :=
    inner_ok hf ok hk rfl own1 (fun a e => (beside_one hwb e).2) (fun b o e => old b o (ko b o e)) (back _ sC) hns₁
  have bCs : Beside (H2.objs.size :: Ac.map (·.2)) h₀ σ hb := fun a m => by
    rcases List.mem_cons.mp m with rfl | m
    · exact beside_one hwb (back _ sC)
    · obtain ⟨⟨x, a'⟩, m2, rfl⟩ := List.mem_map.mp m
      exact beside_one hwb (own1.mem x a' m2).2.2.1
  have notAs : ∀ a, s.heap.get? a = none → a ∉ as := fun a e m => by obtain ⟨o, q⟩ := hit.there _ m; rw [e] at q; cases q
  have cellNew : ∀ x a, (x, a) ∈ Ac → s.heap.get? a = none ∧ a ≠ s.heap.objs.size := fun x a m => ⟨back2 _ (own₁.mem x a m).2.2.1, by rintro rfl; rw [(own₁.mem x _ m).2.2.1] at gD2; cases gD2⟩
  have x0 : CSt { sc := scope.names, fns := c.fns } (compEnvC scope (Ac ++ clGo env scope.names []) H2.objs.size env) (H2.objs.size :: Ac.map (·.2)) s.heap.objs.size as (ItAt iv as I) (frOf (fmapOf c scope.names) F) h₀ σ hb [] σ h₁ := by
    refine ⟨ItRep.move hit (fun a m o e => old a o e) (fun a o e _ => old a o e), stand_it, ⟨[], 0, hacc, .nil⟩, fr1, st0, bD, bCs, bes, ⟨fun m => ?_, notAs _ sD, fun a m => ?_⟩, fun y a e => ?_⟩
    · rcases List.mem_cons.mp m with e | m
      · exact hDC e
      · obtain ⟨⟨x, a'⟩, m, e⟩ := List.mem_map.mp m
        exact (cellNew x a' m).2 e
    · rcases List.mem_cons.mp m with rfl | m
      · exact notAs _ sC
      · obtain ⟨⟨x, a'⟩, m2, rfl⟩ := List.mem_map.mp m
        exact notAs _ (cellNew x a' m2).1
    · have e' : (Ac ++ clGo env scope.names []).lookup y = some a := e
      rw [List.lookup_append] at e'
      cases hA : Ac.lookup y with
      | some a2 =>
        rw [hA] at e'; simp at e'; subst e'
        exact ⟨notAs _ (cellNew y _ (mem_of_lookup hA)).1, (cellNew y _ (mem_of_lookup hA)).2, .inl (.tail _ (List.mem_map.mpr ⟨_, mem_of_lookup hA, rfl⟩))⟩
      | none =>
        rw [hA] at e'; simp at e'
        rcases clGo_some _ _ e' with q | ⟨m, q⟩
        · cases q
        · have o := okk.2 _ m
          simp at o
          have hx : y ∈ c.names := o.1.1
          have e' : c.names[c.names.idxOf y]? = some y := by
            have hlt := List.idxOf_lt_length_iff.mpr hx
            rw [List.getElem?_eq_getElem hlt, List.getElem_idxOf hlt]
          have nl : env.kindOf y ≠ some .local := by
            rcases hf.vk _ _ e' with ⟨q, _⟩ | ⟨_, q⟩ | ⟨_, q | q⟩
            · exact absurd q o.1.2
            all_goals rw [q]; simp
          obtain ⟨a', cv, g1, ⟨ob, g2, _⟩, _⟩ := hf.cell _ _ e' nl
          rw [g1] at q; simp at q; subst q
          refine ⟨fun m => ?_, fun e => ?_, .inr ⟨_, g2⟩⟩
          · rw [(bes a m).1] at g2; cases g2
          · subst e; rw [bD.1] at g2; cases g2
  have loop : ∀ s₃ : Shared, s₃.heap = h₁ → Sm s s₃ →
      codeAny (model prog w) A (.compLoop (.ListComp elt (⟨t, it, ifs, 0⟩ :: rest) scope pos) 0 iv (.ref s.heap.objs.size) (compEnvC scope (Ac ++ clGo env scope.names []) H2.objs.size env)) (RR (.ref s.heap.objs.size) H2.objs.size) s₃ :=
    fun s₃ e₃ m₃ => turns _ _ _ s₃ m₃ (by rw [e₃]; exact x0)
  exact codeAny_compStart_list (loop _ rfl ⟨Eq.refl _, Eq.refl _⟩) (pyIter_self hh x0.it (loop _ rfl ⟨Eq.refl _, Eq.refl _⟩))
/-- what is there when a comprehension's turns are over -/
noncomputable def CompEnd (h₀ : Heap) (σ : Hp) (hb : Heap) (s : Shared) (Q : V → Hp → Prop) (RR : Value → Addr → Result → Shared → Prop) : Prop :=
  ∀ D C s' σ' acc vs k m, Sm s s' → newL acc Q σ' → s'.heap.get? D = some (LObj vs k) → Reps s'.heap vs acc → s'.heap.Ns C m → Step h₀ σ hb σ' s'.heap → hb.get? D = none → hb.get? C = none → D ≠ C → σ' D = none → σ' C = none → RR (.ref D) C (.ok .next) s'
theorem CSt.over {env' : Env} {Cs : List Addr} {D : Addr} {F0 : Frm} {acc : List V} {σ' : Hp} {s' s'' : Shared} {Q : V → Hp → Prop} {RR : Value → Addr → Result → Shared → Prop} {cc : Cfg} {P : Heap → Prop} (x : CSt cc env' Cs D as P F0 h₀ σ hb acc σ' s'.heap) (mI : Sm s s'') (kk : ∀ b o, b ∉ as → s'.heap.get? b = some o → s''.heap.get? b = some o)
    (q : newL acc Q σ') (hRR : CompEnd h₀ σ hb s Q RR) : RR (.ref D) env'.locals (.ok .next) s'' := by
  have b : Beside as h₀ σ' hb := x.bI
  have t2 := (x.st.w.slip (fun a m => (b a m).2) (x.sd.notImm x.it) kk).2
  have st := StepX.slip x.st b (x.sd.notImm x.it) kk
  obtain ⟨vs, j, e, r⟩ := x.lst
  obtain ⟨mm, nn, _⟩ := x.fr.ns
  obtain ⟨o, es, ep, ho, qq⟩ := nn
  have hl := x.fr.loc.1
  exact hRR _ _ s'' σ' acc vs j mm mI q (kk _ _ x.ne.2.1 e) (r.tups t2) ⟨o, es, ep, kk _ _ (x.ne.2.2 _ hl) ho, qq⟩ st x.bD.1 (x.bC _ hl).1 (fun e => x.ne.1 (e ▸ hl)) x.bD.2.1 (x.bC _ hl).2.1
theorem comp_tail {Φ : Fns} {elt t it : Expr} {ifs : List Expr} {scope : Scope} {pos : Pos} {pelt : PE} {tg : Tgt} {pifs : List PE} {Q : V → Hp → Prop} {Inv : Nat → It → List V → Hp → Prop}
    (hh : A.handled = none) (ok : scOk c scope.names = true) (hk : scope.kind = .function) (hg : CG { sc := scope.names, fns := c.fns } t tg)
    (hel : ∀ {s : Shared} {σ : Hp} {env : Env} {own : Addr → Prop} {F : Frm} {Q : V → Hp → Prop}, W h₀ σ s.heap → FrOk { sc := scope.names, fns := c.fns } env own F h₀ σ s.heap → Frs A h₀ σ s.heap → vE Φ pelt Q F σ → wpAny (model prog w) A (eval elt env) (PV h₀ σ s Q) E0 s)
    (hif : ∀ {s : Shared} {σ : Hp} {env : Env} {own : Addr → Prop} {F : Frm} {Q : Bool → Hp → Prop}, W h₀ σ s.heap → FrOk { sc := scope.names, fns := c.fns } env own F h₀ σ s.heap → Frs A h₀ σ s.heap → vTs Φ pifs Q F σ →
      wpAny (model prog w) A (forIn ifs true fun c r => if r = true then do let ok ← isTrue c env (eval c env); pure (ForInStep.yield ok) else pure (ForInStep.yield r)) (PB h₀ σ s Q) E0 s)
    (hen : ∀ k a, I = .enm k a → ∃ elts x1 p, t = .Tuple elts x1 p)
    (hwb : W h₀ σ hb) (hf : FrOk c env own F h₀ σ hb) (hfs : Frs A h₀ σ hb) (ko : ∀ b o, hb.get? b = some o → s.heap.get? b = some o) (hit : ItRep s.heap iv as I) (bes : Beside as h₀ σ hb)
    {n : Nat} (hi : Inv n I [] σ) (hinv : CompInv Φ (fmapOf c scope.names) pelt tg pifs Q F Inv) {RR : Value → Addr → Result → Shared → Prop}
    (hRR : CompEnd h₀ σ hb s Q RR) :
    wpAny (model prog w) A (newList []) (fun acc s₃ => wpAny (model prog w) A (newFunctionEnv scope env.globals (clGo env scope.names []) [] env.qual none .none (some env)) (fun cenv s₄ =>
      codeAny (model prog w) A (.compStart (.ListComp elt [⟨t, it, ifs, 0⟩] scope pos) 0 iv acc { cenv with scope := relabel scope env }) (RR acc cenv.locals) s₄) E0 s₃) E0 s := by
  have fre := inner_free (F := F) ok hg
  refine comp_setup hh ok hk hwb hf ko hit bes fun env' Cs D s₃ m₃ x0 => ?_
  refine compLoop_gen (fun n s' => ∃ I acc σ', Sm s s' ∧ Inv n I acc σ' ∧ (∀ k a, I = .enm k a → ∃ elts x1 p, t = .Tuple elts x1 p) ∧
    CSt { sc := scope.names, fns := c.fns } env' Cs D as (ItAt iv as I) (frOf (fmapOf c scope.names) F) h₀ σ hb acc σ' s'.heap) (fun n s' hI => ?_) n ⟨I, [], σ, m₃, hi, hen, x0⟩
  obtain ⟨I, acc, σ', mI, hi, hen, x⟩ := hI
  have q := hinv n I acc σ' hi
  split at q
  · exact q.elim
  · rename_i hn
    refine next_end hh x.st.w x.it hn fun s'' mE kk => ?_
    exact x.over (mI.trans mE) kk q hRR
  · rename_i xx I' hn
    have q2 := bind_sub q fre
    have rest : ∀ y s₂, Sm s s₂ → Rep s₂.heap y xx → CSt { sc := scope.names, fns := c.fns } env' Cs D as (ItAt iv as I') (frOf (fmapOf c scope.names) F) h₀ σ hb acc σ' s₂.heap →
        (∀ k a, I' = .enm k a → ∃ elts x1 p, t = .Tuple elts x1 p) →
        wpAny (model prog w) A (assign t env' y) (fun _ s₂ =>
        wpAny (model prog w) A (forIn ifs true fun c r => if r = true then do let ok ← isTrue c env' (eval c env'); pure (ForInStep.yield ok) else pure (ForInStep.yield r)) (fun ok s₃ =>
          if ok = true then wpAny (model prog w) A (eval elt env') (fun x s₄ =>
            wpAny (model prog w) A (call (.builtin "list.append") [.ref D, x]) (fun _ s₅ => ∃ m, m < n ∧ ∃ I acc σ', Sm s s₅ ∧ Inv m I acc σ' ∧ (∀ k a, I = .enm k a → ∃ elts x1 p, t = .Tuple elts x1 p) ∧
    CSt { sc := scope.names, fns := c.fns } env' Cs D as (ItAt iv as I) (frOf (fmapOf c scope.names) F) h₀ σ hb acc σ' s₅.heap) E0 s₄) E0 s₃
          else ∃ m, m < n ∧ ∃ I acc σ', Sm s s₃ ∧ Inv m I acc σ' ∧ (∀ k a, I = .enm k a → ∃ elts x1 p, t = .Tuple elts x1 p) ∧
    CSt { sc := scope.names, fns := c.fns } env' Cs D as (ItAt iv as I) (frOf (fmapOf c scope.names) F) h₀ σ hb acc σ' s₃.heap) E0 s₂) E0 s₂ := by
      intro y s₂ m2 ry x2 hen'
      refine assign_ok hg hh x2.st.w x2.fr ry q2 fun s₃ F1 ⟨qF, sub⟩ m3 stx f1 => ?_
      have x3 := x2.bound stx f1
      refine wpAny_mono (hif x3.st.w x3.fr (hfs.step x3.st) qF) (fun ok s₄ ⟨σ4, ⟨st4, m4⟩, q4⟩ => ?_) fun _ _ f => f
      have x4 := x3.step st4
      cases ok with
      | true =>
        simp only [if_true] at q4 ⊢
        refine wpAny_mono (hel x4.st.w x4.fr (hfs.step x4.st) q4) (fun v s₅ ⟨y5, σ5, r5, ⟨st5, m5⟩, hl, m, hm, q5⟩ => ?_) fun _ _ f => f
        exact (x4.step st5).append sub r5 hl fun s₆ m6 x6 => ⟨m, hm, I', _, σ5, ((((m2.trans m3).trans m4).trans m5).trans m6), q5, hen', x6⟩
      | false =>
        simp only [Bool.false_eq_true, if_false] at q4 ⊢
        obtain ⟨m, hm, q5⟩ := q4
        exact ⟨m, hm, I', acc, σ4, (m2.trans m3).trans m4, q5, hen', x4.weak sub⟩
    have bb : ∀ a ∈ as, σ' a = none ∧ h₀.get? a = none := fun a m => (x.bI a m).2
    cases I with
    | enm k0 a0 =>
      obtain ⟨elts, x1, p, rfl⟩ := hen _ _ rfl
      obtain ⟨e1, I1, old', rfl, rfl, hne, he, hi'⟩ := x.it
      refine next_enum x.st.w hne he hi' bb hn (elts := elts) (x1 := x1) (pos := p) fun y s₂ hy => ?_
      refine wpAny_mono hy (fun _ s₃ ⟨mm, ry, it', kk⟩ => rest y s₃ (mI.trans mm) ry (x.moved kk it' stand_it) (fun _ _ _ => ⟨_, _, _, rfl⟩)) fun _ _ f => f
    | lst a0 i0 =>
      have hk' : ∀ k a, It.lst a0 i0 = It.enm k a → False := by intro k a e; cases e
      refine next_item hh x.st.w x.it bb hn hk' fun y s₂ mm ry it' kk => ?_
      exact letGo_it it' (next_kind hn hk') (rest y s₂ (mI.trans mm) ry (x.moved kk it' stand_it) (fun k a e => (next_kind hn hk' k a e).elim))
    | rng a0 n0 c0 =>
      have hk' : ∀ k a, It.rng a0 n0 c0 = It.enm k a → False := by intro k a e; cases e
      refine next_item hh x.st.w x.it bb hn hk' fun y s₂ mm ry it' kk => ?_
      exact letGo_it it' (next_kind hn hk') (rest y s₂ (mI.trans mm) ry (x.moved kk it' stand_it) (fun k a e => (next_kind hn hk' k a e).elim))
    | vals vs0 =>
      have hk' : ∀ k a, It.vals vs0 = It.enm k a → False := by intro k a e; cases e
      refine next_item hh x.st.w x.it bb hn hk' fun y s₂ mm ry it' kk => ?_
      exact letGo_it it' (next_kind hn hk') (rest y s₂ (mI.trans mm) ry (x.moved kk it' stand_it) (fun k a e => (next_kind hn hk' k a e).elim))
end

/-! M13 -/
section
variable {prog : Program} {w : World} {h₀ : Heap} {mg mb : Str → Option Value} {Φ : Fns} {n : Nat} {fns : List Str}

theorem callee_bi {c : Cfg} {es : List Expr} {as : List PE} {env : Env} {pos : Pos} {M : Model} {A : Around} {s : Shared} {E : Value → Shared → Prop} (f : BI) {Q : Value → Shared → Prop} (h : CEs c es as)
    (q : wpAny M A (spliced (backTo pos (starEach es env))) (fun vs s' => wpAny M A (call f.val vs) Q E s') E s) : wpAny M A (callWith pos f.val [] (backTo pos (starEach es env)) []) Q E s := by
  cases hf : f.isType with
  | true => cases f <;> first | (simp [BI.isType] at hf; done) | exact PyProof.Rows.callWith_type (star_plain h) (evalArgs_ces h q)
  | false => cases f <;> first | (simp [BI.isType] at hf; done) | exact Calls.callWith_builtin (star_plain h) (evalArgs_ces h q)

theorem few_ok {c : Cfg} {es : List Expr} {as : List PE} {env : Env} {pos : Pos} (h : CEs c es as) (hl : es.length < 15) :
    ((backTo pos (starEach es env)).all (fun x => !x.1) && (backToKw pos (keywordEach [] env)).all (fun x => x.1.isSome) && decide (es.length + ([] : List Keyword).length + (if ([] : List Keyword).isEmpty then 0 else 1) < 30)) = true := by
  have h1 := star_plain (env := env) (pos := pos) h
  rw [List.any_eq_false] at h1
  have h2 : (backTo pos (starEach es env)).all (fun x => !x.1) = true := by
    rw [List.all_eq_true]; intro x hx; have := h1 x hx; simpa using this
  rw [h2]
  show (true && true && decide (es.length + 0 + 0 < 30)) = true
  simp; omega

theorem isPart_of {h : Heap} {v : Value} {x : V} {P : Option Int → Prop} (r : Rep h v x) (q : partV x P) : ∃ k, IsPart v k ∧ P k := by
  unfold partV at q
  split at q
  · obtain rfl := r.inone; exact ⟨none, .none, q⟩
  · obtain ⟨t, rfl⟩ := r.iint; exact ⟨some _, .int _ _, q⟩
  · exact q.elim

theorem opSlice_ok {A : Around} {s : Shared} {σ : Hp} {Q : V → Hp → Prop} {vo vl vh vs : Value} {o lo hi st : V} {value slice : Expr} (ro : Rep s.heap vo o) (rl : Rep s.heap vl lo) (rh : Rep s.heap vh hi) (rs : Rep s.heap vs st) (hw : W h₀ σ s.heap) (q : opSlice o lo hi st Q σ)
    (hs : ∀ o i, ∃ ops, subscripted slice false o i = operate ops (getItem o i)) :
    wpAny (model prog w) A (subscriptTail value slice vo (.ref s.heap.objs.size)) (PV h₀ σ s Q) E0 { s with heap := s.heap.push { cls := .type "slice", data := .fields #[vl, vh, vs] } } := by
  unfold opSlice at q
  split at q
  · obtain ⟨xs, e, q⟩ := q
    obtain rfl := ro.iref
    obtain ⟨l, pl, q⟩ := isPart_of rl q
    obtain ⟨h, ph, q⟩ := isPart_of rh q
    obtain ⟨st', ps, h0, q⟩ := isPart_of rs q
    obtain ⟨ws, hl, r⟩ := hw.list e
    have hb := hw.len e
    have hlen := r.length
    obtain ⟨ops, hs⟩ := hs (.ref _) (.ref s.heap.objs.size)
    have k1 : ∀ b o, s.heap.get? b = some o → (s.heap.push { cls := .type "slice", data := .fields #[vl, vh, vs] }).get? b = some o := fun b o e => Heap.get?_push_of_some _ e
    have hl' := hl.push { cls := .type "slice", data := .fields #[vl, vh, vs] }
    refine tail_any (T := "list") hl'.typeIs slot_list_getitem.lookup (wpAny_getItem_list_slice hl' (Heap.IsSliceOf.new _ _ _ _) pl ph ps h0 ?_ (by simp; exact big_line (by omega))) hs
    have st1 : Step h₀ σ s.heap σ _ := hw.extend k1
    refine PV.back (s' := _) (s₁ := { s with heap := s.heap.push { cls := .type "slice", data := .fields #[vl, vh, vs] } }) (PV.push (s := { s with heap := s.heap.push { cls := .type "slice", data := .fields #[vl, vh, vs] } }) (n := 0) (vs := (slicePick ws.toArray l h st').toList) (tk := s.toks) st1.w ?_ q) st1 ⟨Eq.refl _, Eq.refl _⟩
    unfold slicePick pickL
    simp only [List.size_toArray, hlen, List.getElem?_toArray]
    exact (r.tups fun a o e _ => k1 a o e).filterMap _
  · exact q.elim

theorem scOk_names {c : Cfg} {scope : Scope} (ok : scOk c scope.names = true) : ∀ x ∈ scope.names, x.2 = NameKind.local → scope.names.lookup x.1 = some NameKind.local := fun x m e => by
  simp only [scOk, Bool.and_eq_true, decide_eq_true_eq, List.all_eq_true] at ok
  exact lookup_of_nodup ok.1 (by rw [← e]; exact m)
theorem clos_ok {c : Cfg} {scope : Scope} {env : Env} {own : Addr → Prop} {F : Frm} {σ : Hp} {h : Heap} (ok : scOk c scope.names = true) (hf : FrOk c env own F h₀ σ h) : closureFor scope env = pure (clGo env scope.names []) :=
  closureFor_eq (fun x m => by
    simp only [scOk, Bool.and_eq_true, decide_eq_true_eq, List.all_eq_true] at ok
    have o := ok.2 _ m
    simp at o
    have e' : c.names[c.names.idxOf x]? = some x := by
      have hlt := List.idxOf_lt_length_iff.mpr o.1.1
      exact (List.getElem?_eq_getElem hlt).trans (congrArg some (List.getElem_idxOf hlt))
    have nl : env.kindOf x ≠ some .local := by
      rcases hf.vk _ _ e' with ⟨q, _⟩ | ⟨_, q⟩ | ⟨_, q | q⟩
      · exact absurd q o.1.2
      all_goals rw [q]; simp
    obtain ⟨a', cv, g1, _⟩ := hf.cell _ _ e' nl
    rw [g1]; rfl)

noncomputable def PVh (h₀ : Heap) (σ : Hp) (h : Heap) (Q : V → Hp → Prop) (v : Value) (s' : Shared) : Prop := ∃ x σ', Rep s'.heap v x ∧ Step h₀ σ h σ' s'.heap ∧ Q x σ'
theorem PVh.lift {σ σ' : Hp} {s : Shared} {h : Heap} {Q : V → Hp → Prop} {v : Value} {s' : Shared} (p : PVh h₀ σ' h Q v s') (st : Step h₀ σ s.heap σ' h) (m : Sm s s') : PV h₀ σ s Q v s' := by
  obtain ⟨x, σ'', r, st', q⟩ := p; exact ⟨x, σ'', r, ⟨st.trans st', m⟩, q⟩
/-- the list of a comprehension comes under σ -/
theorem comp_adopt {σ σ' : Hp} {hb : Heap} {s' : Shared} {D C : Addr} {acc : List V} {vs : List Value} {k : Nat} {m : Str → Option Value} {Q : V → Hp → Prop} {h'' : Heap} {tk : Nat} (hwb : W h₀ σ hb) (hq : newL acc Q σ') (gD : s'.heap.get? D = some (LObj vs k)) (rv : Reps s'.heap vs acc)
    (nC : s'.heap.Ns C m) (st : Step h₀ σ hb σ' s'.heap) (nD : hb.get? D = none) (nC' : hb.get? C = none) (hDC : D ≠ C) (sD : σ' D = none) (sC : σ' C = none) (sb : Heap.SameBut C s'.heap h'') :
    PVh h₀ σ hb Q (.ref D) { s' with heap := h'' } := by
  have kk : ∀ b o, b ∉ [C] → s'.heap.get? b = some o → h''.get? b = some o := fun b o n e => sb.extBut b o (by simpa using n) e
  have h0C : h₀.get? C = none := (beside_one hwb nC').2.2
  have ni : ∀ a ∈ [C], ∀ o, s'.heap.get? a = some o → ¬ Imm o := fun a m' o e => by simp at m'; subst m'; exact ns_not_imm nC o e
  have bC : Beside [C] h₀ σ' hb := fun a m' => by simp at m'; subst m'; exact ⟨nC', sC, h0C⟩
  have t2 := (st.w.slip (fun a m' => (bC a m').2) ni kk).2
  have st' := StepX.slip st bC ni kk
  have hD : Holds h'' D (.list acc) := ⟨vs, k, kk D _ (by simpa using hDC) gD, rv.tups t2⟩
  have wD := st'.w.adopt (beside_one hwb nD).2.2 hD hq.1
  refine ⟨_, _, .ref D, ⟨wD, st'.keep, st'.dict, fun a => ?_, st'.tups, st'.alive⟩, hq.2 D sD⟩
  by_cases qa : a = D
  · subst qa; exact ⟨fun _ => .inr nD, fun _ => .inr nD⟩
  · have := st'.grow a
    unfold Mut at this ⊢
    rw [upd_ne _ _ qa]; exact this

theorem rr_none {A : Around} {s : Shared} {σ : Hp} {hb : Heap} {Q : V → Hp → Prop} (hwb : W h₀ σ hb) {QQ : Value → Shared → Prop} (hQQ : ∀ v s', PVh h₀ σ hb Q v s' → Sm s s' → QQ v s') :
    CompEnd h₀ σ hb s Q (fun acc C => compPost (model prog w) A E0 none QQ acc C) := by
  intro D C s' σ' acc vs k m mm hq gD rv nC st nD nC' hDC sD sC
  exact ⟨m, nC, fun h'' sb => hQQ _ _ (comp_adopt (tk := 0) hwb hq gD rv nC st nD nC' hDC sD sC sb) (mm.trans ⟨Eq.refl _, Eq.refl _⟩)⟩

/-- the arguments of a call, one after the other -/
theorem sEs {c : Cfg} : ∀ {es : List Expr} {ps : List PE}, CEs c es ps → ∀ {A : Around} {s : Shared} {σ : Hp} {env : Env} {own : Addr → Prop} {F : Frm} {pos : Pos} {Q : List V → Hp → Prop},
    Here prog w h₀ mg mb Φ n c A s σ env own F → vEs Φ ps Q F σ → wpAny (model prog w) A (spliced (backTo pos (starEach es env))) (PVs h₀ σ s Q) E0 s
  | _, _, .nil, A, s, σ, env, own, F, pos, Q, X, v => Calls.spliced_nil ⟨_, σ, .nil, ⟨.refl X.w, .rfl⟩, v⟩
  | _, _, .cons he hs hst, A, s, σ, env, own, F, pos, Q, X, v => by
    rw [hst env]
    refine Calls.spliced_cons (wpAny_mono (he X v) (fun a s₁ => PV.on fun x σ₁ rx st m₁ q => wpAny_mono (sEs hs (X.step st) q) (fun vs s₂ => PVs.on fun xs σ₂ rs st₂ m₂ q₂ => ?_) fun _ _ f => f) fun _ _ f => f)
    exact ⟨_, σ₂, .cons (rx.step st₂) rs, ⟨st.trans st₂, m₁.trans m₂⟩, q₂⟩
theorem sO {c : Cfg} {e : Option Expr} {p : Option PE} (h : CO c e p) {A : Around} {s : Shared} {σ : Hp} {env : Env} {own : Addr → Prop} {F : Frm} {Q : V → Hp → Prop}
    (X : Here prog w h₀ mg mb Φ n c A s σ env own F) (v : vO Φ p Q F σ) : wpAny (model prog w) A (evalPart e env) (PV h₀ σ s Q) E0 s := by
  cases h with
  | none => exact wpAny_pure (PV.same' X.w .none v)
  | some h => exact h X v
theorem sTs {c : Cfg} : ∀ {es : List Expr} {ps : List PE}, CTs c es ps → ∀ {A : Around} {s : Shared} {σ : Hp} {env : Env} {own : Addr → Prop} {F : Frm} {Q : Bool → Hp → Prop},
    Here prog w h₀ mg mb Φ n c A s σ env own F → vTs Φ ps Q F σ →
    wpAny (model prog w) A (forIn es true fun c r => if r = true then do let ok ← isTrue c env (eval c env); pure (ForInStep.yield ok) else pure (ForInStep.yield r)) (PB h₀ σ s Q) E0 s
  | _, _, .nil, A, s, σ, env, own, F, Q, X, v => wpAny_pure ⟨σ, ⟨.refl X.w, .rfl⟩, v⟩
  | _, _, .cons (es := es) h hs, A, s, σ, env, own, F, Q, X, v => by
    rw [List.forIn_cons]
    simp only [if_true]
    refine wpAny_bind (wpAny_bind (wpAny_mono (h X v) (fun b s₁ => PB.on fun σ₁ st m₁ q => wpAny_pure ?_) fun _ _ f => f))
    cases b with
    | true => exact wpAny_mono (sTs hs (X.step st) q) (fun _ _ pb => pb.back st m₁) fun _ _ f => f
    | false =>
      have : ∀ es : List Expr, (forIn es false fun c r => if r = true then do let ok ← isTrue c env (eval c env); pure (ForInStep.yield ok) else pure (ForInStep.yield r)) = (pure false : Sem Bool) := fun es => by
        induction es with
        | nil => rfl
        | cons e es ih => rw [List.forIn_cons]; exact ih
      dsimp only
      rw [this]
      exact wpAny_pure ⟨σ₁, ⟨st, m₁⟩, q⟩
end
inductive CIr (k : IK) (h₀ : Heap) (σ : Hp) (s : Shared) (P : It → Hp → Prop) (it : Value) (s₂ : Shared) : Prop
  | mk (σ₁ : Hp) (s₀ : Shared) (h1 : Step h₀ σ s.heap σ₁ s₀.heap) (h2 : Sm s s₀) (h3 : Started (k == .enum) h₀ σ₁ s₀ P it s₂) : CIr k h₀ σ s P it s₂
/-- an iterable -/
noncomputable def CI (c : Cfg) (e : Expr) (k : IK) (a : PE) : Prop := (∀ env x, foldedSetIterable e env x = pure x) ∧ ∀ {prog : Program} {w : World} {h₀ : Heap} {mg mb : Str → Option Value} {Φ : Fns} {n : Nat} {A : Around} {s : Shared} {σ : Hp} {env : Env} {own : Addr → Prop} {F : Frm} {P : It → Hp → Prop},
  Here prog w h₀ mg mb Φ n c A s σ env own F → vE Φ a (fun x σ => itStart k x P σ) F σ → wpAny (model prog w) A (eval e env) (fun v s₁ => wpAny (model prog w) A (pyIter v) (fun it s₂ => CIr k h₀ σ s P it s₂) E0 s₁) E0 s
/-- the parts of a comprehension -/
structure CompOk (c : Cfg) (elt t it : Expr) (k : IK) (ifs : List Expr) (scope : Scope) (a b : PE) (tg : Tgt) (as : List PE) (fm : List (Option Nat)) : Prop where
  ok : scOk c scope.names = true
  kind : scope.kind = .function
  fm : fm = fmapOf c scope.names
  ci : CI c it k b
  en : k = .enum → ∃ is, tg = .tup is
  cg : CG { sc := scope.names, fns := c.fns } t tg
  ce : CE { sc := scope.names, fns := c.fns } elt a
  ct : CTs { sc := scope.names, fns := c.fns } ifs as
section
variable {c : Cfg} {p q : Pos}
theorem CE.int {i : Int} {k : Nat} : CE c (.Constant (.int i) k p) (.int i) := fun X v => wpAny_Constant_int (PV.same X.w (.int _ _) v _)
theorem CE.bool {b : Bool} {k : Nat} : CE c (.Constant (.bool b) k p) (.bool b) := fun X v => Constant_bool (PV.same' X.w (.bool _) v)
theorem CE.str {x : Str} {k : Nat} : CE c (.Constant (.str x) k p) (.str x) := fun X v => Calls.Constant_str (PV.same X.w (.str _ _) v _)
theorem look_some {F : Frm} {i : Nat} {K : V → Prop} (h : look F i K) : ∃ v, F[i]? = some (some v) ∧ K v := by
  unfold look at h
  split at h
  · rename_i u hu; exact ⟨u, hu, h⟩
  · exact h.elim
theorem CE.var {x : Str} {i : Nat} (e : c.names[i]? = some x) (hd : (x == ("__debug__" : Str)) = false) (hcd : (x == ("__classdict__" : Str)) = false) : CE c (.Name x p) (.var i) := by
  intro prog w h₀ mg mb Φ n A s σ env own F Q X v
  obtain ⟨u, hu, v⟩ := look_some v
  exact wpAny_Name (X.f.load e hu hcd fun w r => PV.same' X.w r v) hd
theorem CE.bin {l r : Expr} {op : Operator} {a b : PE} (hl : CE c l a) (hr : CE c r b) : CE c (.BinOp l op r p) (.bin op a b) := by
  intro prog w h₀ mg mb Φ n A s σ env own F Q X v
  refine wpAny_BinOp (wpAny_mono (hl X v) (fun a s₁ => PV.on fun x σ₁ rx st m₁ q => wpAny_mono (hr (X.step st) q) (fun b s₂ => PV.on fun y σ₂ ry st₂ m₂ q₂ => ?_) fun _ _ f => f) fun _ _ f => f)
  exact wpAny_mono (opBin_ok X.G X.R st₂.w (rx.step st₂) ry q₂) (fun _ _ pv => pv.back (st.trans st₂) (m₁.trans m₂)) fun _ _ f => f
theorem CE.neg {e : Expr} {a : PE} (he : CE c e a) : CE c (.UnaryOp .USub e p) (.neg a) := by
  intro prog w h₀ mg mb Φ n A s σ env own F Q X v
  refine UnaryOp_ (wpAny_mono (he X v) (fun a s₁ => PV.on fun x σ₁ rx st m₁ q => ?_) fun _ _ f => f)
  unfold negQ at q
  split at q
  · obtain ⟨t, rfl⟩ := rx.iint; exact neg_int ⟨_, σ₁, .int _ _, ⟨st, m₁⟩, q⟩
  · exact q.elim
theorem CE.ite {t l r : Expr} {a b d : PE} (ht : CT c t a) (hl : CE c l b) (hr : CE c r d) : CE c (.IfExp t l r p) (.ite a b d) := by
  intro prog w h₀ mg mb Φ n A s σ env own F Q X v
  refine IfExp_ (wpAny_mono (ht X v) (fun b s₁ => PB.on fun σ₁ st m₁ q => ?_) fun _ _ f => f)
  cases b with
  | true => exact wpAny_mono (hl (X.step st) q) (fun _ _ pv => pv.back st m₁) fun _ _ f => f
  | false => exact wpAny_mono (hr (X.step st) q) (fun _ _ pv => pv.back st m₁) fun _ _ f => f
theorem CE.sub {o i : Expr} {a b : PE} (ho : CE c o a) (hi : CE c i b) (hs : ∀ o v, subscripted i false o v = operate [o, v] (getItem o v)) : CE c (.Subscript o i p) (.sub a b) := by
  intro prog w h₀ mg mb Φ n A s σ env own F Q X v
  refine Subscript_ (wpAny_mono (ho X v) (fun a s₁ => PV.on fun x σ₁ rx st m₁ q => wpAny_mono (hi (X.step st) q) (fun b s₂ => PV.on fun y σ₂ ry st₂ m₂ q₂ => ?_) fun _ _ f => f) fun _ _ f => f)
  exact wpAny_mono (q₂.go (rx.step st₂) ry st₂.w hs) (fun _ _ pv => pv.back (st.trans st₂) (m₁.trans m₂)) fun _ _ f => f
theorem CE.slice {o : Expr} {lo hi ste : Option Expr} {a : PE} {l h st' : Option PE} (ho : CE c o a) (hlo : CO c lo l) (hhi : CO c hi h) (hst : CO c ste st') : CE c (.Subscript o (.Slice lo hi ste p) q) (.slice a l h st') := by
  intro prog w h₀ mg mb Φ n A s σ env own F Q X v
  refine Subscript_ (wpAny_mono (ho X v) (fun a s₁ => PV.on fun x σ₁ rx st m₁ q => ?_) fun _ _ f => f)
  have X1 := X.step st
  refine wpAny_Slice (wpAny_mono (sO hlo X1 q) (fun l s₂ => PV.on fun lx σ₂ lr st₂ m₂ q₂ => wpAny_mono (sO hhi (X1.step st₂) q₂) (fun h s₃ => PV.on fun hx σ₃ hr st₃ m₃ q₃ =>
    wpAny_mono (sO hst ((X1.step st₂).step st₃) q₃) (fun sv s₄ => PV.on fun sx σ₄ sr st₄ m₄ q₄ => ?_) fun _ _ f => f) fun _ _ f => f) fun _ _ f => f)
  have all := ((st.trans st₂).trans st₃).trans st₄
  exact wpAny_mono (opSlice_ok (((rx.step st₂).step st₃).step st₄) ((lr.step st₃).step st₄) (hr.step st₄) sr st₄.w q₄ (fun o i => by cases ste with | none => exact ⟨_, rfl⟩ | some e => exact ⟨_, rfl⟩)) (fun _ _ pv => pv.back all (((m₁.trans m₂).trans m₃).trans m₄)) fun _ _ f => f
theorem CE.list {es : List Expr} {as : List PE} (hs : CEs c es as) : CE c (.List es p) (.list as) := by
  intro prog w h₀ mg mb Φ n A s σ env own F Q X v
  refine wpAny_List_spliced (wpAny_mono (sEs hs X v) (fun vs s₁ => PVs.on fun xs σ₁ rs st m₁ q => ?_) fun _ _ f => f)
  have hl := rs.length
  exact ⟨big_line (by rw [hl]; exact q.1), PV.back (PV.push (n := 0) st.w rs q _) st m₁⟩
theorem CE.tuple {es : List Expr} {k : Nat} {as : List PE} (hs : CEs c es as) : CE c (.Tuple es k p) (.tuple as) := by
  intro prog w h₀ mg mb Φ n A s σ env own F Q X v
  refine wpAny_Tuple_spliced (wpAny_mono (sEs hs X v) (fun vs s₁ ⟨xs, σ₁, rs, ⟨st, m₁⟩, hb, q⟩ => ?_) fun _ _ f => f)
  have hl := rs.length
  have k : ∀ b o, s₁.heap.get? b = some o → (s₁.heap.push { cls := .type "tuple", data := .seq vs.toArray }).get? b = some o := fun b o e => Heap.get?_push_of_some _ e
  exact ⟨big_line (by rw [hl]; exact hb), _, σ₁, .tup (vs := vs) ⟨_, Heap.get?_push_size _ rfl, rfl, 0, rfl⟩ (rs.tups fun a o e _ => k a o e), ⟨st.trans (st.w.extend k), m₁.trans ⟨Eq.refl _, Eq.refl _⟩⟩, q⟩
theorem CE.call {x : Str} {f : BI} {es : List Expr} {as : List PE} (hn : f.name = x) (hk : c.sc.lookup x = some .globalImplicit) (hs : CEs c es as) : CE c (.Call (.Name x p) es [] q) (.call f as) := by
  intro prog w h₀ mg mb Φ n A s σ env own F Q X v
  subst hn
  refine Call_Name rfl (load_glob X.G X.w X.f hk f.notName.2 (.inr ⟨X.NM.fr _ f.mem, (X.G.boot _ f.notName.1).trans f.boot⟩) ?_)
  refine callee_bi f hs (wpAny_mono (sEs hs X v) (fun vs s₁ => PVs.on fun xs σ₁ rs st m₁ q => ?_) fun _ _ f => f)
  exact wpAny_mono ((opCall_ok q).go X.G X.R rs st.w) (fun _ _ pv => pv.back st m₁) fun _ _ f => f
theorem CE.ucall {x : Str} {i : Nat} {es : List Expr} {as : List PE} (hn : c.fns[i]? = some x) (hd : (x == ("__debug__" : Str)) = false) (hk : c.sc.lookup x = some .globalImplicit) (hlen : es.length < 15) (hs : CEs c es as) : CE c (.Call (.Name x p) es [] q) (.ucall i as) := by
  intro prog w h₀ mg mb Φ n A s σ env own F Q X v
  obtain ⟨fv, e1, fa, o, fd, rfl, e2, e3, call⟩ := X.NM.fn i _ hn
  refine Call_Name rfl (load_glob X.G X.w X.f hk hd (.inl e1) ?_)
  refine callWith_function_kw (o := o) (fd := fd) (evalArgs_ces hs (wpAny_mono (sEs hs X v) (fun vs s₁ => PVs.on fun xs σ₁ rs st m₁ q => ?_) fun _ _ f => f))
  exact ⟨⟨st.w.stays _ _ e2, e3⟩, wpAny_mono (call A s₁ σ₁ fa o ⟨vs, []⟩ vs xs Q (st.w.stays _ _ e2) e3 (fun _ h => h) X.R.weak (X.fs.step st) st.w rs q) (fun _ _ pv => pv.back st m₁) fun _ _ f => f⟩
theorem CE.meth {o : Expr} {x : Str} {m : Meth} {es : List Expr} {ap : Pos} {a : PE} {as : List PE} (hn : m.name = x) (hl : (ap.endLine == q.line) = true) (hlen : es.length < 15) (ha : ∀ env, attributeBase o x env (eval o env) = eval o env)
    (ho : CE c o a) (hs : CEs c es as) : CE c (.Call (.Attribute o x ap) es [] q) (.meth m a as) := by
  intro prog w h₀ mg mb Φ n A s σ env own F Q X v
  subst hn
  refine wpAny_Call_method (T := "list") (id := m.id) (ha env) ?_ hl PySem.F.plainAttrs_list (list_slots m).1 (list_slots m).2 (wpAny_mono (ho X v) (fun ov s₁ ⟨x, σ₁, rx, ⟨st, m₁⟩, ⟨b, xs, eb, eσ⟩, q⟩ => ?_) fun _ _ f => f)
  · exact few_ok hs hlen
  · subst eb
    obtain rfl := rx.iref
    obtain ⟨vs, k, g, r⟩ := st.w.mlist eσ
    refine ⟨⟨_, g, rfl⟩, fun a e => ⟨_, by cases e; exact g, rfl⟩, ?_⟩
    refine Calls.callWith_builtin (star_plain hs) (evalArgs_ces hs (wpAny_mono (sEs hs (X.step st) q) (fun vs s₂ => PVs.on fun ys σ₂ rs st₂ m₂ q₂ => ?_) fun _ _ f => f))
    exact wpAny_mono (q₂.go X.G X.R (.ref _) rs st₂.w) (fun _ _ pv => pv.back (st.trans st₂) (m₁.trans m₂)) fun _ _ f => f
theorem CE.comp {elt t it : Expr} {k : IK} {ifs : List Expr} {scope : Scope} {a b : PE} {tg : Tgt} {as : List PE} {fm : List (Option Nat)} (C : CompOk c elt t it k ifs scope a b tg as fm) : CE c (.ListComp elt [⟨t, it, ifs, 0⟩] scope p) (.comp fm a tg k b as) := by
  intro prog w h₀ mg mb Φ n A s σ env own F Q X v
  rw [eval_ListComp]
  refine wpAny_comprehension_free (use := .none) rfl (C.ci.1 env) (clos_ok C.ok X.f) C.kind (scOk_names C.ok) (wpAny_mono (C.ci.2 X v) (fun x s₁ h => ?_) fun _ _ f => f)
  refine wpAny_mono h (fun it s₂ ⟨σ₁, s₀, st, m₁, m₂, I, as, ne, hit, bes, ko, Inv, ⟨n0, hi⟩, hinv⟩ => ?_) fun _ _ f => f
  have hfm := C.fm
  subst hfm
  exact comp_tail (Inv := Inv) X.R.handled C.ok C.kind C.cg (fun hw hf fs v => C.ce ⟨X.G, X.NM, X.R, hw, hf, fs⟩ v) (fun hw hf fs v => sTs C.ct ⟨X.G, X.NM, X.R, hw, hf, fs⟩ v)
    (fun k' a' e => by
      have hk := ne k' a' e
      obtain ⟨is, rfl⟩ := C.en (by simpa using hk)
      cases C.cg; exact ⟨_, _, _, rfl⟩) st.w (X.f.step st) (X.fs.step st) ko hit bes hi hinv (rr_none st.w (fun _ s' pv m₃ => PVh.lift pv st (m₁.trans (m₂.trans m₃))))
theorem CI.plain {e : Expr} {a : PE} (h : CE c e a) (hf : ∀ env x, foldedSetIterable e env x = pure x) : CI c e .plain a := by
  refine ⟨hf, fun {prog w h₀ mg mb Φ n A s σ env own F P} X v => ?_⟩
  exact wpAny_mono (h X v) (fun v s₁ => PV.on fun x σ₁ rx st m₁ q => wpAny_mono (start_plain st.w rx q) (fun it s₂ sd => ⟨σ₁, s₁, st, m₁, sd⟩) fun _ _ f => f) fun _ _ f => f
theorem CT.plain {e : Expr} {v : Fns → (V → Hp → Prop) → Frm → Hp → Prop} (h : CE c e (.of v)) (hp : ∀ {prog : Program} {w : World} {A : Around} {s : Shared} {env : Env} {Q : Bool → Shared → Prop} {E : Value → Shared → Prop}, wpAny (model prog w) A (eval e env) (fun v s' => wpAny (model prog w) A (truthy v) Q E s') E s → wpAny (model prog w) A (isTrue e env (eval e env)) Q E s) : CT c e (.of v) := by
  intro prog w h₀ mg mb Φ n A s σ env own F P X v
  exact hp (wpAny_mono (h X v) (fun v s₃ => PV.on fun z σ₃ rz st₃ m₃ q₃ => wpAny_mono (truth_ok rz st₃.w q₃) (fun _ _ pb => pb.back st₃ m₃) fun _ _ f => f) fun _ _ f => f)
theorem CT.not {e : Expr} {a : PE} (h : CT c e a) : CT c (.UnaryOp .Not e p) (.not a) := by
  intro prog w h₀ mg mb Φ n A s σ env own F P X v
  exact isTrue_not (wpAny_mono (h X v) (fun _ _ pb => by obtain ⟨σ', st, q⟩ := pb; exact ⟨σ', st, q⟩) fun _ _ f => f)
theorem CT.or {l r : Expr} {a b : PE} (hl : CT c l a) (hr : CT c r b) : CT c (.BoolOp .Or [l, r] p) (.or a b) := by
  intro prog w h₀ mg mb Φ n A s σ env own F P X v
  refine isTrue_or (wpAny_mono (hl X v) (fun b s₁ => PB.on fun σ₁ st m₁ q => ?_) fun _ _ f => f)
  cases b with
  | false =>
    refine isTrue_or (wpAny_mono (hr (X.step st) q) (fun b s₂ q₂ => ?_) fun _ _ f => f)
    have := q₂.back st m₁
    cases b with
    | false => exact isTrue_or_nil this
    | true => exact this
  | true => exact ⟨σ₁, ⟨st, m₁⟩, q⟩
theorem CT.cmp {l r : Expr} {op : CmpOp} {a b : PE} (hl : CE c l a) (hr : CE c r b) (hm : behindInMarks op r = false) : CT c (.Compare l [op] [r] p) (.cmp op a b) := by
  intro prog w h₀ mg mb Φ n A s σ env own F P X v
  refine wpAny_isTrue_Compare1 (wpAny_mono (hl X v) (fun a s₁ => PV.on fun x σ₁ rx st m₁ q => wpAny_mono (hr (X.step st) q) (fun b s₂ => PV.on fun y σ₂ ry st₂ m₂ q₂ => ?_) fun _ _ f => f) fun _ _ f => f) hm
  exact wpAny_mono (opCmp_ok X.R (rx.step st₂) ry st₂.w q₂) (fun v s₃ => PV.on fun z σ₃ rz st₃ m₃ q₃ => wpAny_mono (truth_ok rz st₃.w q₃) (fun _ _ pb => pb.back ((st.trans st₂).trans st₃) ((m₁.trans m₂).trans m₃)) fun _ _ f => f) fun _ _ f => f
theorem CT.call {x : Str} {f : BI} {es : List Expr} {as : List PE} (h : CE c (.Call (.Name x p) es [] q) (.call f as)) : CT c (.Call (.Name x p) es [] q) (.call f as) := CT.plain h isTrue_plain
end

/-! M14 -/
noncomputable def FlRep (h : Heap) : Flow → Fl → Prop
  | .next, .next => True
  | .brk, .brk => True
  | .cont, .cont => True
  | .ret v, .ret x => Rep h v x
  | _, _ => False
inductive PSt (c : Cfg) (env : Env) (own : Addr → Prop) (h₀ : Heap) (σ : Hp) (s : Shared) (Q : Fl → Frm → Hp → Prop) (f : Flow) (s' : Shared) : Prop
  | mk (fl : Fl) (F' : Frm) (σ' : Hp) (h1 : FlRep s'.heap f fl) (h2 : (StepX own h₀ σ s.heap σ' s'.heap ∧ Sm s s')) (h3 : FrOk c env own F' h₀ σ' s'.heap) (h4 : Q fl F' σ') : PSt c env own h₀ σ s Q f s'
theorem PSt.back {c : Cfg} {env : Env} {own : Addr → Prop} {h₀ : Heap} {σ σ' : Hp} {s s₁ : Shared} {Q : Fl → Frm → Hp → Prop} {f : Flow} {s' : Shared} (x : PSt c env own h₀ σ' s₁ Q f s') (st : StepX own h₀ σ s.heap σ' s₁.heap) (m : Sm s s₁) : PSt c env own h₀ σ s Q f s' := by
  obtain ⟨fl, F', σ'', a, ⟨b, m'⟩, d, e⟩ := x; exact ⟨fl, F', σ'', a, ⟨st.trans b, m.trans m'⟩, d, e⟩
theorem PSt.next {c : Cfg} {env : Env} {own : Addr → Prop} {h₀ : Heap} {σ σ' : Hp} {s : Shared} {F : Frm} {Q : Fl → Frm → Hp → Prop} {s' : Shared} (st : StepX own h₀ σ s.heap σ' s'.heap) (m : Sm s s') (f : FrOk c env own F h₀ σ' s'.heap) (q : Q .next F σ') : PSt c env own h₀ σ s Q .next s' :=
  ⟨.next, F, σ', trivial, ⟨st, m⟩, f, q⟩

/-- how a for stands amid its turns -/
structure FSt (c : Cfg) (env : Env) (own : Addr → Prop) (as : List Addr) (iv : Value) (h₀ : Heap) (σb : Hp) (hb : Heap) (I : It) (F : Frm) (σ : Hp) (h : Heap) : Prop where
  it : ItRep h iv as I
  fr : FrOk c env own F h₀ σ h
  st : StepX own h₀ σb hb σ h
  bes : Beside as h₀ σ hb
  no : ∀ a ∈ as, ¬ own a
  cl : ∀ (i : Nat) y a, c.names[i]? = some y → env.kindOf y ≠ some .local → env.cells.lookup y = some a → ∃ o, hb.get? a = some o
  lc : ∃ o, hb.get? env.locals = some o

section
variable {prog : Program} {w : World} {A : Around} {s : Shared} {c : Cfg} {env : Env} {own : Addr → Prop} {as : List Addr} {iv : Value} {F F1 : Frm} {h₀ : Heap} {σb σ σ' : Hp} {hb h h' : Heap} {I I' : It}

/-- a frame where only the cells that it names count -/
theorem FrOk.move' (f : FrOk c env own F h₀ σ h) (kl : ∀ o, h.get? env.locals = some o → h'.get? env.locals = some o) (kc : ∀ (i : Nat) x a, c.names[i]? = some x → env.kindOf x ≠ some .local → env.cells.lookup x = some a → ∀ o, h.get? a = some o → h'.get? a = some o)
    (t : Tups h h') (al : ∀ a, own a → ∃ o, h'.get? a = some o) : FrOk c env own F h₀ σ h' := by
  refine ⟨f.kind, f.glob, f.bi, f.gk, f.vk, ?_, fun i x e n => ?_, f.inj, f.loc, f.nd, al⟩
  · obtain ⟨m, n, r⟩ := f.ns
    obtain ⟨o, es, ep, ho, q⟩ := n
    exact ⟨m, ⟨o, es, ep, kl _ ho, q⟩, fun i x v e1 e2 e3 => by
      obtain ⟨w, e4, e5⟩ := r i x v e1 e2 e3
      exact ⟨w, e4, e5.tups t⟩⟩
  · obtain ⟨a, cv, e1, ⟨o, e2, e2'⟩, e3, e4, e5, e6⟩ := f.cell i x e n
    refine ⟨a, cv, e1, ⟨o, kc _ _ _ e n e1 _ e2, e2'⟩, e3, e4, e5, fun v hv => ?_⟩
    obtain ⟨w, q1, q2⟩ := e6 v hv
    exact ⟨w, q1, q2.tups t⟩
theorem FSt.stepX (x : FSt c env own as iv h₀ σb hb I F σ h) (y : StepX own h₀ σ h σ' h') (f : FrOk c env own F1 h₀ σ' h') : FSt c env own as iv h₀ σb hb I F1 σ' h' := by
  have kp : ∀ a ∈ as, ∀ o, h.get? a = some o → h'.get? a = some o := fun a m o e => y.keep a o (none_mut (x.bes a m).2.1) (x.no a m) (x.it.notD a m o e) e
  exact ⟨x.it.move kp y.tups, f, x.st.trans y, x.bes.of_grow y.grow x.it.there, x.no, x.cl, x.lc⟩
theorem FSt.moved (x : FSt c env own as iv h₀ σb hb I F σ h) (k : ∀ b o, b ∉ as → h.get? b = some o → h'.get? b = some o) (it' : ItRep h' iv as I') : FSt c env own as iv h₀ σb hb I' F σ h' := by
  have t := (x.st.w.slip (fun a m => (x.bes a m).2) x.it.notImm k).2
  have nh : ∀ a, (∃ o, hb.get? a = some o) → a ∉ as := fun a ⟨o, e⟩ m => by rw [(x.bes a m).1] at e; cases e
  refine ⟨it', ?_, StepX.slip x.st x.bes x.it.notImm k, x.bes, x.no, x.cl, x.lc⟩
  refine x.fr.move' (fun o e => k _ o (nh _ x.lc) e) (fun i y a e1 e2 e3 o e => k a o (nh a (x.cl i y a e1 e2 e3)) e) t (fun a m => ?_)
  obtain ⟨o, e⟩ := x.fr.ex a m
  exact ⟨o, k a o (fun m' => x.no a m' m) e⟩
theorem FSt.over (x : FSt c env own as iv h₀ σb hb I F σ h) (k : ∀ b o, b ∉ as → h.get? b = some o → h'.get? b = some o) : StepX own h₀ σb hb σ h' ∧ FrOk c env own F h₀ σ h' := by
  have t := (x.st.w.slip (fun a m => (x.bes a m).2) x.it.notImm k).2
  have nh : ∀ a, (∃ o, hb.get? a = some o) → a ∉ as := fun a ⟨o, e⟩ m => by rw [(x.bes a m).1] at e; cases e
  refine ⟨StepX.slip x.st x.bes x.it.notImm k, ?_⟩
  refine x.fr.move' (fun o e => k _ o (nh _ x.lc) e) (fun i y a e1 e2 e3 o e => k a o (nh a (x.cl i y a e1 e2 e3)) e) t (fun a m => ?_)
  obtain ⟨o, e⟩ := x.fr.ex a m
  exact ⟨o, k a o (fun m' => x.no a m' m) e⟩
theorem FSt.start (hw : W h₀ σ hb) (hf : FrOk c env own F h₀ σ hb) (it : ItRep h iv as I) (bes : Beside as h₀ σ hb) (ko : ∀ b o, hb.get? b = some o → h.get? b = some o) : FSt c env own as iv h₀ σ hb I F σ h := by
  have st := hw.extend ko
  refine ⟨it, hf.step st, Step.any st, bes, fun a m q => ?_, fun i y a e1 e2 e3 => ?_, ?_⟩
  · obtain ⟨o, e⟩ := hf.ex a q; rw [(bes a m).1] at e; cases e
  · obtain ⟨a', cv, g1, ⟨o, g2, _⟩, _⟩ := hf.cell i y e1 e2
    rw [e3] at g1; cases g1; exact ⟨o, g2⟩
  · obtain ⟨m, ⟨o, _, _, ho, _⟩, _⟩ := hf.ns; exact ⟨o, ho⟩
end

section
variable {prog : Program} {w : World} {h₀ : Heap} {mg mb : Str → Option Value} {Φ : Fns} {n : Nat} {fns : List Str}

noncomputable def ForInv (Φ : Fns) (t : Tgt) (b : List PS) (Q : Fl → Frm → Hp → Prop) (Inv : Nat → It → Frm → Hp → Prop) : Prop := ∀ n I F σ, Inv n I F σ →
        match itNext I σ with
        | none => False
        | some none => Q .next F σ
        | some (some (x, I')) => bindT t x (fun F1 => vSs Φ b (fun fl F σ => match fl with
          | .next => ∃ m, m < n ∧ Inv m I' F σ
          | .cont => ∃ m, m < n ∧ Inv m I' F σ
          | .brk => Q .next F σ
          | .ret v => Q (.ret v) F σ) F1 σ) F σ

theorem for_loop {A : Around} {s : Shared} {c : Cfg} {env : Env} {own : Addr → Prop} {as : List Addr} {iv : Value} {F : Frm} {σ : Hp} {sb : Shared} {I : It} {t : Expr} {tg : Tgt} {l : List Stmt} {b : List PS} {Q : Fl → Frm → Hp → Prop} {Inv : Nat → It → Frm → Hp → Prop}
    (hh : A.handled = none) (hg : CG c t tg)
    (hbd : ∀ {s : Shared} {σ : Hp} {F : Frm} {Q : Fl → Frm → Hp → Prop}, W h₀ σ s.heap → FrOk c env own F h₀ σ s.heap → Frs A h₀ σ s.heap → vSs Φ b Q F σ → wpAny (model prog w) A (execs l env) (PSt c env own h₀ σ s Q) E0 s)
    (hen : ∀ k a, I = .enm k a → ∃ elts x1 p, t = .Tuple elts x1 p) (x0 : FSt c env own as iv h₀ σ sb.heap I F σ s.heap) (hfs : Frs A h₀ σ sb.heap) (mb : Sm sb s) {n : Nat} (hi : Inv n I F σ) (hinv : ForInv Φ tg b Q Inv) {R : Result → Shared → Prop}
    (hR : ∀ f s', PSt c env own h₀ σ sb Q f s' → R (.ok f) s') : codeAny (model prog w) A (.forLoop t iv l [] env) R s := by
  have e0 : ∀ (E : Value → Shared → Prop) e s, E0 e s → E e s := fun _ _ _ f => f.elim
  refine codeAny_forLoop_any (fun n s' => ∃ I F σ', Sm sb s' ∧ Inv n I F σ' ∧ (∀ k a, I = .enm k a → ∃ elts x1 p, t = .Tuple elts x1 p) ∧ FSt c env own as iv h₀ σ sb.heap I F σ' s'.heap) (fun n s' hI => ?_) n ⟨I, F, σ, mb, hi, hen, x0⟩
  obtain ⟨I, F, σ', mI, hi, hen, x⟩ := hI
  have q := hinv n I F σ' hi
  split at q
  · exact q.elim
  · rename_i hn
    refine next_end hh x.st.w x.it hn fun s'' mE kk => wpAny_execs_nil ?_
    obtain ⟨st, fr⟩ := x.over kk
    exact hR _ _ ⟨.next, F, σ', trivial, ⟨st, mI.trans mE⟩, fr, q⟩
  · rename_i xx I' hn
    have rest : ∀ y s₂, Sm sb s₂ → Rep s₂.heap y xx → FSt c env own as iv h₀ σ sb.heap I' F σ' s₂.heap → (∀ k a, I' = .enm k a → ∃ elts x1 p, t = .Tuple elts x1 p) →
        wpAny (model prog w) A (assign t env y) (fun _ s₂ => wpAny (model prog w) A (execs l env) (fun f s₃ => match f with
            | .next | .cont => ∃ m, m < n ∧ ∃ I F σ', Sm sb s₃ ∧ Inv m I F σ' ∧ (∀ k a, I = .enm k a → ∃ elts x1 p, t = .Tuple elts x1 p) ∧ FSt c env own as iv h₀ σ sb.heap I F σ' s₃.heap
            | .brk => R (.ok .next) s₃
            | .ret v => R (.ok (.ret v)) s₃) (notedBy (model prog w) A env fun e s' => R (.error e) s') s₂) (notedBy (model prog w) A env fun e s' => R (.error e) s') s₂ := by
      intro y s₂ m2 ry x2 hen'
      refine assign_ok hg hh x2.st.w x2.fr ry q fun s₃ F1 qF m3 stx f1 => ?_
      have x3 := x2.stepX stx f1
      refine wpAny_mono (hbd x3.st.w x3.fr (hfs.step x3.st) qF) (fun f s₄ ⟨fl, F4, σ4, rf, ⟨st4, m4⟩, fr4, q4⟩ => ?_) (e0 _)
      have x4 := x3.stepX st4 fr4
      have mm := (m2.trans m3).trans m4
      cases f with
      | next => cases fl <;> first | exact rf.elim | (obtain ⟨m, hm, q5⟩ := q4; exact ⟨m, hm, I', F4, σ4, mm, q5, hen', x4⟩)
      | cont => cases fl <;> first | exact rf.elim | (obtain ⟨m, hm, q5⟩ := q4; exact ⟨m, hm, I', F4, σ4, mm, q5, hen', x4⟩)
      | brk => cases fl <;> first | exact rf.elim | exact hR _ _ ⟨.next, F4, σ4, trivial, ⟨x4.st, mm⟩, x4.fr, q4⟩
      | ret v => cases fl <;> first | exact rf.elim | exact hR _ _ ⟨.ret _, F4, σ4, rf, ⟨x4.st, mm⟩, x4.fr, q4⟩
    have bb : ∀ a ∈ as, σ' a = none ∧ h₀.get? a = none := fun a m => (x.bes a m).2
    cases I with
    | enm k0 a0 =>
      obtain ⟨elts, x1, p, rfl⟩ := hen _ _ rfl
      obtain ⟨e1, I1, old', rfl, rfl, hne, he, hi'⟩ := x.it
      refine next_enum x.st.w hne he hi' bb hn (elts := elts) (x1 := x1) (pos := p) fun y s₂ hy => ?_
      refine wpAny_mono hy (fun _ s₃ ⟨mm, ry, it', kk⟩ => rest y s₃ (mI.trans mm) ry (x.moved kk it') (fun _ _ _ => ⟨_, _, _, rfl⟩)) (e0 _)
    | lst a0 i0 =>
      have hk' : ∀ k a, It.lst a0 i0 = It.enm k a → False := by intro k a e; cases e
      refine next_item hh x.st.w x.it bb hn hk' fun y s₂ mm ry it' kk => ?_
      exact letGo_it it' (next_kind hn hk') (rest y s₂ (mI.trans mm) ry (x.moved kk it') (fun k a e => (next_kind hn hk' k a e).elim))
    | rng a0 n0 c0 =>
      have hk' : ∀ k a, It.rng a0 n0 c0 = It.enm k a → False := by intro k a e; cases e
      refine next_item hh x.st.w x.it bb hn hk' fun y s₂ mm ry it' kk => ?_
      exact letGo_it it' (next_kind hn hk') (rest y s₂ (mI.trans mm) ry (x.moved kk it') (fun k a e => (next_kind hn hk' k a e).elim))
    | vals vs0 =>
      have hk' : ∀ k a, It.vals vs0 = It.enm k a → False := by intro k a e; cases e
      refine next_item hh x.st.w x.it bb hn hk' fun y s₂ mm ry it' kk => ?_
      exact letGo_it it' (next_kind hn hk') (rest y s₂ (mI.trans mm) ry (x.moved kk it') (fun k a e => (next_kind hn hk' k a e).elim))
end

/-! M15 -/
section
variable {prog : Program} {w : World} {h₀ : Heap} {mg mb : Str → Option Value} {Φ : Fns} {n : Nat} {fns : List Str}

theorem rr_some {A : Around} {s : Shared} {c : Cfg} {env : Env} {own : Addr → Prop} {F : Frm} {σ : Hp} {sb : Shared} {Q : Fl → Frm → Hp → Prop} {x : Str} {xp : Pos} {i : Nat} (hx : c.names[i]? = some x) (nf : c.sc.lookup x ≠ some .free)
    (hh : A.handled = none) (msb : Sm sb s) (hwb : W h₀ σ sb.heap) (hf : FrOk c env own F h₀ σ sb.heap) {QQ : Value → Shared → Prop} (hQQ : ∀ v s', PSt c env own h₀ σ sb Q .next s' → QQ v s') :
    CompEnd h₀ σ sb.heap s (fun v σ => bindT (.name i) v (fun F' => Q .next F' σ) F σ) (fun acc C => compPost (model prog w) A E0 (some (assign (.Name x xp) env)) QQ acc C) := by
  intro D C s' σ' acc vs k m mm hq gD rv nC st nD nC' hDC sD sC
  have hD : Holds s'.heap D (.list acc) := ⟨vs, k, gD, rv⟩
  have wD := st.w.adopt (beside_one hwb nD).2.2 hD hq.1
  have st2 : Step h₀ σ sb.heap (upd σ' D (.list acc)) s'.heap := by
    refine ⟨wD, st.keep, st.dict, fun a => ?_, st.tups, st.alive⟩
    by_cases qa : a = D
    · subst qa; exact ⟨fun _ => .inr nD, fun _ => .inr nD⟩
    · have := st.grow a
      unfold Mut at this ⊢
      rw [upd_ne _ _ qa]; exact this
  have fr := hf.step st2
  have q := hq.2 D sD
  show wpAny _ A (assign (.Name x xp) env (.ref D)) _ _ s'
  refine assign_ok (CG.name hx nf) hh wD fr (.ref D) q fun s'' F1 q1 m2 stx f1 => ?_
  have sC2 : upd σ' D (.list acc) C = none := by rw [upd_ne _ _ (Ne.symm hDC)]; exact sC
  have noC : ¬ own C := fun h => by obtain ⟨o, e⟩ := hf.ex C h; rw [nC'] at e; cases e
  have nC2 : s''.heap.Ns C m := stx.ns (none_mut sC2) noC nC
  refine ⟨m, nC2, fun h'' sbt => hQQ _ _ ?_⟩
  have kk : ∀ b o, b ∉ [C] → s''.heap.get? b = some o → h''.get? b = some o := fun b o n e => sbt.extBut b o (by simpa using n) e
  have h0C : h₀.get? C = none := (beside_one hwb nC').2.2
  have ni : ∀ a ∈ [C], ∀ o, s''.heap.get? a = some o → ¬ Imm o := fun a m' o e => by simp at m'; subst m'; exact ns_not_imm nC2 o e
  have bC : Beside [C] h₀ (upd σ' D (.list acc)) sb.heap := fun a m' => by simp at m'; subst m'; exact ⟨nC', sC2, h0C⟩
  have all := (Step.any (own := own) st2).trans stx
  have t2 := (all.w.slip (fun a m' => (bC a m').2) ni kk).2
  have all' := StepX.slip all bC ni kk
  have nh : ∀ a, (∃ o, sb.heap.get? a = some o) → a ∉ [C] := fun a ⟨o, e⟩ m => by simp at m; subst m; rw [nC'] at e; cases e
  refine ⟨.next, F1, _, trivial, ⟨all', (msb.trans mm).trans (m2.trans ⟨Eq.refl _, Eq.refl _⟩)⟩, ?_, q1⟩
  refine f1.move' (fun o e => kk _ o (nh _ ?_) e) (fun j y a e1 e2 e3 o e => kk a o (nh a ?_) e) t2 (fun a m' => ?_)
  · obtain ⟨m, ⟨o, _, _, ho, _⟩, _⟩ := hf.ns; exact ⟨o, ho⟩
  · obtain ⟨a', cv, g1, ⟨o, g2, _⟩, _⟩ := hf.cell j y e1 e2
    rw [e3] at g1; cases g1; exact ⟨o, g2⟩
  · obtain ⟨o, e⟩ := f1.ex a m'
    exact ⟨o, kk a o (nh a (hf.ex a m')) e⟩

end
/-- a statement is what its walk says -/
noncomputable def CS (c : Cfg) (e : Stmt) (p : PS) : Prop := ∀ {prog : Program} {w : World} {h₀ : Heap} {mg mb : Str → Option Value} {Φ : Fns} {n : Nat} {A : Around} {s : Shared} {σ : Hp} {env : Env} {own : Addr → Prop} {F : Frm} {Q : Fl → Frm → Hp → Prop},
  Here prog w h₀ mg mb Φ n c A s σ env own F → OnTop A env → vS Φ p Q F σ → wpAny (model prog w) A (exec e env) (PSt c env own h₀ σ s Q) E0 s
noncomputable def CSs (c : Cfg) (e : List Stmt) (p : List PS) : Prop := ∀ {prog : Program} {w : World} {h₀ : Heap} {mg mb : Str → Option Value} {Φ : Fns} {n : Nat} {A : Around} {s : Shared} {σ : Hp} {env : Env} {own : Addr → Prop} {F : Frm} {Q : Fl → Frm → Hp → Prop},
  Here prog w h₀ mg mb Φ n c A s σ env own F → OnTop A env → vSs Φ p Q F σ → wpAny (model prog w) A (execs e env) (PSt c env own h₀ σ s Q) E0 s
section
variable {c : Cfg} {p q : Pos}
theorem CSs.nil : CSs c [] [] := fun X T v => wpAny_execs_nil (.next (.refl X.w) .rfl X.f v)
theorem CSs.cons {s : Stmt} {a : PS} {ss : List Stmt} {as : List PS} (h : CS c s a) (hs : CSs c ss as) : CSs c (s :: ss) (a :: as) := by
  intro prog w h₀ mg mb Φ n A s σ env own F Q X T v
  refine wpAny_execs_cons (wpAny_mono (h X T v) (fun f s₁ ⟨fl, F₁, σ₁, rf, ⟨st, m₁⟩, fr, q⟩ => ?_) fun _ _ f => f)
  have q := q.go
  cases f with
  | next => cases fl <;> first | exact rf.elim | exact wpAny_mono (hs ⟨X.G, X.NM, X.R, st.w, fr, X.fs.step st⟩ T q) (fun _ _ pv => pv.back st m₁) fun _ _ f => f
  | cont => cases fl <;> first | exact rf.elim | exact ⟨.cont, F₁, σ₁, rf, ⟨st, m₁⟩, fr, q⟩
  | brk => cases fl <;> first | exact rf.elim | exact ⟨.brk, F₁, σ₁, rf, ⟨st, m₁⟩, fr, q⟩
  | ret v => cases fl <;> first | exact rf.elim | exact ⟨.ret _, F₁, σ₁, rf, ⟨st, m₁⟩, fr, q⟩
theorem CS.expr {e : Expr} {a : PE} (he : CE c e a) (hs : ∀ env, swapsWith e none p.line env = pure false) : CS c (.Expr e p) (.expr a) := by
  intro prog w h₀ mg mb Φ n A s σ env own F Q X T v
  refine wpAny_Expr_any (wpAny_mono (he X v) (fun y s₁ => PV.on fun z σ₁ rz st m₁ q => .next (Step.any st) m₁ (X.f.step st) q) fun _ _ f => f) ?_ (hs env)
  unfold interactive; rw [X.f.kind]; rfl
theorem CS.assign {x : Str} {i : Nat} {e : Expr} {a : PE} (hx : c.names[i]? = some x) (nf : c.sc.lookup x ≠ some .free) (he : CE c e a) (hs : ∀ env, swapsWith e (some (.Name x q)) p.line env = pure false) : CS c (.Assign [.Name x q] e p) (.assign (.name i) a) := by
  intro prog w h₀ mg mb Φ n A s σ env own F Q X T v
  refine wpAny_Assign_Name (wpAny_mono (he X v) (fun y s₁ => PV.on fun z σ₁ rz st m₁ q => ?_) fun _ _ f => f) (hs env)
  exact (X.f.step st).store st.w hx nf rz fun s' m' st' hf' => .next ((Step.any st).trans st') (m₁.trans m') hf' q
theorem CS.assignC {x : Str} {i : Nat} {elt t it : Expr} {k : IK} {ifs : List Expr} {scope : Scope} {cp : Pos} {a b : PE} {tg : Tgt} {as : List PE} {fm : List (Option Nat)} (hx : c.names[i]? = some x) (nf : c.sc.lookup x ≠ some .free) (C : CompOk c elt t it k ifs scope a b tg as fm) :
    CS c (.Assign [.Name x q] (.ListComp elt [⟨t, it, ifs, 0⟩] scope cp) p) (.assign (.name i) (.comp fm a tg k b as)) := by
  intro prog w h₀ mg mb Φ n A s σ env own F Q X T v
  obtain ⟨bb, hb⟩ : ∃ bb, swapsWith (.ListComp elt [⟨t, it, ifs, 0⟩] scope cp) (some (.Name x q)) p.line env = pure bb := ⟨_, rfl⟩
  cases bb with
  | false =>
    refine wpAny_Assign_Name (wpAny_mono (CE.comp C X v) (fun y s₁ => PV.on fun z σ₁ rz st m₁ q => ?_) fun _ _ f => f) hb
    exact (X.f.step st).store st.w hx nf rz fun s' m' st' hf' => .next ((Step.any st).trans st') (m₁.trans m') hf' q
  | true =>
    rw [exec_Assign_Name_used _ _ _ _ hb]
    refine wpAny_bind (wpAny_standAt (wpAny_bind ?_))
    show wpAny _ A (do let _ ← comprehension (.ListComp elt [⟨t, it, ifs, 0⟩] scope cp) scope env _ (newList []) false (eval it env) (some (PySem.assign (.Name x q) env))) _ _ s
    have key : wpAny (model prog w) A (comprehension (.ListComp elt [⟨t, it, ifs, 0⟩] scope cp) scope env (firstIterPos [⟨t, it, ifs, 0⟩] cp) (newList []) false (eval it env) (some (PySem.assign (.Name x q) env))) (fun _ s' => PSt c env own h₀ σ s Q .next s') E0 s := by
      refine wpAny_comprehension_free (use := some (PySem.assign (.Name x q) env)) rfl (C.ci.1 env) (clos_ok C.ok X.f) C.kind (scOk_names C.ok) (wpAny_mono (C.ci.2 X v) (fun x s₁ h => ?_) fun _ _ f => f)
      refine wpAny_mono h (fun it s₂ ⟨σ₁, s₀, st, m₁, m₂, I, as, ne, hit, bes, ko, Inv, ⟨n0, hi⟩, hinv⟩ => ?_) fun _ _ f => f
      have hfm := C.fm
      subst hfm
      exact comp_tail (Inv := Inv) X.R.handled C.ok C.kind C.cg (fun hw hf fs v => C.ce ⟨X.G, X.NM, X.R, hw, hf, fs⟩ v) (fun hw hf fs v => sTs C.ct ⟨X.G, X.NM, X.R, hw, hf, fs⟩ v)
        (fun k' a' e => by
          have hk := ne k' a' e
          obtain ⟨is, rfl⟩ := C.en (by simpa using hk)
          cases C.cg; exact ⟨_, _, _, rfl⟩) st.w (X.f.step st) (X.fs.step st) ko hit bes hi hinv (rr_some (Q := Q) hx nf X.R.handled m₂ st.w (X.f.step st) (fun _ _ pv => pv.back (Step.any st) m₁))
    exact wpAny_bind (wpAny_mono key (fun _ s' hq => wpAny_pure (wpAny_pure hq)) fun _ _ e => e)
theorem CS.assignT {es : List Expr} {k : Nat} {is : List Nat} {e : Expr} {a : PE} (hg : CGs c es is) (he : CE c e a) (hs : ∀ env, swapsWithSole [.Tuple es k q] e p.line env = pure false) (hs2 : ∀ env, swappedStores [.Tuple es k q] e env = pure none) :
    CS c (.Assign [.Tuple es k q] e p) (.assign (.tup is) a) := by
  intro prog w h₀ mg mb Φ n A s σ env own F Q X T v
  refine PyProof.Rows.Assign_Tuple (wpAny_mono (he X v) (fun y s₁ => PV.on fun z σ₁ rz st m₁ q => ?_) fun _ _ f => f) (hs env) (hs2 env)
  exact assign_ok (CG.tup hg) X.R.handled st.w (X.f.step st) rz q fun s' F1 q1 m' st' hf' => .next ((Step.any st).trans st') (m₁.trans m') hf' q1
theorem CS.setitem {o i e : Expr} {a b d : PE} (ho : CE c o a) (hi : CE c i b) (he : CE c e d) (hs : ∀ env, swapsWith e (some (.Subscript o i q)) p.line env = pure false) : CS c (.Assign [.Subscript o i q] e p) (.setitem a b d) := by
  intro prog w h₀ mg mb Φ n A s σ env own F Q X T v
  refine wpAny_Assign_Subscript (wpAny_mono (he X v) (fun y s₁ => PV.on fun z σ₁ rz st m₁ q => wpAny_mono (ho (X.step st) q) (fun ov s₂ => PV.on fun oz σ₂ roz st₂ m₂ q₂ =>
    wpAny_mono (hi ((X.step st).step st₂) q₂) (fun iv s₃ => PV.on fun iz σ₃ riz st₃ m₃ q₃ => ?_) fun _ _ f => f) fun _ _ f => f) fun _ _ f => f) (hs env)
  refine wpAny_mono (q₃.go (roz.step st₃) riz ((rz.step st₂).step st₃) st₃.w) (fun _ s₄ ⟨σ₄, ⟨st₄, m₄⟩, q₄⟩ => ?_) fun _ _ f => f
  exact .next (Step.any (((st.trans st₂).trans st₃).trans st₄)) (((m₁.trans m₂).trans m₃).trans m₄) ((((X.f.step st).step st₂).step st₃).step st₄) q₄
theorem CS.ifs {t : Expr} {l r : List Stmt} {a : PE} {b d : List PS} (ht : CT c t a) (hl : CSs c l b) (hr : CSs c r d) : CS c (.If t l r p) (.ifs a b d) := by
  intro prog w h₀ mg mb Φ n A s σ env own F Q X T v
  refine wpAny_If (wpAny_mono (ht X v) (fun b s₁ => PB.on fun σ₁ st m₁ q => ?_) fun _ _ f => f)
  cases b with
  | true => exact wpAny_mono (hl (X.step st) T q) (fun _ _ pv => pv.back (Step.any st) m₁) fun _ _ f => f
  | false => exact wpAny_mono (hr (X.step st) T q) (fun _ _ pv => pv.back (Step.any st) m₁) fun _ _ f => f
theorem CS.whil {t : Expr} {l : List Stmt} {a : PE} {b : List PS} (ht : CT c t a) (hl : CSs c l b) : CS c (.While t l [] p) (.whil a b) := by
  intro prog w h₀ mg mb Φ n A s σ env own F Q X T v
  obtain ⟨Inv, ⟨n0, hi⟩, hinv⟩ := v
  have e0 : ∀ (E : Value → Shared → Prop) e s, E0 e s → E e s := fun _ _ _ f => f.elim
  refine wpAny_While (codeAny_whileLoop (fun n s' => ∃ F σ', Inv n F σ' ∧ FrOk c env own F h₀ σ' s'.heap ∧ StepX own h₀ σ s.heap σ' s'.heap ∧ Sm s s') (fun n s' hI => ?_) n0 ⟨F, σ, hi, X.f, .refl X.w, .rfl⟩)
  obtain ⟨F, σ', hi, hf', st', mI⟩ := hI
  refine wpAny_mono (ht ⟨X.G, X.NM, X.R, st'.w, hf', X.fs.step st'⟩ (hinv n F σ' hi)) (fun b s₂ => PB.on fun σ₂ st₂ m₂ q => ?_) (e0 _)
  have all := st'.trans (Step.any st₂)
  cases b with
  | false => exact wpAny_execs_nil (PSt.next all (mI.trans m₂) (hf'.step st₂) q)
  | true =>
    simp only [if_true] at q ⊢
    refine wpAny_mono (hl ⟨X.G, X.NM, X.R, st₂.w, hf'.step st₂, (X.fs.step st').step st₂⟩ T q) (fun f s₃ ⟨fl, F₃, σ₃, rf, ⟨st₃, m₃⟩, fr₃, q₃⟩ => ?_) (e0 _)
    have all3 := all.trans st₃
    have mm := (mI.trans m₂).trans m₃
    cases f with
    | next => cases fl <;> first | exact rf.elim | (obtain ⟨m, hm, q5⟩ := q₃; exact ⟨m, hm, F₃, σ₃, q5, fr₃, all3, mm⟩)
    | cont => cases fl <;> first | exact rf.elim | (obtain ⟨m, hm, q5⟩ := q₃; exact ⟨m, hm, F₃, σ₃, q5, fr₃, all3, mm⟩)
    | brk => cases fl <;> first | exact rf.elim | exact ⟨.next, F₃, σ₃, trivial, ⟨all3, mm⟩, fr₃, q₃⟩
    | ret v => cases fl <;> first | exact rf.elim | exact ⟨.ret _, F₃, σ₃, rf, ⟨all3, mm⟩, fr₃, q₃⟩
theorem CS.for {t it : Expr} {l : List Stmt} {tg : Tgt} {k : IK} {a : PE} {b : List PS} (hg : CG c t tg) (hci : CI c it k a) (hen : k = .enum → ∃ is, tg = .tup is) (hl : CSs c l b) : CS c (.For t it l [] p) (.for tg k a b) := by
  intro prog w h₀ mg mb Φ n A s σ env own F Q X T v
  refine wpAny_For (wpAny_mono (hci.2 X v) (fun x s₁ h => wpAny_mono h (fun it s₂ ⟨σ₁, s₀, st, m₁, m₂, I, as, ne, hit, bes, ko, Inv, ⟨n0, hi⟩, hinv⟩ => ?_) fun _ _ f => f) fun _ _ f => f) (hci.1 env)
  exact for_loop (Inv := Inv) X.R.handled hg (fun hw hf fs v => hl ⟨X.G, X.NM, X.R, hw, hf, fs⟩ T v)
    (fun k' a' e => by
      have hk := ne k' a' e
      obtain ⟨is, rfl⟩ := hen (by simpa using hk)
      cases hg; exact ⟨_, _, _, rfl⟩) (.start st.w (X.f.step st) hit bes ko) (X.fs.step st) m₂ hi hinv (fun f s' pv => pv.back (Step.any st) m₁)
theorem CS.ret {e : Expr} {a : PE} (he : CE c e a) : CS c (.Return (some e) p) (.ret a) := by
  intro prog w h₀ mg mb Φ n A s σ env own F Q X T v
  exact wpAny_Return_some (wpAny_mono (he X v) (fun y s₁ => PV.on fun z σ₁ rz st m₁ q => ⟨.ret z, F, σ₁, rz, ⟨Step.any st, m₁⟩, X.f.step st, q⟩) fun _ _ f => f)
theorem CS.brk : CS c (.Break p) .brk := by
  intro prog w h₀ mg mb Φ n A s σ env own F Q X T v
  exact wpAny_Break ⟨.brk, F, σ, trivial, ⟨.refl X.w, .rfl⟩, X.f, v⟩
theorem CS.cont : CS c (.Continue p) .cont := by
  intro prog w h₀ mg mb Φ n A s σ env own F Q X T v
  exact wpAny_Continue ⟨.cont, F, σ, trivial, ⟨.refl X.w, .rfl⟩, X.f, v⟩
end

/-! M16 -/
theorem bindL_eq {kindOf : Str → Option NameKind} {x : Str} (hk : kindOf x = some .local) : ∀ (ps : List Str) (vs : List Value) (m : Str → Option Value), ps.Nodup → bindL kindOf (ps.zip vs) m x = ((ps.zip vs).lookup x).or (m x)
  | [], _, m, _ => rfl
  | p :: ps, [], m, _ => rfl
  | p :: ps, v :: vs, m, nd => by
    simp only [List.nodup_cons] at nd
    show bindL kindOf (ps.zip vs) (if kindOf p = some .local then fun y => if y = p then some v else m y else m) x = _
    rw [bindL_eq hk ps vs _ nd.2, List.zip_cons_cons, List.lookup_cons]
    by_cases e : x = p
    · subst e
      have : (ps.zip vs).lookup x = none := by
        rw [List.lookup_eq_none_iff]
        intro q hq
        have := List.of_mem_zip hq
        simp; rintro rfl; exact nd.1 this.1
      rw [this]; simp [hk]
    · have : (x == p) = false := by simpa using e
      rw [this]
      by_cases hp : kindOf p = some .local
      · simp [hp, e]
      · simp [hp]
theorem bindC_eq {kindOf : Str → Option NameKind} {x : Str} (hk : kindOf x ≠ some .local) : ∀ (ps : List Str) (vs : List Value) (m : Str → Option Value), ps.Nodup → bindC kindOf (ps.zip vs) m x = ((ps.zip vs).lookup x).or (m x)
  | [], _, m, _ => rfl
  | p :: ps, [], m, _ => rfl
  | p :: ps, v :: vs, m, nd => by
    simp only [List.nodup_cons] at nd
    show bindC kindOf (ps.zip vs) (if kindOf p = some .local then m else fun y => if y = p then some v else m y) x = _
    rw [bindC_eq hk ps vs _ nd.2, List.zip_cons_cons, List.lookup_cons]
    by_cases e : x = p
    · subst e
      have : (ps.zip vs).lookup x = none := by
        rw [List.lookup_eq_none_iff]
        intro q hq
        have := List.of_mem_zip hq
        simp; rintro rfl; exact nd.1 this.1
      rw [this]; simp [hk]
    · have : (x == p) = false := by simpa using e
      rw [this]
      by_cases hp : kindOf p = some .local
      · simp [hp]
      · simp [hp, e]
theorem zip_rep {h : Heap} {x : Str} {u : V} : ∀ {ps : List Str} {vs : List Value} {xs : List V}, Reps h vs xs → (ps.zip xs).lookup x = some u → ∃ w, (ps.zip vs).lookup x = some w ∧ Rep h w u
  | [], _, _, _, e => by simp at e
  | p :: ps, _, _, .nil, e => by simp at e
  | p :: ps, _, _, .cons r rs, e => by
    simp only [List.zip_cons_cons, List.lookup_cons] at e ⊢
    split at e
    · cases e; exact ⟨_, rfl, r⟩
    · exact zip_rep rs e

noncomputable def initF (c : Cfg) (params : List Str) (args : List V) : Frm := c.names.map fun x => (params.zip args).lookup x
/-- the answer of a def -/
noncomputable def retV (Q : V → Hp → Prop) (fl : Fl) (F : Frm) (σ : Hp) : Prop := match fl with | .ret v => Q v σ | .next => Q .none σ | _ => False
noncomputable def bodyV (Φ : Fns) (c : Cfg) (params : List Str) (ps : List PS) (args : List V) (Q : V → Hp → Prop) (σ : Hp) : Prop :=
  args.length = params.length ∧ vSs Φ ps (retV Q) (initF c params args) σ

/-- what a def of the text must be -/
structure DefOk (h₀ : Heap) (fd : FuncData) (fns : List Str) (params : List Str) (body : List Stmt) (ps : List PS) : Prop where
  bdy : fd.body = .stmts body
  bind : ∀ s : Shared, (∀ b o, h₀.get? b = some o → s.heap.get? b = some o) → ∀ vals : List Value, vals.length = params.length → BindsTo s fd ⟨vals, []⟩ (params.zip vals)
  clo : fd.closure = []
  glob : fd.globals = mainGlobals
  bi : fd.builtins = builtinsNs
  co : fd.scope.isCoroutine = false
  gen : fd.scope.isGenerator = false
  kind : fd.scope.kind = .function
  nd : (fd.scope.names.map (·.1)).Nodup
  noFree : ∀ x ∈ fd.scope.names, x.2 ≠ .free
  pk : ∀ x ∈ params, fd.scope.names.lookup x = some .local ∨ fd.scope.names.lookup x = some .cell
  pnd : params.Nodup
  cs : CSs { sc := fd.scope.names, fns := fns } body ps

theorem cellsFrom_look {x : Str} : ∀ (names : List (Str × NameKind)) (n : Nat) (acc : List (Str × Addr)), names.lookup x = some .cell ∨ (acc.lookup x).isSome = true → ((cellsFrom n names acc).lookup x).isSome = true := fun names n acc h => cellsFrom_some names n acc h
section
variable {prog : Program} {w : World} {h₀ : Heap} {mg mb : Str → Option Value} {Φ : Fns} {n : Nat} {fns : List Str}

/-- the frame of a call -/
theorem call_frame {fd : FuncData} {params : List Str} {body : List Stmt} {ps : List PS} (D : DefOk h₀ fd fns params body ps) {fa : Addr} {s s₁ : Shared} {σ : Hp} (hw : W h₀ σ s.heap) {vargs : List Value} {args : List V} (ra : Reps s.heap vargs args) (hl : args.length = params.length)
    (x : InCallC s (callEnvC fd s.heap.objs.size fa).locals (bindL (callEnvC fd s.heap.objs.size fa).kindOf (params.zip vargs) fun _ => none) (callEnvC fd s.heap.objs.size fa).cells (bindC (callEnvC fd s.heap.objs.size fa).kindOf (params.zip vargs) fun _ => none) s₁) :
    FrOk { sc := fd.scope.names, fns := fns } (callEnvC fd s.heap.objs.size fa) (fun a => s.heap.get? a = none ∧ ∃ o, s₁.heap.get? a = some o) (initF { sc := fd.scope.names, fns := fns } params args) h₀ σ s₁.heap := by
  have ko : ∀ b o, s.heap.get? b = some o → s₁.heap.get? b = some o := x.toInCall.keep
  have t : Tups s.heap s₁.heap := fun a o e _ => ko a o e
  have kindOf : ∀ y, (callEnvC fd s.heap.objs.size fa).kindOf y = fd.scope.names.lookup y := fun _ => rfl
  have hL : s.heap.get? s.heap.objs.size = none := get_push_none _
  have vark : ∀ (i : Nat) y, (Cfg.mk fd.scope.names fns).names[i]? = some y → ∃ kk, fd.scope.names.lookup y = some kk ∧ (kk = .local ∨ kk = .cell) := fun i y e => by
    obtain ⟨kk, e1, e2, e3⟩ := names_mem e
    refine ⟨kk, lookup_of_nodup D.nd e2, ?_⟩
    have := D.noFree _ e2
    cases kk <;> simp_all [isVar]
  have initAt : ∀ (i : Nat) y (v : V), (Cfg.mk fd.scope.names fns).names[i]? = some y → (initF { sc := fd.scope.names, fns := fns } params args)[i]? = some (some v) → ∃ w, (params.zip vargs).lookup y = some w ∧ Rep s₁.heap w v := fun i y v e1 e2 => by
    unfold initF at e2
    rw [List.getElem?_map, e1] at e2
    simp at e2
    obtain ⟨w, q1, q2⟩ := zip_rep ra e2
    exact ⟨w, q1, q2.tups t⟩
  refine ⟨D.kind, D.glob, D.bi, fun y e => e, fun i y e => ?_, ⟨_, x.toInCall.ns, fun i y v e1 e2 e3 => ?_⟩, fun i y e1 e2 => ?_, fun y z a e1 e2 => ?_, ⟨⟨hL, ?_⟩, hw.fresh hL, (beside_one hw hL).2.2⟩, fun i j y e1 e2 => getElem_inj (nodup_names D.nd) e1 e2, fun a e => e.2⟩
  · obtain ⟨kk, l, q⟩ := vark i y e
    rcases q with rfl | rfl
    · exact .inl ⟨l, l⟩
    · exact .inr (.inl ⟨l, l⟩)
  · obtain ⟨w, q1, q2⟩ := initAt i y v e1 e3
    refine ⟨w, ?_, q2⟩
    rw [bindL_eq e2 _ _ _ D.pnd, q1]; rfl
  · obtain ⟨kk, l, q⟩ := vark i y e1
    rcases q with rfl | rfl
    · exact absurd l e2
    · have hs := cellsFrom_look (x := y) fd.scope.names (s.heap.objs.size + 1) [] (.inl l)
      obtain ⟨a, ha⟩ := Option.isSome_iff_exists.mp hs
      have ic := x.cell y a ha
      have above := x.above y a (mem_of_lookup ha)
      have na : s.heap.get? a = none := by
        cases q : s.heap.get? a with
        | none => rfl
        | some o =>
          have h1 := Heap.lt_size q
          have h2 : s.heap.objs.size < a := above
          exact absurd (Nat.lt_trans h1 h2) (Nat.lt_irrefl _)
      refine ⟨a, _, ha, ic, hw.fresh na, fun e => absurd (e ▸ above) (Nat.lt_irrefl _), fun _ => ⟨⟨na, ?_⟩, (beside_one hw na).2.2⟩, fun v hv => ?_⟩
      · obtain ⟨o, ho, _⟩ := ic; exact ⟨o, ho⟩
      · obtain ⟨w, q1, q2⟩ := initAt i y v e1 hv
        refine ⟨w, ?_, q2⟩
        rw [bindC_eq e2 _ _ _ D.pnd, q1]; rfl
  · exact name_of_addr x.apart (mem_of_lookup e1) (mem_of_lookup e2)
  · obtain ⟨o, _, _, ho, _⟩ := x.toInCall.ns; exact ⟨o, ho⟩

theorem frs_call {fd : FuncData} {params : List Str} {body : List Stmt} {ps : List PS} (D : DefOk h₀ fd fns params body ps) {A : Around} {fa : Addr} {σ : Hp} {h h' : Heap} {L : Addr} {m : Str → Option Value} (fs : Frs A h₀ σ h) (st : Step h₀ σ h σ h') (hσ : σ L = none) (h0 : h₀.get? L = none) (hn : h'.Ns L m) :
    Frs (A.deeper (callEnvC fd L fa)) h₀ σ h' := by
  obtain ⟨l, e, q⟩ := (fs.step st).go
  refine ⟨⟨callEnvC fd L fa :: l, by show A.frames.map _ = _; rw [e]; rfl, fun env me => ?_⟩⟩
  rcases List.mem_cons.mp me with rfl | me
  · obtain ⟨o, es, ep, ho, hd, _⟩ := hn
    exact ⟨by rw [show (callEnvC fd L fa).scope.kind = .function from D.kind]; decide, L, rfl, h0, hσ, o, ho, _, _, hd⟩
  · exact q env me
theorem frs_top {A : Around} {σ : Hp} {h : Heap} {env : Env} (fs : Frs A h₀ σ h) : OnTop (A.deeper env) env := by
  obtain ⟨l, e, q⟩ := fs.go
  exact ⟨l, by show A.frames.map _ = _; rw [e]; rfl⟩
theorem call_cells {A : Around} {s : Shared} {R : Result → Shared → Prop} {a : Addr} {o : Obj} {fd : FuncData} {body : List Stmt} {ar : Args} {binds : List (Str × Value)}
    (hroom : A.depth < recursionLimit) (ho : s.heap.get? a = some o) (hdata : o.data = .func fd) (hlim : s.heap.NoLimit) (hcd : s.heap.CodeRec fd.code fd.qualname)
    (hbody : fd.body = .stmts body) (hbind : BindsTo s fd ar binds) (hclo : fd.closure = [])
    (hkind : ∀ x ∈ binds, fd.scope.names.lookup x.1 = some .local ∨ (fd.scope.names.lookup x.1 = some .cell ∧ ((cellsFrom (s.heap.objs.size + 1) fd.scope.names []).lookup x.1).isSome = true))
    (h : ∀ s₁, InCallC s (callEnvC fd s.heap.objs.size a).locals (bindL (callEnvC fd s.heap.objs.size a).kindOf binds fun _ => none) (callEnvC fd s.heap.objs.size a).cells
        (bindC (callEnvC fd s.heap.objs.size a).kindOf binds fun _ => none) s₁ →
      wpAny (model prog w) (A.deeper (callEnvC fd s.heap.objs.size a)) (execs body (callEnvC fd s.heap.objs.size a)) (fun f s' => R (.ok (.ret (match f with | .ret v => v | _ => .none))) s') E0 s₁)
    (hco : fd.scope.isCoroutine = false) (hgen : fd.scope.isGenerator = false) (hk : fd.scope.kind = .function) :
    codeAny (model prog w) A (.call (.ref a) ar) R s := by
  refine codeAny_call_function hroom ho hdata hco hgen hbody hcd ?_
  rw [hclo]
  refine hbind _ _ _ _ (wpAny_newFunctionEnv_cells hk hkind fun env he s' x => ?_)
  subst he
  exact ⟨hlim.keeps x.toInCall.keep, codeAny_func (wpAny_mono (h s' x) (fun _ _ q => q) fun _ _ f => f.elim)⟩
theorem fd_ok (G : Gnd prog h₀ mg mb) (NM : NamesOk prog w h₀ mg n fns Φ) {fd : FuncData} {params : List Str} {body : List Stmt} {ps : List PS} (D : DefOk h₀ fd fns params body ps)
    (hcd : h₀.CodeRec fd.code fd.qualname) : FdOk prog w h₀ (n + 1) fd (bodyV Φ { sc := fd.scope.names, fns := fns } params ps) := by
  intro A s σ fa o ar vargs args Q ho hd hbi R fs hw ra ⟨hl, v⟩
  have hlv : vargs.length = params.length := by rw [ra.length, hl]
  refine wpAny_call (call_cells (by have := R.depth; show A.depth < 1000; omega) ho hd (G.nolimit.keeps hw.stays) (hcd.keeps hw.stays) D.bdy (hbi _ (D.bind s hw.stays vargs hlv)) D.clo (fun x hx => ?_) (fun s₁ ic => ?_) D.co D.gen D.kind)
  · have hm := (List.of_mem_zip hx).1
    rcases D.pk _ hm with q | q
    · exact .inl q
    · exact .inr ⟨q, cellsFrom_look _ _ _ (.inl q)⟩
  · have ko : ∀ b o, s.heap.get? b = some o → s₁.heap.get? b = some o := ic.toInCall.keep
    have fr := call_frame D (fa := fa) hw ra hl ic
    have st0 := hw.extend ko
    have m₁ : Sm s s₁ := by obtain ⟨h1, tk, e⟩ := ic.toInCall.same; rw [e]; exact ⟨rfl, rfl⟩
    have R' : Room (A.deeper (callEnvC fd s.heap.objs.size fa)) n := by
      obtain ⟨env, l, e, _⟩ := R.env
      refine ⟨R.handled, by have := R.depth; show A.depth + 1 + n ≤ 800; omega, by have := R.units; show A.units + 3 + 8 * n + 5 ≤ 9000; omega, ⟨callEnvC fd s.heap.objs.size fa, env :: l, ?_, D.gen, D.co, D.bi, D.glob⟩⟩
      show A.frames.map _ = _
      rw [e]; rfl
    refine wpAny_mono (D.cs ⟨G, NM, R', st0.w, fr, frs_call D fs st0 (hw.fresh (get_push_none _)) (beside_one hw (get_push_none _)).2.2 ic.toInCall.ns⟩ (frs_top fs) v) (fun f s' ⟨fl, F', σ', rf, ⟨st, m₂⟩, fr', q⟩ => ?_) fun _ _ f => f
    have all : Step h₀ σ s.heap σ' s'.heap := StepX.drop ((Step.any st0).trans st) fun a q => q.1
    cases f with
    | next =>
      cases fl with
      | next => exact ⟨.none, σ', .none, ⟨all, m₁.trans m₂⟩, q⟩
      | _ => exact rf.elim
    | brk =>
      cases fl with
      | brk => exact q.elim
      | _ => exact rf.elim
    | cont =>
      cases fl with
      | cont => exact q.elim
      | _ => exact rf.elim
    | ret v =>
      cases fl with
      | ret x => exact ⟨x, σ', rf, ⟨all, m₁.trans m₂⟩, q⟩
      | _ => exact rf.elim

theorem fn_ok (G : Gnd prog h₀ mg mb) (NM : NamesOk prog w h₀ mg n fns Φ) {fd : FuncData} {params : List Str} {body : List Stmt} {ps : List PS} (D : DefOk h₀ fd fns params body ps) {fa : Addr} {o : Obj} (ho : h₀.get? fa = some o) (hd : o.data = .func fd)
    (hcd : h₀.CodeRec fd.code fd.qualname) : FnOk prog w h₀ (n + 1) (.ref fa) (bodyV Φ { sc := fd.scope.names, fns := fns } params ps) := ⟨fa, o, fd, rfl, ho, hd, fd_ok G NM D hcd⟩
theorem FdOk.mono {fd : FuncData} {Φ₁ Φ₂ : List V → (V → Hp → Prop) → Hp → Prop} {n m : Nat} (h : FdOk prog w h₀ n fd Φ₁) (hm : n ≤ m) (i : ∀ args Q σ, Φ₂ args Q σ → Φ₁ args Q σ) : FdOk prog w h₀ m fd Φ₂ :=
  fun A s σ fa o ar vals args Q ho hd hb R fs hw ra v => h A s σ fa o ar vals args Q ho hd hb (R.le hm) fs hw ra (i _ _ _ v)
/-- a contract that says enough -/
theorem FnOk.mono {fv : Value} {Φ₁ Φ₂ : List V → (V → Hp → Prop) → Hp → Prop} {n m : Nat} (h : FnOk prog w h₀ n fv Φ₁) (hm : n ≤ m) (i : ∀ args Q σ, Φ₂ args Q σ → Φ₁ args Q σ) : FnOk prog w h₀ m fv Φ₂ := by
  obtain ⟨fa, o, fd, e, a, b, call⟩ := h
  exact ⟨fa, o, fd, e, a, b, call.mono hm i⟩
end

/-! E2 -/
/-! what is made when an error is raised -/
section
variable {α : Type} {M : Model} {A : Around} {E : Value → Shared → Prop} {s : Shared}
noncomputable def Raised (E : Value → Shared → Prop) (s : Shared) (cls : String) (words : Str) : Prop := ∀ h' tk tk' e, Heap.MadeExcOf s.heap h' e (.type cls) [.str words tk] → E (.ref e) { s with heap := h', toks := tk' }
theorem raise_new {cls : String} {words : Str} {tk : Tok} {tk' : Nat} {Q : α → Shared → Prop} (hp : PlainExc cls) (hh : A.handled = none) (h : Raised E s cls words) :
    wpAny M A (newExc (.type cls) [.str words tk] >>= fun e => raiseNew e) Q E { s with toks := tk' } := by
  unfold newExc newTuple
  refine wpAny_bind (wpAny_bind (wpAny_newObj_type ?_))
  refine wpAny_bind (m := firstArgMember _ _) (wpAny_of_eq (a := Value.none) (by simp only [firstArgMember, hp.first]; rfl) ?_)
  rw [hp.own]
  refine wpAny_newObj_type ?_
  unfold raiseNew
  refine wpAny_bind (wpAny_handled ?_)
  rw [hh]
  first
    | refine wpAny_throw ?_
    | refine wpAny_bind (wpAny_pure (wpAny_throw ?_))
  refine h _ tk tk' _ ⟨fun b o hb => Heap.get?_push_of_some _ (Heap.get?_push_of_some _ hb), Heap.get?_none_of_le (by simp), s.heap.objs.size, Heap.get?_push_size _ rfl, Heap.get?_none_of_le (by simp), ?_⟩
  exact Heap.get?_push_of_some _ (Heap.get?_push_size _ rfl)
theorem raise_words {cls msg : String} {Q : α → Shared → Prop} (hp : PlainExc cls) (hh : A.handled = none) (h : Raised E s cls (Str.ofString msg)) : wpAny M A (raiseErrorWords cls msg : Sem α) Q E s := by
  unfold raiseErrorWords
  exact wpAny_bind (wpAny_mkText (raise_new hp hh h))
theorem raise_made {cls msg : String} {Q : α → Shared → Prop} (hp : PlainExc cls) (hh : A.handled = none) (h : Raised E s cls (Str.ofString msg)) (hm : (msg : Str).length ≤ sizeLine) : wpAny M A (raiseErrorMade cls msg : Sem α) Q E s := by
  unfold raiseErrorMade
  exact wpAny_bind (wpAny_mkStr (raise_new hp hh h) hm)
end
noncomputable def ltWords (x y : String) : Str := Str.ofString s!"'{"<"}' not supported between instances of '{x}' and '{y}'"
section
variable {prog : Program} {w : World} {A : Around} {E : Value → Shared → Prop} {s : Shared}
theorem lt_declined {a b : Value} {Ta Tb ida idb : String} {Q : Value → Shared → Prop} (hh : A.handled = none) (ha : ∀ s' : Shared, s'.TypeIs a Ta) (hb : ∀ s' : Shared, s'.TypeIs b Tb)
    (hne : (Value.type Ta != Value.type Tb) = true) (hsub : isSubtype (.type Tb) (.type Ta) = pure false) (h1 : Slot Ta (cmpInfo .Lt).2.1 ida) (h2 : Slot Tb (cmpInfo .Lt).2.2 idb)
    (hna : (Value.type Ta == Value.type "builtin_function_or_method") = false) (hnb : (Value.type Tb == Value.type "builtin_function_or_method") = false)
    (c1 : ∀ Q : Value → Shared → Prop, Q .notImplemented s → wpAny (model prog w) A (call (.builtin ida) [a, b]) Q E s) (c2 : ∀ Q : Value → Shared → Prop, Q .notImplemented s → wpAny (model prog w) A (call (.builtin idb) [b, a]) Q E s)
    (hv : [a, b].any Value.onHeap = false) (hl : (ltWords (shownName Ta) (shownName Tb)).length ≤ sizeLine) (k : Raised E s "TypeError" (ltWords (shownName Ta) (shownName Tb))) : wpAny (model prog w) A (compareOp .Lt a b) Q E s := by
  show wpAny _ _ (richCompare .Lt a b) Q E s
  simp only [richCompare, cmpInfo, (ha s).oneThing_none] at h1 h2 ⊢
  refine wpAny_holding ?_
  refine wpAny_bind (wpAny_cRoomFor_or (.inl hv) ?_)
  refine wpAny_bind (wpAny_typeOf (ha s) (wpAny_bind (wpAny_typeOf (hb s) ?_)))
  simp only [hne, if_true]
  refine wpAny_bind (wpAny_of_eq hsub ?_)
  simp only [Bool.false_eq_true, if_false, Bool.not_false, if_true]
  refine wpAny_bind (m := tryCompare a _ b) (wpAny_tryCompare_declines (ha s) h1 (c1 _ ⟨rfl, ?_⟩))
  refine wpAny_bind (m := tryCompare b _ a) (wpAny_tryCompare_declines (hb s) h2 (c2 _ ⟨rfl, ?_⟩))
  exact wpAny_bind (wpAny_rule (wpAny_bind (wpAny_typeNameOf' (ha s) hna (wpAny_bind (wpAny_typeNameOf' (hb s) hnb (raise_made plainExc_TypeError hh k hl))))))
theorem lt_is {i : Int} {t : Tok} {x : Str} {u : Tok} {Q : Value → Shared → Prop} (hh : A.handled = none) (k : Raised E s "TypeError" (ltWords "int" "str")) : wpAny (model prog w) A (compareOp .Lt (.int i t) (.str x u)) Q E s := by
  refine lt_declined hh (fun s' => typeIs_int s' i t) (fun s' => typeIs_str s' x u) (by decide) isSubtype_str_int slot_int_lt PySem.slot_str_gt (by decide) (by decide) (fun Q q => ?_) (fun Q q => ?_) rfl (by decide +kernel) k
  · exact wpAny_call_entry slot_int_lt (typeIs_int s i t) entry_int_lt (show wpAny _ _ (do rule "int.binary.not-an-int"; ret .notImplemented) _ _ s from wpAny_bind (wpAny_rule (wpAny_pure ⟨_, rfl, q⟩))) (args_int_lt _ _)
  · exact wpAny_call_entry PySem.slot_str_gt (typeIs_str s x u) PySem.entry_str_gt (show wpAny _ _ (do rule "str.__gt__.not-a-str"; ret .notImplemented) _ _ s from wpAny_bind (wpAny_rule (wpAny_pure ⟨_, rfl, q⟩))) (PySem.args_str_gt _ _)
theorem sub_is : isSubtype (.type "int") (.type "str") = pure false := by rw [isSubtype_type]; kernel_rfl
theorem slot_igt : Slot "int" (cmpInfo .Lt).2.2 "int.__gt__" := PySem.F.slot_int_gt
theorem lt_si {i : Int} {t : Tok} {x : Str} {u : Tok} {Q : Value → Shared → Prop} (hh : A.handled = none) (k : Raised E s "TypeError" (ltWords "str" "int")) : wpAny (model prog w) A (compareOp .Lt (.str x u) (.int i t)) Q E s := by
  refine lt_declined hh (fun s' => typeIs_str s' x u) (fun s' => typeIs_int s' i t) (by decide) sub_is PySem.F.slot_str_lt slot_igt (by decide) (by decide) (fun Q q => ?_) (fun Q q => ?_) rfl (by decide +kernel) k
  · exact wpAny_call_entry PySem.F.slot_str_lt (typeIs_str s x u) PySem.F.entry_str_lt (show wpAny _ _ (do rule "str.__lt__.not-a-str"; ret .notImplemented) _ _ s from wpAny_bind (wpAny_rule (wpAny_pure ⟨_, rfl, q⟩))) (PySem.F.args_str_lt_2 _ _)
  · exact wpAny_call_entry PySem.F.slot_int_gt (typeIs_int s i t) PySem.F.entry_int_gt (show wpAny _ _ (do rule "int.binary.not-an-int"; ret .notImplemented) _ _ s from wpAny_bind (wpAny_rule (wpAny_pure ⟨_, rfl, q⟩))) (PySem.F.args_int_gt_2 _ _)
/-- an item behind the end -/
theorem item_out {l : Addr} {items : Array Value} {k : Int} {t : Tok} {Q : Value → Shared → Prop} (hA : A.handled = none) (hl : s.heap.IsList l items) (ho : (items.size : Int) ≤ k) (hk : k < 2 ^ 63) (h : Raised E s "IndexError" (Str.ofString "list index out of range")) :
    wpAny (model prog w) A (getItem (.ref l) (.int k t)) Q E s := by
  obtain ⟨o, ho', hc, ne, hd⟩ := id hl
  unfold getItem
  try with_reducible refine wpAny_holding ?_
  first | refine wpAny_bind (wpAny_pure ?_) | skip
  refine wpAny_bind (wpAny_sequenceKey hl.typeIs (by decide) ?_)
  refine wpAny_bind (wpAny_callSpecial?_slot (name := Str.ofString "__getitem__") hl.typeIs slot_list_getitem
    (wpAny_call_entry slot_list_getitem hl.typeIs entry_list_getitem ?_ (args_list_getitem _ _)))
  show wpAny _ _ (Builtin.List.listSubscript? (.int k t) >>= _) _ _ s
  refine wpAny_bind (wpAny_listSubscript_int (fitsIndex_both (by omega) hk) ?_)
  clear hk
  obtain ⟨j, rfl⟩ := Int.eq_ofNat_of_zero_le (show 0 ≤ k by omega)
  show wpAny _ _ ((seqItemAt l j >>= fun r => pure (r.map (j, ·))) >>= _) _ _ s
  refine wpAny_bind (wpAny_bind (wpAny_seqItemAt ho' hd (wpAny_pure ?_)))
  rw [Array.getElem?_eq_none (by omega)]
  first
    | exact wpAny_bind (wpAny_rule (raise_words plainExc_IndexError hA h))
    | exact wpAny_bind (wpAny_rule (wpAny_bind (raise_words plainExc_IndexError hA h)))
    | exact wpAny_bind (wpAny_bind (wpAny_rule (raise_words plainExc_IndexError hA h)))
    | exact wpAny_rule (raise_words plainExc_IndexError hA h)
end

/-! E3 -/
theorem px_made {A : Around} {own : Addr → Prop} {h₀ : Heap} {σ : Hp} {s : Shared} {K : V → Hp → Prop} (hw : W h₀ σ s.heap) {cls : String} {words : Str} (hc : cls = "TypeError" ∨ cls = "IndexError") (k : K (.exc cls words) σ) : Raised (PX A own h₀ σ s K) s cls words :=
  fun h' tk tk' e me => .made e cls words σ rfl hc ⟨s.heap, tk, .refl hw, me⟩ ⟨rfl, rfl⟩ k
theorem PX.mono {A : Around} {own : Addr → Prop} {h₀ : Heap} {σ : Hp} {s : Shared} {K K' : V → Hp → Prop} {v : Value} {s' : Shared} (hk : ∀ c w σ, K (.exc c w) σ → K' (.exc c w) σ) (p : PX A own h₀ σ s K v s') : PX A own h₀ σ s K' v s' := by
  cases p with
  | made e cls words σ' h1 hc h2 h3 h4 => exact .made e cls words σ' h1 hc h2 h3 (hk _ _ _ h4)
  | fly l e cls words σ' h0 h1 hc h2 h3 h4 => exact .fly l e cls words σ' h0 h1 hc h2 h3 (hk _ _ _ h4)
/-! texts that may raise: P, Q for what comes, K for what is raised -/
abbrev XT := Fns → (Bool → Hp → Prop) → (V → Hp → Prop) → Frm → Hp → Prop
abbrev XE := Fns → (V → Hp → Prop) → (V → Hp → Prop) → Frm → Hp → Prop
abbrev XS := Fns → (Fl → Frm → Hp → Prop) → (V → Hp → Prop) → Frm → Hp → Prop
noncomputable def CTX (c : Cfg) (e : Expr) (p : XT) : Prop := ∀ {prog : Program} {w : World} {h₀ : Heap} {mg mb : Str → Option Value} {Φ : Fns} {n : Nat} {A : Around} {s : Shared} {σ : Hp} {env : Env} {own : Addr → Prop} {F : Frm} {P : Bool → Hp → Prop} {K : V → Hp → Prop},
  Here prog w h₀ mg mb Φ n c A s σ env own F → p Φ P K F σ → wpAny (model prog w) A (isTrue e env (eval e env)) (PB h₀ σ s P) (PX A nobody h₀ σ s K) s
noncomputable def CEX (c : Cfg) (e : Expr) (p : XE) : Prop := ∀ {prog : Program} {w : World} {h₀ : Heap} {mg mb : Str → Option Value} {Φ : Fns} {n : Nat} {A : Around} {s : Shared} {σ : Hp} {env : Env} {own : Addr → Prop} {F : Frm} {Q : V → Hp → Prop} {K : V → Hp → Prop},
  Here prog w h₀ mg mb Φ n c A s σ env own F → p Φ Q K F σ → wpAny (model prog w) A (eval e env) (PV h₀ σ s Q) (PX A nobody h₀ σ s K) s
noncomputable def CSX (c : Cfg) (e : Stmt) (p : XS) : Prop := ∀ {prog : Program} {w : World} {h₀ : Heap} {mg mb : Str → Option Value} {Φ : Fns} {n : Nat} {A : Around} {s : Shared} {σ : Hp} {env : Env} {own : Addr → Prop} {F : Frm} {Q : Fl → Frm → Hp → Prop} {K : V → Hp → Prop} {E : Value → Shared → Prop},
  Here prog w h₀ mg mb Φ n c A s σ env own F → OnTop A env → PassesOwn (model prog w) A env E → (∀ v s', PX A own h₀ σ s K v s' → E v s') → p Φ Q K F σ → wpAny (model prog w) A (exec e env) (PSt c env own h₀ σ s Q) E s
noncomputable def vXs (Φ : Fns) : List XS → (Fl → Frm → Hp → Prop) → (V → Hp → Prop) → Frm → Hp → Prop
  | [], Q, K, F, σ => Q .next F σ
  | x :: xs, Q, K, F, σ => x Φ (fun fl F σ => Seq fl (vXs Φ xs Q K F σ) (Q fl F σ)) K F σ
noncomputable def CSXs (c : Cfg) (e : List Stmt) (p : List XS) : Prop := ∀ {prog : Program} {w : World} {h₀ : Heap} {mg mb : Str → Option Value} {Φ : Fns} {n : Nat} {A : Around} {s : Shared} {σ : Hp} {env : Env} {own : Addr → Prop} {F : Frm} {Q : Fl → Frm → Hp → Prop} {K : V → Hp → Prop} {E : Value → Shared → Prop},
  Here prog w h₀ mg mb Φ n c A s σ env own F → OnTop A env → PassesOwn (model prog w) A env E → (∀ v s', PX A own h₀ σ s K v s' → E v s') → vXs Φ p Q K F σ → wpAny (model prog w) A (execs e env) (PSt c env own h₀ σ s Q) E s
/-- an order that may be refused -/
inductive LtX (P : Bool → Hp → Prop) (K : V → Hp → Prop) (σ : Hp) : V → V → Prop
  | ii {x y : Int} : P (decide (x < y)) σ → LtX P K σ (.int x) (.int y)
  | ss {x y : Str} : P (decide (x.cps.toList < y.cps.toList)) σ → LtX P K σ (.str x) (.str y)
  | is {x : Int} {y : Str} : K (.exc "TypeError" (ltWords "int" "str")) σ → LtX P K σ (.int x) (.str y)
  | si {x : Str} {y : Int} : K (.exc "TypeError" (ltWords "str" "int")) σ → LtX P K σ (.str x) (.int y)
/-- an item that may not be there -/
inductive SubX (Q : V → Hp → Prop) (K : V → Hp → Prop) (σ : Hp) : V → V → Prop
  | at {a : Addr} {xs : List V} {k : Nat} {x : V} : listAt σ a = some xs → xs[k]? = some x → Q x σ → SubX Q K σ (.ref a) (.int k)
  | out {a : Addr} {xs : List V} {k : Nat} : listAt σ a = some xs → xs.length ≤ k → k ≤ BIG → K (.exc "IndexError" (Str.ofString "list index out of range")) σ → SubX Q K σ (.ref a) (.int k)
noncomputable def codeQ (Q K : V → Hp → Prop) (v : V) (σ : Hp) : Prop := match v with | .exc c w => K (.exc c w) σ | v => Q v σ
theorem codeQ_nx {Q K : V → Hp → Prop} {v : V} {σ : Hp} (n : NX v) (q : codeQ Q K v σ) : Q v σ := by
  cases v <;> first | exact q | exact n.elim
inductive WhileX (Φ : Fns) (c : PE) (b : List XS) (Q : Fl → Frm → Hp → Prop) (K : V → Hp → Prop) (F : Frm) (σ : Hp) : Prop
  | mk (Inv : Nat → Frm → Hp → Prop) (h1 : (∃ n, Inv n F σ)) (h2 : ∀ n F σ, Inv n F σ →
      vT Φ c (fun t σ => if t then vXs Φ b (fun fl F σ => match fl with
        | .next => ∃ m, m < n ∧ Inv m F σ
        | .cont => ∃ m, m < n ∧ Inv m F σ
        | .brk => Q .next F σ
        | .ret v => Q (.ret v) F σ) K F σ else Q .next F σ) F σ) : WhileX Φ c b Q K F σ
namespace XT
noncomputable def lt (l r : PE) : XT := fun Φ P K F σ => vE Φ l (fun a σ => vE Φ r (fun b σ => LtX P K σ a b) F σ) F σ
noncomputable def not (x : XT) : XT := fun Φ P K F σ => x Φ (fun b σ => P (!b) σ) K F σ
noncomputable def and (l : PE) (x : XT) : XT := fun Φ P K F σ => vT Φ l (fun b σ => if b then x Φ P K F σ else P false σ) F σ
noncomputable def isNone (x : XE) : XT := fun Φ P K F σ => x Φ (fun v σ => v = .none ∧ P true σ) K F σ
end XT
namespace XE
noncomputable def sub (o i : PE) : XE := fun Φ Q K F σ => vE Φ o (fun a σ => vE Φ i (fun b σ => SubX Q K σ a b) F σ) F σ
noncomputable def ucall (i : Nat) (es : List PE) : XE := fun Φ Q K F σ => vEs Φ es (fun vs σ => Φ (3000 + i) vs (codeQ Q K) σ) F σ
noncomputable def ite (t : XT) (a b : PE) : XE := fun Φ Q K F σ => t Φ (fun t σ => if t then vE Φ a Q F σ else vE Φ b Q F σ) K F σ
end XE
namespace XS
noncomputable def of (p : PS) : XS := fun Φ Q K F σ => vS Φ p Q F σ
noncomputable def expr (x : XE) : XS := fun Φ Q K F σ => x Φ (fun _ σ => Q .next F σ) K F σ
noncomputable def assign (i : Nat) (x : XE) : XS := fun Φ Q K F σ => x Φ (fun v σ => Q .next (F.set i (some v)) σ) K F σ
noncomputable def ifs (c : XT) (a b : List PS) : XS := fun Φ Q K F σ => c Φ (fun t σ => if t then vSs Φ a Q F σ else vSs Φ b Q F σ) K F σ
noncomputable def whil (c : PE) (b : List XS) : XS := fun Φ Q K F σ => WhileX Φ c b Q K F σ
end XS
section
variable {c : Cfg} {p q : Pos}
theorem CTX.lt {l r : Expr} {a b : PE} (hl : CE c l a) (hr : CE c r b) (hm : behindInMarks .Lt r = false) : CTX c (.Compare l [.Lt] [r] p) (.lt a b) := by
  intro prog w h₀ mg mb Φ n A s σ env own F P K X v
  refine wpAny_isTrue_Compare1 (wpAny_mono (hl X v) (fun a s₁ => PV.on fun x σ₁ rx st m₁ q => wpAny_mono (hr (X.step st) q) (fun b s₂ => PV.on fun y σ₂ ry st₂ m₂ q₂ => ?_) fun _ _ f => f.elim) fun _ _ f => f.elim) hm
  have stt := st.trans st₂
  have mm := m₁.trans m₂
  have rx := rx.step st₂
  have bk : ∀ (b : Bool), P b σ₂ → wpAny (model prog w) A (truthy (.bool b)) (PB h₀ σ s P) (PX A nobody h₀ σ s K) s₂ := fun b h => wpAny_truthy_bool ⟨_, ⟨stt, mm⟩, h⟩
  have ra : ∀ (wds : Str), K (.exc "TypeError" wds) σ₂ → Raised (PX A nobody h₀ σ s K) s₂ "TypeError" wds := fun wds k h' tk tk' e me => (px_made st₂.w (.inl rfl) k h' tk tk' e me).back stt mm
  cases q₂ with
  | ii h => obtain ⟨_, rfl⟩ := rx.iint; obtain ⟨_, rfl⟩ := ry.iint; exact lt_int (bk _ h)
  | ss h => obtain ⟨_, rfl⟩ := rx.istr; obtain ⟨_, rfl⟩ := ry.istr; exact PyProof.Rows.lt_str (bk _ h)
  | is h => obtain ⟨_, rfl⟩ := rx.iint; obtain ⟨_, rfl⟩ := ry.istr; exact lt_is X.R.handled (ra _ h)
  | si h => obtain ⟨_, rfl⟩ := rx.istr; obtain ⟨_, rfl⟩ := ry.iint; exact lt_si X.R.handled (ra _ h)
theorem CTX.not {e : Expr} {a : XT} (h : CTX c e a) : CTX c (.UnaryOp .Not e p) (.not a) := by
  intro prog w h₀ mg mb Φ n A s σ env own F P K X v
  exact isTrue_not (wpAny_mono (h X v) (fun _ _ pb => by obtain ⟨σ', st, q⟩ := pb; exact ⟨σ', st, q⟩) fun _ _ f => f)
theorem CTX.and {l r : Expr} {a : PE} {b : XT} (hl : CT c l a) (hr : CTX c r b) : CTX c (.BoolOp .And [l, r] p) (.and a b) := by
  intro prog w h₀ mg mb Φ n A s σ env own F P K X v
  refine isTrue_and (wpAny_mono (hl X v) (fun b s₁ => PB.on fun σ₁ st m₁ q => ?_) fun _ _ f => f.elim)
  cases b with
  | true =>
    refine isTrue_and (wpAny_mono (hr (X.step st) q) (fun b s₂ q₂ => ?_) fun _ _ f => f.back st m₁)
    have := q₂.back st m₁
    cases b with
    | true => exact isTrue_and_nil this
    | false => exact this
  | false => exact ⟨σ₁, ⟨st, m₁⟩, q⟩
theorem CTX.isNone {l : Expr} {k : Nat} {p2 : Pos} {x : XE} (hl : CEX c l x) : CTX c (.Compare l [.Is] [.Constant .none k p2] p) (.isNone x) := by
  intro prog w h₀ mg mb Φ n A s σ env own F P K X v
  refine wpAny_isTrue_Compare1 (wpAny_mono (hl X v) (fun a s₁ => PV.on fun x σ₁ rx st m₁ q => Constant_none ?_) fun _ _ f => f) rfl
  obtain ⟨rfl, q⟩ := q
  obtain rfl := rx.inone
  exact wpAny_pure (wpAny_truthy_bool ⟨_, ⟨st, m₁⟩, q⟩)
theorem CEX.sub {o i : Expr} {a b : PE} (ho : CE c o a) (hi : CE c i b) (hs : ∀ o v, subscripted i false o v = operate [o, v] (getItem o v)) : CEX c (.Subscript o i p) (.sub a b) := by
  intro prog w h₀ mg mb Φ n A s σ env own F Q K X v
  refine Subscript_ (wpAny_mono (ho X v) (fun a s₁ => PV.on fun x σ₁ rx st m₁ q => wpAny_mono (hi (X.step st) q) (fun b s₂ => PV.on fun y σ₂ ry st₂ m₂ q₂ => ?_) fun _ _ f => f.elim) fun _ _ f => f.elim)
  have stt := st.trans st₂
  have mm := m₁.trans m₂
  have rx := rx.step st₂
  cases q₂ with
  | «at» e1 e2 h =>
    have hb := st₂.w.len e1
    refine wpAny_mono ((sub_list e1 (x := _) (k := _) ?_ h).go rx ry st₂.w hs) (fun _ _ pv => pv.back stt mm) fun _ _ f => f.elim
    unfold nth
    rw [if_pos (by omega)]; exact e2
  | out e1 e2 e3 h =>
    obtain rfl := rx.iref
    obtain ⟨ti, rfl⟩ := ry.iint
    obtain ⟨vs, hl, r⟩ := st₂.w.list e1
    have hlen := r.length
    unfold BIG at e3
    refine tail_any hl.typeIs slot_list_getitem.lookup (item_out X.R.handled hl (by simp; omega) (by omega) ?_) (hs _ _)
    exact fun h' tk tk' e me => (px_made st₂.w (.inr rfl) h h' tk tk' e me).back stt mm
theorem CEX.ucall {x : Str} {i : Nat} {es : List Expr} {as : List PE} (hn : c.fns[i]? = some x) (hd : (x == ("__debug__" : Str)) = false) (hk : c.sc.lookup x = some .globalImplicit) (hlen : es.length < 15) (hs : CEs c es as) : CEX c (.Call (.Name x p) es [] q) (.ucall i as) := by
  intro prog w h₀ mg mb Φ n A s σ env own F Q K X v
  obtain ⟨fv, e1, fa, o, fd, rfl, e2, e3, call⟩ := X.NM.fx i _ hn
  refine Call_Name rfl (load_glob X.G X.w X.f hk hd (.inl e1) ?_)
  refine callWith_function_kw (o := o) (fd := fd) (evalArgs_ces hs (wpAny_mono (sEs hs X v) (fun vs s₁ => PVs.on fun xs σ₁ rs st m₁ q => ?_) fun _ _ f => f.elim))
  refine ⟨⟨st.w.stays _ _ e2, e3⟩, wpAny_mono (call A s₁ σ₁ fa o vs xs _ (st.w.stays _ _ e2) e3 X.R.weak (X.fs.step st) st.w rs q) (fun y s' pv => ?_) fun y s' px => ?_⟩
  · obtain ⟨z, σ', rz, ⟨st', m'⟩, nx, qq⟩ := pv
    exact ⟨z, σ', rz, ⟨st.trans st', m₁.trans m'⟩, codeQ_nx nx qq⟩
  · exact PX.back (PX.mono (K := codeQ Q K) (K' := K) (fun _ _ _ h => h) px) st m₁
theorem CEX.ite {t l r : Expr} {x : XT} {a b : PE} (ht : CTX c t x) (hl : CE c l a) (hr : CE c r b) : CEX c (.IfExp t l r p) (.ite x a b) := by
  intro prog w h₀ mg mb Φ n A s σ env own F Q K X v
  refine IfExp_ (wpAny_mono (ht X v) (fun b s₁ => PB.on fun σ₁ st m₁ q => ?_) fun _ _ f => f)
  cases b with
  | true => exact wpAny_mono (hl (X.step st) q) (fun _ _ pv => pv.back st m₁) fun _ _ f => f.elim
  | false => exact wpAny_mono (hr (X.step st) q) (fun _ _ pv => pv.back st m₁) fun _ _ f => f.elim
theorem CSX.of {e : Stmt} {a : PS} (h : CS c e a) : CSX c e (.of a) := fun X T _ _ v => wpAny_mono (h X T v) (fun _ _ q => q) fun _ _ f => f.elim
theorem CSX.expr {e : Expr} {a : XE} (he : CEX c e a) (hs : ∀ env, swapsWith e none p.line env = pure false) : CSX c (.Expr e p) (.expr a) := by
  intro prog w h₀ mg mb Φ n A s σ env own F Q K E X T hP hE v
  refine wpAny_Expr_any (wpAny_mono (he X v) (fun y s₁ => PV.on fun z σ₁ rz st m₁ q => .next (Step.any st) m₁ (X.f.step st) q) fun _ _ f => hE _ _ f.any) ?_ (hs env)
  unfold interactive; rw [X.f.kind]; rfl
theorem CSX.assign {x : Str} {i : Nat} {e : Expr} {a : XE} (hx : c.names[i]? = some x) (nf : c.sc.lookup x ≠ some .free) (he : CEX c e a) (hs : ∀ env, swapsWith e (some (.Name x q)) p.line env = pure false) : CSX c (.Assign [.Name x q] e p) (.assign i a) := by
  intro prog w h₀ mg mb Φ n A s σ env own F Q K E X T hP hE v
  refine wpAny_Assign_Name (wpAny_mono (he X v) (fun y s₁ => PV.on fun z σ₁ rz st m₁ q => ?_) fun _ _ f => hE _ _ f.any) (hs env)
  exact (X.f.step st).store st.w hx nf rz fun s' m' st' hf' => .next ((Step.any st).trans st') (m₁.trans m') hf' q
theorem CSX.ifs {t : Expr} {l r : List Stmt} {a : XT} {b d : List PS} (ht : CTX c t a) (hl : CSs c l b) (hr : CSs c r d) : CSX c (.If t l r p) (.ifs a b d) := by
  intro prog w h₀ mg mb Φ n A s σ env own F Q K E X T hP hE v
  refine wpAny_If (wpAny_mono (ht X v) (fun b s₁ => PB.on fun σ₁ st m₁ q => ?_) fun _ _ f => hE _ _ f.any)
  cases b with
  | true => exact wpAny_mono (hl (X.step st) T q) (fun _ _ pv => pv.back (Step.any st) m₁) fun _ _ f => f.elim
  | false => exact wpAny_mono (hr (X.step st) T q) (fun _ _ pv => pv.back (Step.any st) m₁) fun _ _ f => f.elim
theorem CSXs.nil : CSXs c [] [] := fun X T _ _ v => wpAny_execs_nil (.next (.refl X.w) .rfl X.f v)
theorem CSXs.cons {s : Stmt} {a : XS} {ss : List Stmt} {as : List XS} (h : CSX c s a) (hs : CSXs c ss as) : CSXs c (s :: ss) (a :: as) := by
  intro prog w h₀ mg mb Φ n A s σ env own F Q K E X T hP hE v
  refine wpAny_execs_cons (wpAny_mono (h X T hP hE v) (fun f s₁ ⟨fl, F₁, σ₁, rf, ⟨st, m₁⟩, fr, q⟩ => ?_) fun _ _ f => f)
  have q := q.go
  cases f with
  | next => cases fl <;> first | exact rf.elim | exact wpAny_mono (hs ⟨X.G, X.NM, X.R, st.w, fr, X.fs.step st⟩ T hP (fun _ _ px => hE _ _ (px.back st m₁)) q) (fun _ _ pv => pv.back st m₁) fun _ _ f => f
  | cont => cases fl <;> first | exact rf.elim | exact ⟨.cont, F₁, σ₁, rf, ⟨st, m₁⟩, fr, q⟩
  | brk => cases fl <;> first | exact rf.elim | exact ⟨.brk, F₁, σ₁, rf, ⟨st, m₁⟩, fr, q⟩
  | ret v => cases fl <;> first | exact rf.elim | exact ⟨.ret _, F₁, σ₁, rf, ⟨st, m₁⟩, fr, q⟩
theorem CSX.whil {t : Expr} {l : List Stmt} {a : PE} {b : List XS} (ht : CT c t a) (hl : CSXs c l b) : CSX c (.While t l [] p) (.whil a b) := by
  intro prog w h₀ mg mb Φ n A s σ env own F Q K E X T hP hE v
  obtain ⟨Inv, ⟨n0, hi⟩, hinv⟩ := v
  refine wpAny_While (codeAny_whileLoop (fun n s' => ∃ F σ', Inv n F σ' ∧ FrOk c env own F h₀ σ' s'.heap ∧ StepX own h₀ σ s.heap σ' s'.heap ∧ Sm s s') (fun n s' hI => ?_) n0 ⟨F, σ, hi, X.f, .refl X.w, .rfl⟩)
  obtain ⟨F, σ', hi, hf', st', mI⟩ := hI
  refine wpAny_mono (ht ⟨X.G, X.NM, X.R, st'.w, hf', X.fs.step st'⟩ (hinv n F σ' hi)) (fun b s₂ => PB.on fun σ₂ st₂ m₂ q => ?_) fun _ _ f => f.elim
  have all := st'.trans (Step.any st₂)
  cases b with
  | false => exact wpAny_execs_nil (PSt.next all (mI.trans m₂) (hf'.step st₂) q)
  | true =>
    simp only [if_true] at q ⊢
    refine wpAny_mono (hl ⟨X.G, X.NM, X.R, st₂.w, hf'.step st₂, (X.fs.step st').step st₂⟩ T hP (fun _ _ px => hE _ _ (px.back all (mI.trans m₂))) q) (fun f s₃ ⟨fl, F₃, σ₃, rf, ⟨st₃, m₃⟩, fr₃, q₃⟩ => ?_) fun e s' f => hP e s' f
    have all3 := all.trans st₃
    have mm := (mI.trans m₂).trans m₃
    cases f with
    | next => cases fl <;> first | exact rf.elim | (obtain ⟨m, hm, q5⟩ := q₃; exact ⟨m, hm, F₃, σ₃, q5, fr₃, all3, mm⟩)
    | cont => cases fl <;> first | exact rf.elim | (obtain ⟨m, hm, q5⟩ := q₃; exact ⟨m, hm, F₃, σ₃, q5, fr₃, all3, mm⟩)
    | brk => cases fl <;> first | exact rf.elim | exact ⟨.next, F₃, σ₃, trivial, ⟨all3, mm⟩, fr₃, q₃⟩
    | ret v => cases fl <;> first | exact rf.elim | exact ⟨.ret _, F₃, σ₃, rf, ⟨all3, mm⟩, fr₃, q₃⟩
end

/-! E4 -/
/-! a def that may raise -/
noncomputable def PS.no : PS := fun _ _ _ _ => False
theorem css_no {c : Cfg} {e : List Stmt} : CSs c e [PS.no] := fun _ _ v => v.elim
noncomputable def retX (Q : V → Hp → Prop) (fl : Fl) (F : Frm) (σ : Hp) : Prop := match fl with | .ret v => NX v ∧ Q v σ | .next => Q .none σ | _ => False
noncomputable def bodyX (Φ : Fns) (c : Cfg) (params : List Str) (xs : List XS) (args : List V) (Q : V → Hp → Prop) (σ : Hp) : Prop :=
  args.length = params.length ∧ vXs Φ xs (retX Q) Q (initF c params args) σ
section
variable {prog : Program} {w : World} {h₀ : Heap} {mg mb : Str → Option Value} {Φ : Fns} {n : Nat} {fns : List Str}
theorem call_cellsX {A : Around} {s : Shared} {R : Result → Shared → Prop} {a : Addr} {o : Obj} {fd : FuncData} {body : List Stmt} {ar : Args} {binds : List (Str × Value)}
    (hroom : A.depth < recursionLimit) (ho : s.heap.get? a = some o) (hdata : o.data = .func fd) (hlim : s.heap.NoLimit) (hcd : s.heap.CodeRec fd.code fd.qualname)
    (hbody : fd.body = .stmts body) (hbind : BindsTo s fd ar binds) (hclo : fd.closure = [])
    (hkind : ∀ x ∈ binds, fd.scope.names.lookup x.1 = some .local ∨ (fd.scope.names.lookup x.1 = some .cell ∧ ((cellsFrom (s.heap.objs.size + 1) fd.scope.names []).lookup x.1).isSome = true))
    (h : ∀ s₁, InCallC s (callEnvC fd s.heap.objs.size a).locals (bindL (callEnvC fd s.heap.objs.size a).kindOf binds fun _ => none) (callEnvC fd s.heap.objs.size a).cells
        (bindC (callEnvC fd s.heap.objs.size a).kindOf binds fun _ => none) s₁ →
      wpAny (model prog w) (A.deeper (callEnvC fd s.heap.objs.size a)) (execs body (callEnvC fd s.heap.objs.size a)) (fun f s' => R (.ok (.ret (match f with | .ret v => v | _ => .none))) s')
        (fun e s' => wpAny (model prog w) (A.deeper (callEnvC fd s.heap.objs.size a)) (leaving (callEnvC fd s.heap.objs.size a) e) (fun _ s'' => R (.error e) s'') (fun e' s'' => R (.error e') s'') s') s₁)
    (hco : fd.scope.isCoroutine = false) (hgen : fd.scope.isGenerator = false) (hk : fd.scope.kind = .function) :
    codeAny (model prog w) A (.call (.ref a) ar) R s := by
  refine codeAny_call_function hroom ho hdata hco hgen hbody hcd ?_
  rw [hclo]
  refine hbind _ _ _ _ (wpAny_newFunctionEnv_cells hk hkind fun env he s' x => ?_)
  subst he
  exact ⟨hlim.keeps x.toInCall.keep, codeAny_func (h s' x)⟩
/-- what is raised leaves the frame on top -/
theorem px_leaving {M : Model} {A : Around} {env : Env} {l : List Env} {L : Addr} {own : Addr → Prop} {s s' : Shared} {σ : Hp} {K : V → Hp → Prop} {v : Value} {Q : Unit → Shared → Prop} {E : Value → Shared → Prop} (hfr : A.frames = some (env :: l)) (hf : env.frame = some L)
    (fs : Frs A h₀ σ s.heap) (px : PX A own h₀ σ s K v s') (q : ∀ (h' : Heap) (e : Addr) (cls : String) (words : Str) (σ' : Hp), v = .ref e → (cls = "TypeError" ∨ cls = "IndexError") → Fly l own h₀ σ s.heap cls words σ' e h' → Sm s s' → K (.exc cls words) σ' → Q () { s' with heap := h' }) :
    wpAny M A (leaving env v) Q E s' := by
  cases px with
  | made e cls words σ' h1 hc h2 h3 h4 =>
    subst h1
    obtain ⟨hr, tk, st, me⟩ := h2.go
    obtain ⟨l', el, all⟩ := (fs.step st).go
    rw [hfr] at el; cases el
    have inLs : ∀ en ∈ env :: l, ∀ L, en.frame = some L → L ∈ frameOfs (env :: l) := fun en m L eL => List.mem_filterMap.mpr ⟨en, m, eL⟩
    have hL : ∀ L ∈ frameOfs (env :: l), h₀.get? L = none ∧ σ' L = none ∧ ∃ o, hr.get? L = some o ∧ IsD o := fun L mL => by
      obtain ⟨en, m, eL⟩ := List.mem_filterMap.mp mL
      obtain ⟨_, L', e1, e2, e3, e4⟩ := all en m
      rw [eL] at e1; cases e1; exact ⟨e2, e3, e4⟩
    refine wpAny_leaves_madeW (base := hideAll (frameOfs (env :: l)) hr) hfr hf (fun b o q => (hideAll_some q).1) (funFrames fun en m => ?_) me fun h' t fl tu bt up => ?_
    · obtain ⟨k, L, e1, e2, e3, o, e4, e5⟩ := all en m
      exact ⟨k, L, e1, hideAll_in _ (inLs en m L e1), o, e4, e5⟩
    · refine q h' e cls words σ' rfl hc ⟨hr, tk, _, t, st, hL, bt, fl, tu, fun b o eb dd => up b o (me.keeps b o eb) fun vs q2 => ?_⟩ h3 h4
      obtain ⟨_, _, q⟩ := dd
      rw [q] at q2; cases q2
  | fly l' e cls words σ' h0 h1 hc h2 h3 h4 =>
    subst h1
    rw [hfr] at h0; cases h0
    obtain ⟨hr, tk, Ls, t, st, hL, bt, fl, tu, dd⟩ := h2.go
    refine wpAny_leaves_onW hfr hf fl fun h' fl' up => ?_
    refine q h' e cls words σ' rfl hc ⟨hr, tk, Ls, t, st, hL, bt, fl', tu.of_slots up, fun b o eb d => ?_⟩ h3 h4
    obtain ⟨sl, e1⟩ := dd b o eb d
    obtain ⟨sl2, e2⟩ := up b { o with slots := sl } e1 fun vs q2 => by
      obtain ⟨_, _, q⟩ := d
      have q2 : o.data = .fields vs := q2
      rw [q] at q2; cases q2
    exact ⟨sl2, e2⟩
/-- what a def of the text that may raise must be -/
structure DefOkX (h₀ : Heap) (fd : FuncData) (fns : List Str) (params : List Str) (body : List Stmt) (xs : List XS) : Prop where
  D : DefOk h₀ fd fns params body [PS.no]
  cs : CSXs { sc := fd.scope.names, fns := fns } body xs
theorem Fly.dropS {l : List Env} {own : Addr → Prop} {σ σ₁ σ' : Hp} {h h₁ h' : Heap} {cls : String} {words : Str} {e : Addr} (f : Fly l own h₀ σ₁ h₁ cls words σ' e h') (st : Step h₀ σ h σ₁ h₁) (no : ∀ a, own a → h.get? a = none) : Fly l nobody h₀ σ h cls words σ' e h' := by
  obtain ⟨hr, tk, Ls, t, a, b⟩ := f.go
  exact ⟨hr, tk, Ls, t, StepX.drop ((Step.any st).trans a) no, b⟩
theorem fd_okX (G : Gnd prog h₀ mg mb) (NM : NamesOk prog w h₀ mg n fns Φ) {fd : FuncData} {params : List Str} {body : List Stmt} {xs : List XS} (DX : DefOkX h₀ fd fns params body xs)
    (hcd : h₀.CodeRec fd.code fd.qualname) : FdOkX prog w h₀ (n + 1) fd (bodyX Φ { sc := fd.scope.names, fns := fns } params xs) := by
  intro A s σ fa o vargs args Q ho hd R fs hw ra ⟨hl, v⟩
  have D := DX.D
  have hlv : vargs.length = params.length := by rw [ra.length, hl]
  refine wpAny_call (call_cellsX (by have := R.depth; show A.depth < 1000; omega) ho hd (G.nolimit.keeps hw.stays) (hcd.keeps hw.stays) D.bdy (D.bind s hw.stays vargs hlv) D.clo (fun x hx => ?_) (fun s₁ ic => ?_) D.co D.gen D.kind)
  · have hm := (List.of_mem_zip hx).1
    rcases D.pk _ hm with q | q
    · exact .inl q
    · exact .inr ⟨q, cellsFrom_look _ _ _ (.inl q)⟩
  · have ko : ∀ b o, s.heap.get? b = some o → s₁.heap.get? b = some o := ic.toInCall.keep
    have fr := call_frame D (fa := fa) hw ra hl ic
    have st0 := hw.extend ko
    have m₁ : Sm s s₁ := by obtain ⟨h1, tk, e⟩ := ic.toInCall.same; rw [e]; exact ⟨rfl, rfl⟩
    obtain ⟨env, l, e0, _⟩ := R.env
    have hfr' : (A.deeper (callEnvC fd s.heap.objs.size fa)).frames = some (callEnvC fd s.heap.objs.size fa :: env :: l) := by
      show A.frames.map _ = _
      rw [e0]; rfl
    have R' : Room (A.deeper (callEnvC fd s.heap.objs.size fa)) n :=
      ⟨R.handled, by have := R.depth; show A.depth + 1 + n ≤ 800; omega, by have := R.units; show A.units + 3 + 8 * n + 5 ≤ 9000; omega, ⟨callEnvC fd s.heap.objs.size fa, env :: l, hfr', D.gen, D.co, D.bi, D.glob⟩⟩
    have fs1 := frs_call D (fa := fa) fs st0 (hw.fresh (get_push_none _)) (beside_one hw (get_push_none _)).2.2 ic.toInCall.ns
    refine wpAny_mono (DX.cs ⟨G, NM, R', st0.w, fr, fs1⟩ (frs_top fs) PassesOwn.leaving (fun y s' px => px_leaving hfr' rfl fs1 px fun h' e cls words σ' e1 hc fl sm k => ?_) v) (fun f s' ⟨fl, F', σ', rf, ⟨st, m₂⟩, fr', q⟩ => ?_) fun _ _ f => f
    · exact .fly (env :: l) e cls words σ' e0 e1 hc (fl.dropS st0 fun a q => q.1) (m₁.trans sm) k
    have all : Step h₀ σ s.heap σ' s'.heap := StepX.drop ((Step.any st0).trans st) fun a q => q.1
    cases f with
    | next =>
      cases fl with
      | next => exact ⟨.none, σ', .none, ⟨all, m₁.trans m₂⟩, trivial, q⟩
      | _ => exact rf.elim
    | brk =>
      cases fl with
      | brk => exact q.elim
      | _ => exact rf.elim
    | cont =>
      cases fl with
      | cont => exact q.elim
      | _ => exact rf.elim
    | ret v =>
      cases fl with
      | ret x => exact ⟨x, σ', rf, ⟨all, m₁.trans m₂⟩, q⟩
      | _ => exact rf.elim
theorem fn_okX (G : Gnd prog h₀ mg mb) (NM : NamesOk prog w h₀ mg n fns Φ) {fd : FuncData} {params : List Str} {body : List Stmt} {xs : List XS} (D : DefOkX h₀ fd fns params body xs) {fa : Addr} {o : Obj} (ho : h₀.get? fa = some o) (hd : o.data = .func fd)
    (hcd : h₀.CodeRec fd.code fd.qualname) : FnOkX prog w h₀ (n + 1) (.ref fa) (bodyX Φ { sc := fd.scope.names, fns := fns } params xs) := ⟨fa, o, fd, rfl, ho, hd, fd_okX G NM D hcd⟩
theorem FnOkX.mono {fv : Value} {Φ₁ Φ₂ : List V → (V → Hp → Prop) → Hp → Prop} {n m : Nat} (h : FnOkX prog w h₀ n fv Φ₁) (hm : n ≤ m) (i : ∀ args Q σ, Φ₂ args Q σ → Φ₁ args Q σ) : FnOkX prog w h₀ m fv Φ₂ := by
  obtain ⟨fa, o, fd, e, a, b, call⟩ := h
  exact ⟨fa, o, fd, e, a, b, fun A s σ fa o vals args Q ho hd R fs hw ra v => call A s σ fa o vals args Q ho hd (R.le hm) fs hw ra (i _ _ _ v)⟩
theorem FnOkX.false {fa : Addr} {o : Obj} {fd : FuncData} (ho : h₀.get? fa = some o) (hd : o.data = .func fd) : FnOkX prog w h₀ n (.ref fa) (fun _ _ _ => False) :=
  ⟨fa, o, fd, rfl, ho, hd, fun _ _ _ _ _ _ _ _ _ _ _ _ _ _ f => f.elim⟩
end

/-! E5 -/
/-! what is raised is caught -/
section
variable {prog : Program} {w : World} {h₀ : Heap} {A : Around} {c : Cfg} {env : Env} {own : Addr → Prop} {F : Frm} {σ : Hp} {s : Shared}
/-- a caught one: the step that has been made, and what it bears -/
theorem Fly.step {l : List Env} {h h' : Heap} {cls : String} {words : Str} {σ' : Hp} {e : Addr} (hc : cls = "TypeError" ∨ cls = "IndexError") (f : Fly l own h₀ σ h cls words σ' e h') : StepX own h₀ σ h σ' h' ∧ Rep h' (.ref e) (.exc cls words) := by
  obtain ⟨hr, tk, Ls, t, st, hL, bt, fl, tu, dd⟩ := f.go
  refine ⟨st.trans (Step.any (quiet_step st.w hL fl.1 dd)), ?_⟩
  obtain ⟨oe, vs, e1, e2, e3, e4⟩ := fl.first
  obtain ⟨o, n, t1, t2, t3⟩ := tu
  exact .exc e1 ⟨e2, hc⟩ ⟨e3, e4⟩ ⟨o, t1, t2, n, t3⟩
/-- the frame on top looks at what is raised -/
theorem px_look {M : Model} {l : List Env} {L : Addr} {s' : Shared} {K : V → Hp → Prop} {v : Value} {Q : Unit → Shared → Prop} {E : Value → Shared → Prop} (hfr : A.frames = some (env :: l)) (hf : env.frame = some L)
    (fs : Frs A h₀ σ s.heap) (px : PX A own h₀ σ s K v s') (q : ∀ (h' : Heap) (e : Addr) (cls : String) (words : Str) (σ' : Hp), v = .ref e → (cls = "TypeError" ∨ cls = "IndexError") → Fly (env :: l) own h₀ σ s.heap cls words σ' e h' → Sm s s' → K (.exc cls words) σ' → Q () { s' with heap := h' }) :
    wpAny M A (noteFrame v env) (fun _ s₂ => wpAny M A (setFlight v none) Q E s₂) E s' := by
  cases px with
  | made e cls words σ' h1 hc h2 h3 h4 =>
    subst h1
    obtain ⟨hr, tk, st, me⟩ := h2.go
    obtain ⟨l', el, all⟩ := (fs.step st).go
    rw [hfr] at el; cases el
    have inLs : ∀ en ∈ env :: l, ∀ L, en.frame = some L → L ∈ frameOfs (env :: l) := fun en m L eL => List.mem_filterMap.mpr ⟨en, m, eL⟩
    have hL : ∀ L ∈ frameOfs (env :: l), h₀.get? L = none ∧ σ' L = none ∧ ∃ o, hr.get? L = some o ∧ IsD o := fun L mL => by
      obtain ⟨en, m, eL⟩ := List.mem_filterMap.mp mL
      obtain ⟨_, L', e1, e2, e3, e4⟩ := all en m
      rw [eL] at e1; cases e1; exact ⟨e2, e3, e4⟩
    obtain ⟨t, he, htn, ht⟩ := me.there
    have back : ∀ b, hr.get? b = none → (hideAll (frameOfs (env :: l)) hr).get? b = none := fun b hb => by
      cases q : (hideAll (frameOfs (env :: l)) hr).get? b with
      | none => rfl
      | some o => have := (hideAll_some q).1; rw [hb] at this; cases this
    have fr : s'.heap.FunFrames (hideAll (frameOfs (env :: l)) hr) (env :: l) := funFrames fun en m => by
      obtain ⟨k, L, e1, e2, e3, o, e4, e5⟩ := all en m
      exact ⟨k, L, e1, hideAll_in _ (inLs en m L e1), o, me.keeps _ _ e4, e5⟩
    unfold noteFrame
    simp only [hf]
    refine wpAny_bind (wpAny_field he rfl (x := .none) rfl ?_)
    rw [if_neg (by decide)]
    refine wpAny_entryW (a0 := .ref t) hfr fr hf he (fun b o q => me.keeps b o (hideAll_some q).1) (back e me.new) rfl (by simp) rfl fun h2 ⟨k1, k2, k3, k4⟩ => ?_
    refine wpAny_landsW (base := hideAll (frameOfs (env :: l)) hr) (l := env :: l) (L := L) (cls := .type cls) (a0 := .ref t) ⟨k1, back e me.new, k2, k3⟩ fun h3' fl up => ?_
    have up2 : s'.heap.UpToSlots h3' := Heap.UpToSlots.trans k4 up
    have tu : s'.heap.TupAt t [.str words tk] := ⟨_, _, ht, rfl, rfl⟩
    refine q h3' e cls words σ' rfl hc ⟨hr, tk, _, t, st, hL, back t htn, fl, tu.of_slots up2, fun b o eb dd => up2 b o (me.keeps b o eb) fun vs q2 => ?_⟩ h3 h4
    obtain ⟨_, _, q⟩ := dd
    rw [q] at q2; cases q2
  | fly l' e cls words σ' h0 h1 hc h2 h3 h4 =>
    subst h1
    rw [hfr] at h0; cases h0
    obtain ⟨hr, tk, Ls, t, st, hL, bt, fl, tu, dd⟩ := h2.go
    refine wpAny_looks_onW hfr hf fl fun h2' hh up => ?_
    refine wpAny_landsW hh fun h3' fl' up' => ?_
    have up2 := up.trans up'
    refine q h3' e cls words σ' rfl hc ⟨hr, tk, Ls, t, st, hL, bt, fl', tu.of_slots up2, fun b o eb d => ?_⟩ h3 h4
    obtain ⟨sl, e1⟩ := dd b o eb d
    obtain ⟨sl2, e2⟩ := up2 b { o with slots := sl } e1 fun vs q2 => by
      obtain ⟨_, _, q⟩ := d
      have q2 : o.data = .fields vs := q2
      rw [q] at q2; cases q2
    exact ⟨sl2, e2⟩
/-- once more, as the handler is entered -/
theorem fly_again {M : Model} {l : List Env} {s' : Shared} {h : Heap} {cls : String} {words : Str} {σ' : Hp} {e : Addr} {Q : Unit → Shared → Prop} {E : Value → Shared → Prop} (f : Fly l own h₀ σ h cls words σ' e s'.heap) (q : ∀ h', Fly l own h₀ σ h cls words σ' e h' → Q () { s' with heap := h' }) : wpAny M A (setFlight (.ref e) none) Q E s' := by
  obtain ⟨hr, tk, Ls, t, st, hL, bt, fl, tu, dd⟩ := f.go
  refine lands_againW fl fun h' fl' up => q h' ⟨hr, tk, Ls, t, st, hL, bt, fl', tu.of_slots up, fun b o eb d => ?_⟩
  obtain ⟨sl, e1⟩ := dd b o eb d
  obtain ⟨sl2, e2⟩ := up b { o with slots := sl } e1 fun vs q2 => by
    obtain ⟨_, _, q⟩ := d
    have q2 : o.data = .fields vs := q2
    rw [q] at q2; cases q2
  exact ⟨sl2, e2⟩
/-- a name goes -/
theorem FrOk.goes {M : Model} {E : Value → Shared → Prop} (f : FrOk c env own F h₀ σ s.heap) (hw : W h₀ σ s.heap) {i : Nat} {x : Str} {pos : Pos} (e : c.names[i]? = some x) (k0 : c.sc.lookup x = some .local)
    {Q : Unit → Shared → Prop} (q : ∀ s', Sm s s' → StepX own h₀ σ s.heap σ s'.heap → FrOk c env own (F.set i none) h₀ σ s'.heap → Q () s') : wpAny M A (do bindName env x .none; unbindBehindTheSuite env x pos) Q E s := by
  have k : env.kindOf x = some .local := by
    rcases f.vk i x e with ⟨_, k⟩ | ⟨q, _⟩ | ⟨q, _⟩
    · exact k
    all_goals rw [k0] at q; cases q
  have same : ∀ (j : Nat) (u : V), (F.set i none)[j]? = some (some u) → j ≠ i ∧ F[j]? = some (some u) := fun j u e2 => by
    by_cases q : j = i
    · subst q
      rw [List.getElem?_set_self'] at e2
      cases q2 : F[j]? with
      | none => rw [q2] at e2; cases e2
      | some z => rw [q2] at e2; simp at e2
    · rw [List.getElem?_set_ne (fun h => q h.symm)] at e2; exact ⟨q, e2⟩
  obtain ⟨m, n, r⟩ := f.ns
  refine wpAny_nameGoes_keeps k n (by rw [f.kind]; rfl) fun h' v n' sb => ?_
  have st : StepX own h₀ σ s.heap σ h' := own_step hw f.loc.1 f.loc.2.1 f.loc.2.2 sb (ns_not_imm n) (fun o _ => by obtain ⟨o', es, ep, ho, hd, _⟩ := n'; exact ⟨o', ho, fun _ => ⟨_, _, hd⟩⟩)
  refine q _ ⟨Eq.refl _, Eq.refl _⟩ st ⟨f.kind, f.glob, f.bi, f.gk, f.vk, ⟨_, n', fun j y u e1 e2 e3 => ?_⟩, fun j y e1 e2 => ?_, f.inj, f.loc, f.nd, fun a oa => (f.ex a oa).elim fun o e => (st.alive a o e).imp fun _ q => q.1⟩
  · obtain ⟨hj, e3⟩ := same j u e3
    obtain ⟨w, e4, e5⟩ := r j y u e1 e2 e3
    refine ⟨w, ?_, e5.step st⟩
    show (if y = x then v else m y) = some w
    rw [if_neg (by rintro rfl; exact hj (f.nd _ _ _ e1 e))]; exact e4
  · obtain ⟨a, cv, g1, g2, g3, g4, g5, g6⟩ := f.cell j y e1 e2
    refine ⟨a, cv, g1, g2.sameBut sb g4, g3, g4, g5, fun u hu => ?_⟩
    obtain ⟨w, q1, q2⟩ := g6 u (same j u hu).2
    exact ⟨w, q1, q2.step st⟩
end

/-! E6 -/
theorem type_boots {cls : String} (h : cls = "TypeError" ∨ cls = "IndexError") : bootBuiltins (Str.ofString cls) = some (.type cls) ∧ (Str.ofString cls == ("__debug__" : Str)) = false ∧ Str.ofString cls ∈ freeNames ∧ Str.ofString cls ≠ "__name__" := by
  rcases h with rfl | rfl
  · exact ⟨by decide +kernel, by decide, by decide +kernel, by decide⟩
  · exact ⟨by decide +kernel, by decide, by decide +kernel, by decide⟩
theorem type_subs {cls : String} (h : cls = "TypeError" ∨ cls = "IndexError") : isSubtype (.type cls) (.type "BaseException") = pure true ∧ isSubtype (.type ((Manifest.find? cls).elim "type" fun x => x.metatype)) (.type "tuple") = pure false ∧ isSubtype (.type cls) (.type cls) = pure true := by
  rcases h with rfl | rfl
  · exact ⟨by rw [isSubtype_type]; kernel_rfl, by rw [isSubtype_type]; kernel_rfl, by rw [isSubtype_type]; kernel_rfl⟩
  · exact ⟨by rw [isSubtype_type]; kernel_rfl, by rw [isSubtype_type]; kernel_rfl, by rw [isSubtype_type]; kernel_rfl⟩
section
variable {prog : Program} {w : World} {h₀ : Heap} {mg mb : Str → Option Value} {Φ : Fns} {n : Nat} {A : Around} {c : Cfg} {env : Env} {own : Addr → Prop} {F : Frm} {σ : Hp} {s : Shared}
/-- a handler of one class, by name -/
theorem catch_as {cls : String} {K : V → Hp → Prop} {v : Value} {s' : Shared} {np pos : Pos} {x : Str} {i : Nat} {b₀ : Stmt} {suite : List Stmt} {Q : Flow → Shared → Prop} {E : Value → Shared → Prop} (X : Here prog w h₀ mg mb Φ n c A s σ env own F) (T : OnTop A env)
    (hx : c.names[i]? = some x) (k0 : c.sc.lookup x = some .local) (hc : cls = "TypeError" ∨ cls = "IndexError") (hg : c.sc.lookup (Str.ofString cls) = some .globalImplicit) (hk : ∀ c w σ, K (.exc c w) σ → c = cls) (px : PX A nobody h₀ σ s K v s')
    (q : ∀ (s₃ : Shared) (e : Addr) (words : Str) (σ' : Hp), W h₀ σ' s₃.heap → FrOk c env own (F.set i (some (.exc cls words))) h₀ σ' s₃.heap → StepX own h₀ σ s.heap σ' s₃.heap → Sm s s₃ → K (.exc cls words) σ' →
      wpAny (model prog w) (A.mark (some (.ref e))) (execs (b₀ :: suite) env) (fun f s₄ => wpAny (model prog w) A (do bindName env x .none; unbindBehindTheSuite env x pos) (fun _ s₅ => Q f s₅) E s₄) E0 s₃) :
    wpAny (model prog w) A (noteFrame v env) (fun _ s₂ => wpAny (model prog w) A (setFlight v none) (fun _ s₃ => wpAny (model prog w) A (handleBy v env [.ExceptHandler (some (.Name (Str.ofString cls) np)) (some x) (b₀ :: suite) pos]) Q E s₃) E s₂) E s' := by
  obtain ⟨l, hfr⟩ := T
  obtain ⟨l', el, all⟩ := X.fs.go
  rw [hfr] at el; cases el
  obtain ⟨_, L, hf, _⟩ := all env (.head _)
  refine px_look hfr hf X.fs px fun h1 e cls' words σ' e1 hc' fl sm k => ?_
  obtain rfl := hk _ _ _ k
  subst e1
  obtain ⟨t1, t2, t3⟩ := type_subs hc
  obtain ⟨g1, g2, g3, g4⟩ := type_boots hc
  obtain ⟨st1, rp1⟩ := fl.step hc
  have sub : ∀ {E' : Value → Shared → Prop} (e : Value) (s : Shared), E0 e s → E' e s := fun _ _ f => f.elim
  refine wpAny_handleBy_builtin_as t1 t2 t3 (load_glob X.G st1.w (X.f.step st1) hg g2 (.inr ⟨X.NM.fr _ g3, (X.G.boot _ g4).trans g1⟩) ⟨rfl, ?_, ?_⟩)
  · obtain ⟨a, t, o, vs, tk, ea, eo, ⟨ec, _⟩, _⟩ := rp1.iexc
    cases ea
    exact ⟨o, eo, ec⟩
  rw [if_pos rfl]
  refine fly_again (s' := { s' with heap := h1 }) fl fun h2 fl2 => ?_
  obtain ⟨st2, rp2⟩ := fl2.step hc
  have f2 := X.f.step st2
  refine FrOk.store (s := { s' with heap := h2 }) f2 st2.w hx (by rw [k0]; simp) rp2 fun s₃ m3 st3 f3 => ?_
  refine wpAny_mono (q s₃ e words σ' st3.w f3 ((Step.any st2).trans st3) (sm.trans (Sm.trans ⟨rfl, rfl⟩ m3)) k) (fun _ _ h => h) fun e s f => f.elim

theorem exc_str {cls : String} {words : Str} {v : Value} {Q : Value → Shared → Prop} {E : Value → Shared → Prop} (hc : cls = "TypeError" ∨ cls = "IndexError") (hu : A.units + 2 < cLine) (r : Rep s.heap v (.exc cls words)) (q : ∀ tk, Q (.str words tk) s) : wpAny (model prog w) A (call (.type "str") [v]) Q E s := by
  obtain ⟨a, t, o, vs, tk, rfl, eo, ⟨ec, _⟩, ⟨ed, e0⟩, o2, t1, t2, k, t3⟩ := r.iexc
  rcases hc with rfl | rfl
  · exact P.str_of_exc_one PySem.F.excStr_TypeError hu ⟨o, vs, eo, ec, ed, e0⟩ ⟨o2, k, t1, t2, t3⟩ (q tk)
  · exact P.str_of_exc_one PySem.F.excStr_IndexError hu ⟨o, vs, eo, ec, ed, e0⟩ ⟨o2, k, t1, t2, t3⟩ (q tk)
/-- str(fault) -/
theorem eval_str {fn : Str} {j : Nat} {cls : String} {words : Str} {p3 p4 p5 : Pos} {hd : Option Value} {Q : Value → Shared → Prop} {E : Value → Shared → Prop} (G : Gnd prog h₀ mg mb) (fr : ∀ x ∈ freeNames, mg x = none) (hu : A.units + 2 < cLine) (hw : W h₀ σ s.heap) (f : FrOk c env own F h₀ σ s.heap) (hn : c.names[j]? = some fn) (hd1 : (fn == ("__debug__" : Str)) = false) (hd2 : (fn == ("__classdict__" : Str)) = false) (ks : c.sc.lookup ("str" : Str) = some .globalImplicit)
    (hc : cls = "TypeError" ∨ cls = "IndexError") (hv : F[j]? = some (some (.exc cls words))) (q : ∀ tk, Q (.str words tk) s) : wpAny (model prog w) (A.mark hd) (eval (.Call (.Name "str" p3) [.Name fn p4] [] p5) env) Q E s := by
  refine Call_Name rfl (load_glob G hw f ks (by decide) (.inr ⟨fr _ (by decide +kernel), (G.boot _ (by decide)).trans (BI.boot .str)⟩) ?_)
  have hces : CEs c [.Name fn p4] [.var j] := .cons (CE.var hn hd1 hd2) .nil (fun _ => rfl)
  refine callee_bi (f := .str) hces (Calls.spliced_cons (wpAny_Name (f.load hn hv hd2 fun va ra => Calls.spliced_nil ?_) hd1))
  exact exc_str hc hu ra q
end
noncomputable def PS.tryA (i j : Nat) (x : XE) : PS := fun Φ R F σ => x Φ (fun v σ => R .next (F.set i (some v)) σ) (fun v σ => ∃ w, v = .exc "TypeError" w ∧ j < F.length ∧ R .next (((F.set j (some (.exc "TypeError" w))).set i (some (.str w))).set j none) σ) F σ
theorem CS.tryA {c : Cfg} {wn fn : Str} {i j : Nat} {e : Expr} {x : XE} {q1 q2 p1 p2 p3 p4 p5 p6 p7 p8 : Pos} (hw : c.names[i]? = some wn) (nfw : c.sc.lookup wn ≠ some .free) (hn : c.names[j]? = some fn) (kn : c.sc.lookup fn = some .local) (hd1 : (fn == ("__debug__" : Str)) = false) (hd2 : (fn == ("__classdict__" : Str)) = false)
    (kt : c.sc.lookup (Str.ofString "TypeError") = some .globalImplicit) (ks : c.sc.lookup ("str" : Str) = some .globalImplicit) (he : CEX c e x) (hs : ∀ env, swapsWith e (some (.Name wn q1)) p1.line env = pure false) (hs2 : ∀ env, swapsWith (.Call (.Name "str" p3) [.Name fn p4] [] p5) (some (.Name wn q2)) p6.line env = pure false) :
    CS c (.Try [.Assign [.Name wn q1] e p1] [.ExceptHandler (some (.Name (Str.ofString "TypeError") p2)) (some fn) [.Assign [.Name wn q2] (.Call (.Name "str" p3) [.Name fn p4] [] p5) p6] p7] [] [] p8) (.tryA i j x) := by
  intro prog w h₀ mg mb Φ n A s σ env own F Q X T v
  refine wpAny_Try_except (wpAny_execs_cons (wpAny_Assign_Name (wpAny_mono (he X v) (fun y s₁ => PV.on fun z σ₁ rz st m₁ q => ?_) fun y s' px => ?_) (hs env)))
  · refine (X.f.step st).store st.w hw nfw rz fun s' m' st' hf' => ?_
    exact wpAny_execs_nil (wpAny_execs_nil (.next ((Step.any st).trans st') (m₁.trans m') hf' q))
  · refine catch_as X T hn kn (.inl rfl) kt (fun c w σ h => by obtain ⟨w', e, _⟩ := h; cases e; rfl) px fun s₃ e words σ' w3 f3 st3 m3 k => ?_
    obtain ⟨w', ew, hj, k⟩ := k
    cases ew
    have hu : A.units + 2 < cLine := by have := X.R.units; show A.units + 2 < 9900; omega
    refine wpAny_execs_cons (wpAny_Assign_Name (eval_str X.G X.NM.fr hu w3 f3 hn hd1 hd2 ks (.inl rfl) (List.getElem?_set_self hj) fun tk => ?_) (hs2 env))
    refine f3.store w3 hw nfw (.str _ _) fun s4 m4 st4 f4 => wpAny_execs_nil ?_
    exact f4.goes st4.w hn kn fun s5 m5 st5 f5 => .next ((st3.trans st4).trans st5) ((m3.trans m4).trans m5) f5 k
/-- the try whose handler answers -/
noncomputable def PS.tryR (j k1 k2 : Nat) (txt : Str) (x : XE) : PS := fun Φ R F σ => x Φ (fun v σ => R .next F σ) (fun v σ => v = .exc "IndexError" txt ∧ j < F.length ∧ k1 ≠ j ∧ k2 ≠ j ∧ ∃ a b d e, F[k1]? = some (some a) ∧ F[k2]? = some (some b) ∧ Dat σ a d ∧ Dat σ b e ∧ d.depth ≤ 60 ∧ R (.ret (.bool (PyData.eqv d e))) ((F.set j (some (.exc "IndexError" txt))).set j none) σ) F σ
theorem CS.tryR {c : Cfg} {fn a b : Str} {j k1 k2 kk : Nat} {txt : Str} {e : Expr} {x : XE} {p1 p2 p3 p4 p5 p6 p7 p8 p9 p10 p11 p12 p13 p14 : Pos} (hn : c.names[j]? = some fn) (kn : c.sc.lookup fn = some .local) (hd1 : (fn == ("__debug__" : Str)) = false) (hd2 : (fn == ("__classdict__" : Str)) = false)
    (ha : c.names[k1]? = some a) (ha1 : (a == ("__debug__" : Str)) = false) (ha2 : (a == ("__classdict__" : Str)) = false) (hb : c.names[k2]? = some b) (hb1 : (b == ("__debug__" : Str)) = false) (hb2 : (b == ("__classdict__" : Str)) = false)
    (kt : c.sc.lookup (Str.ofString "IndexError") = some .globalImplicit) (ks : c.sc.lookup ("str" : Str) = some .globalImplicit) (he : CEX c e x) (hs : ∀ env, swapsWith e none p1.line env = pure false) :
    CS c (.Try [.Expr e p1] [.ExceptHandler (some (.Name (Str.ofString "IndexError") p2)) (some fn) [.Return (some (.BoolOp .And [.Compare (.Call (.Name "str" p3) [.Name fn p4] [] p5) [.Eq] [.Constant (.str txt) kk p6] p7, .Compare (.Name a p8) [.Eq] [.Name b p9] p10] p11)) p12] p13] [] [] p14) (.tryR j k1 k2 txt x) := by
  intro prog w h₀ mg mb Φ n A s σ env own F Q X T v
  refine wpAny_Try_except (wpAny_execs_cons (wpAny_Expr_any (wpAny_mono (he X v) (fun y s₁ => PV.on fun z σ₁ rz st m₁ q => ?_) fun y s' px => ?_) ?_ (hs env)))
  · exact wpAny_execs_nil (wpAny_execs_nil (.next (Step.any st) m₁ (X.f.step st) q))
  · refine catch_as X T hn kn (.inr rfl) kt (fun c w σ h => by cases h.1; rfl) px fun s₃ e words σ' w3 f3 st3 m3 k => ?_
    obtain ⟨ew, hj, n1, n2, va, vb, da, db, e1, e2, d1, d2, hdp, k⟩ := k
    cases ew
    have hu : A.units + 2 < cLine := by have := X.R.units; show A.units + 2 < 9900; omega
    refine wpAny_execs_cons (wpAny_Return_some (PyProof.Rows.BoolOp_and (wpAny_Compare1 (eval_str X.G X.NM.fr hu w3 f3 hn hd1 hd2 ks (.inr rfl) (List.getElem?_set_self hj) fun tk => Calls.Constant_str ?_) rfl)))
    refine PyProof.Rows.eq_str (wpAny_truthy_bool ?_)
    rw [if_pos (beq_self_eq_true txt)]
    refine BoolOp_one (wpAny_Compare1 (wpAny_Name (FrOk.load (s := { s₃ with toks := s₃.toks + 1 }) f3 ha ((List.getElem?_set_ne (Ne.symm n1)).trans e1) ha2 fun wa ra => wpAny_Name (FrOk.load (s := { s₃ with toks := s₃.toks + 1 }) f3 hb ((List.getElem?_set_ne (Ne.symm n2)).trans e2) hb2 fun wb rb => ?_) hb1) ha1) rfl)
    obtain ⟨as, r1⟩ := d1.reads w3 ra
    obtain ⟨bs, r2⟩ := d2.reads w3 rb
    refine SeqAt.compareEq_reads (s := { s₃ with toks := s₃.toks + 1 }) r1 r2 d1.lay d2.lay (by have := X.R.units; show A.units + _ < 9900; omega) ?_
    refine FrOk.goes (s := { s₃ with toks := s₃.toks + 1 }) f3 w3 hn kn fun s5 m5 st5 f5 => ⟨.ret (.bool (PyData.eqv da db)), _, σ', .bool _, ⟨st3.trans st5, m3.trans (Sm.trans ⟨rfl, rfl⟩ m5)⟩, f5, k⟩
  · unfold interactive; rw [X.f.kind]; rfl

/-! M17 -/
section
variable {prog : Program} {w : World} {h₀ : Heap} {mg mb : Str → Option Value} {Φ : Fns} {n : Nat} {fns : List Str}

/-- the law's own call -/
theorem law_code (G : Gnd prog h₀ mg mb) (NM : NamesOk prog w h₀ mg n fns Φ) (hn : n ≤ 400) {fd : FuncData} {params : List Str} {body : List Stmt} {ps : List PS} (D : DefOk h₀ fd fns params body ps) {fa : Addr} {o : Obj} (ho : h₀.get? fa = some o) (hd : o.data = .func fd)
    (hcd : h₀.CodeRec fd.code fd.qualname) {s : Shared} {σ : Hp} {vargs : List Value} {args : List V} {Q : V → Hp → Prop} (hw : W h₀ σ s.heap) (ra : Reps s.heap vargs args) (v : bodyV Φ { sc := fd.scope.names, fns := fns } params ps args Q σ)
    {R : Result → Shared → Prop} (hR : ∀ x s', PV h₀ σ s Q x s' → R (.ok (.ret x)) s') : codeAny (model prog w) callerA (.call (.ref fa) ⟨vargs, []⟩) R s := by
  obtain ⟨hl, v⟩ := v
  have hlv : vargs.length = params.length := by rw [ra.length, hl]
  refine call_cells (by decide) (hw.stays _ _ ho) hd (G.nolimit.keeps hw.stays) (hcd.keeps hw.stays) D.bdy (D.bind s hw.stays vargs hlv) D.clo (fun x hx => ?_) (fun s₁ ic => ?_) D.co D.gen D.kind
  · have hm := (List.of_mem_zip hx).1
    rcases D.pk _ hm with q | q
    · exact .inl q
    · exact .inr ⟨q, cellsFrom_look _ _ _ (.inl q)⟩
  · have ko : ∀ b o, s.heap.get? b = some o → s₁.heap.get? b = some o := ic.toInCall.keep
    have fr := call_frame D (fa := fa) hw ra hl ic
    have st0 := hw.extend ko
    have m₁ : Sm s s₁ := by obtain ⟨h1, tk, e⟩ := ic.toInCall.same; rw [e]; exact ⟨rfl, rfl⟩
    have R' : Room (callerA.deeper (callEnvC fd s.heap.objs.size fa)) n := by
      refine ⟨rfl, ?_, ?_, ⟨callEnvC fd s.heap.objs.size fa, [], rfl, D.gen, D.co, D.bi, D.glob⟩⟩
      · show 1 + 300 + 1 + n ≤ 800; omega
      · show 4 + 3 + 8 * n + 5 ≤ 9000; omega
    refine wpAny_mono (D.cs ⟨G, NM, R', st0.w, fr, ⟨[callEnvC fd s.heap.objs.size fa], rfl, fun env me => by
      obtain rfl := List.mem_singleton.mp me
      obtain ⟨o, es, ep, ho, hd, _⟩ := ic.toInCall.ns
      exact ⟨by rw [show (callEnvC fd s.heap.objs.size fa).scope.kind = .function from D.kind]; decide, _, rfl, (beside_one hw (get_push_none _)).2.2, hw.fresh (get_push_none _), o, ho, _, _, hd⟩⟩⟩ ⟨[], rfl⟩ v) (fun f s' ⟨fl, F', σ', rf, ⟨st, m₂⟩, fr', q⟩ => ?_) fun _ _ f => f
    have all : Step h₀ σ s.heap σ' s'.heap := StepX.drop ((Step.any st0).trans st) fun a q => q.1
    cases f with
    | next =>
      cases fl with
      | next => exact hR _ _ ⟨.none, σ', .none, ⟨all, m₁.trans m₂⟩, q⟩
      | _ => exact rf.elim
    | brk =>
      cases fl with
      | brk => exact q.elim
      | _ => exact rf.elim
    | cont =>
      cases fl with
      | cont => exact q.elim
      | _ => exact rf.elim
    | ret v =>
      cases fl with
      | ret x => exact hR _ _ ⟨x, σ', rf, ⟨all, m₁.trans m₂⟩, q⟩
      | _ => exact rf.elim

/-- the script lies in the ground -/
noncomputable def scriptHp (l : Addr) (ns : List Int) : Hp := fun a => if a = l then some (.flist (ns.map .int)) else none
theorem script_w {l : Addr} {vs : List Value} {ns : List Int} (hl : h₀.IsList l vs.toArray) (hi : IntsAre vs ns) (hb : ns.length ≤ 63) : W h₀ (scriptHp l ns) h₀ := by
  refine ⟨fun _ _ e => e, fun a o e => ?_, fun a ⟨o, e, m⟩ => ?_, fun a o e => ?_⟩
  · unfold scriptHp at e; split at e
    · rename_i q; subst q; cases e
      refine ⟨vs, hl, ?_⟩
      clear hl hb
      induction hi with
      | nil => exact .nil
      | cons n t _ ih => exact .cons (.int _ _) ih
    · cases e
  · unfold scriptHp at e; split at e
    · cases e; cases m
    · cases e
  · unfold scriptHp at e; split at e
    · cases e; show (ns.map V.int).length ≤ BIG; simp; unfold BIG; omega
    · cases e

theorem ground_of {p : Program} {loose : List Str} {mean : ExcName → Option Value} {h : Heap} (T : Top p loose mean mg mb h) (hi : importsNone p = true) (ht : prog.given.tree = none) : Gnd prog h mg mb :=
  ⟨T.g, T.b, T.nolimit, T.seer hi, ht, T.builtins⟩
end

/-! Lt1 -/
section
open PySem PySem.W PyProof.Rows PySem.SeqAt PySem.MeetsSeq PySem.MeetsSeq2 PySem.MeetsSeq3 PySem.SeqRoads2
open PySem.AutoSeq1 (wpAny_loadPart')
noncomputable def LtAt (A : Around) (s : Shared) (y x : Value) (b : Bool) : Prop :=
  ∀ (prog : Program) (w : World) (E : Value → Shared → Prop) (Q : Value → Shared → Prop), Q (.bool b) s → wpAny (model prog w) A (richCompare .Lt y x) Q E s
inductive LexAt (A : Around) (s : Shared) : List Value → List Value → Bool → Prop
  | nil (ys : List Value) : LexAt A s [] ys (decide (0 < ys.length))
  | short (x : Value) (xs : List Value) : LexAt A s (x :: xs) [] false
  | eq {x y : Value} {xs ys : List Value} {r : Bool} : EqAt A s x y true → LexAt A s xs ys r → LexAt A s (x :: xs) (y :: ys) r
  | lt {x y : Value} {xs ys : List Value} {r : Bool} : EqAt A s x y false → LtAt A s x y r → LexAt A s (x :: xs) (y :: ys) r
theorem tuple_ltAt (l b : Addr) (items items2 : Array Value) (n n2 : Nat) (dd dd2 : Option Addr) (sl sl2 : Array (Option Value)) (r : Bool) :
    Meets (Builtin.«tuple.__lt__» ⟨[.ref l, .ref b], []⟩)
      (fun A R s => s.heap.get? l = some { cls := .type "tuple", dict := dd, data := .seq items n, slots := sl } ∧ s.heap.get? b = some { cls := .type "tuple", dict := dd2, data := .seq items2 n2, slots := sl2 } ∧
        LexAt A.in1 s items.toList items2.toList r ∧ R (.ok (.ret (.bool r))) s) :=
  .of_wp fun prog w A R s h => by
    obtain ⟨hp, g, d, tk, os⟩ := s; obtain ⟨hl, hb, hx, h⟩ := h
    have f2 := AutoSeq1.sub_tuple_tuple
    wp_walk using wpAny_loadPart' hl, wpAny_loadPart' hb, wpAny_forIn_list _ (fun rest b s' => b.1 = none ∧ s' = ⟨hp, g, d, tk, os⟩ ∧ ∃ xs ys, rest = xs.zip ys ∧ items.size + ys.length = items2.size + xs.length ∧ LexAt A.in1 ⟨hp, g, d, tk, os⟩ xs ys r) _
    case turn =>
      rintro ⟨y, x⟩ rest b s' ⟨hb', rfl, xs, ys, hz, hsz, lx⟩
      cases lx with
      | nil => simp at hz
      | short => simp at hz
      | eq he lx =>
        simp only [List.zip_cons_cons, List.cons.injEq, Prod.mk.injEq] at hz
        obtain ⟨⟨rfl, rfl⟩, rfl⟩ := hz
        refine wpAny_bind (he prog w _ _ ?_)
        wp_walk
        exact ⟨rfl, rfl, _, _, rfl, by simp at hsz; omega, lx⟩
      | lt he lt =>
        simp only [List.zip_cons_cons, List.cons.injEq, Prod.mk.injEq] at hz
        obtain ⟨⟨rfl, rfl⟩, rfl⟩ := hz
        refine wpAny_bind (he prog w _ _ ?_)
        have lt' : ∀ {E : Value → Shared → Prop} {Q : Value → Shared → Prop}, Q (.bool r) ⟨hp, g, d, tk, os⟩ → wpAny (model prog w) A.in1 (richCompare .Lt y x) Q E ⟨hp, g, d, tk, os⟩ := fun h => lt prog w _ _ h
        wp_walk using lt'
        exact ⟨_, rfl, h⟩
    case fin =>
      rintro ⟨b1, b2⟩ s' ⟨hb', rfl, xs, ys, hz, hsz, lx⟩
      simp only at hb'
      subst hb'
      have e : decide (items.size < items2.size) = r := by
        cases lx with
        | nil => simp at hsz ⊢; omega
        | short => simp at hsz ⊢; omega
        | eq => simp at hz
        | lt => simp at hz
      wp_walk
      refine ⟨_, rfl, ?_⟩
      show R (.ok (.ret (.bool (decide (items.size < items2.size))))) _
      rw [e]; exact h
    case h =>
      exact ⟨rfl, rfl, items.toList, items2.toList, rfl, by simp; omega, hx⟩
theorem LtAt.tuples {A : Around} {s : Shared} {l b : Addr} {items items2 : Array Value} {r : Bool} (hl : s.heap.IsTuple l items) (hb : s.heap.IsTuple b items2) (hu : A.units < cLine)
    (he : LexAt A.in1 s items.toList items2.toList r) : LtAt A s (.ref l) (.ref b) r := fun prog w E Q h => by
  obtain ⟨⟨cls, dd, data, sl⟩, ho, hc, n, hd⟩ := id hl
  obtain ⟨⟨cls2, dd2, data2, sl2⟩, ho2, hc2, n2, hd2⟩ := id hb
  simp only at hc hd hc2 hd2
  subst hc hd hc2 hd2
  exact richCompare_meets_room (op := .Lt) ⟨_, ho, rfl⟩ ⟨_, ho2, rfl⟩ F.slot_tuple_lt F.entry_tuple_lt (F.args_tuple_lt_2 _ _) (tuple_ltAt l b items items2 n n2 dd dd2 sl sl2 r)
    ⟨ho, ho2, he, show Value.bool r ≠ Value.notImplemented ∧ Q (.bool r) s from ⟨(fun x => nomatch x), h⟩⟩ hu
end

/-! Lt2 -/
section
open PySem PySem.W PyProof.Rows PySem.SeqAt
end

/-! X1 -/
section
variable {σ : Hp} {Q : V → Hp → Prop}
end

/-! X7 -/
section
open PySem PySem.W PyProof.Rows PySem.SeqAt PySem.MeetsSeq PySem.MeetsSeq2 PySem.MeetsSeq3 PySem.SeqRoads2
open PySem.AutoSeq1 (wpAny_loadPart')
/-! the greatest of a list -/
noncomputable def GtAt (A : Around) (s : Shared) (y x : Value) (b : Bool) : Prop :=
  ∀ (prog : Program) (w : World) (E : Value → Shared → Prop) (Q : Value → Shared → Prop), Q (.bool b) s → wpAny (model prog w) A (richCompare .Gt y x) Q E s
inductive LexGt (A : Around) (s : Shared) : List Value → List Value → Bool → Prop
  | nil : LexGt A s [] [] false
  | eq {x y : Value} {xs ys : List Value} {r : Bool} : EqAt A s x y true → LexGt A s xs ys r → LexGt A s (x :: xs) (y :: ys) r
  | gt {x y : Value} {xs ys : List Value} {r : Bool} : xs.length = ys.length → EqAt A s x y false → GtAt A s x y r → LexGt A s (x :: xs) (y :: ys) r
theorem LexGt.len {A : Around} {s : Shared} {xs ys : List Value} {r : Bool} (h : LexGt A s xs ys r) : xs.length = ys.length := by
  induction h with
  | nil => rfl
  | eq _ _ ih => simp [ih]
  | gt h _ _ => simp [h]
theorem tuple_gtAt (l b : Addr) (items items2 : Array Value) (n n2 : Nat) (dd dd2 : Option Addr) (sl sl2 : Array (Option Value)) (r : Bool) :
    Meets (Builtin.«tuple.__gt__» ⟨[.ref l, .ref b], []⟩)
      (fun A R s => s.heap.get? l = some { cls := .type "tuple", dict := dd, data := .seq items n, slots := sl } ∧ s.heap.get? b = some { cls := .type "tuple", dict := dd2, data := .seq items2 n2, slots := sl2 } ∧
        LexGt A.in1 s items.toList items2.toList r ∧ R (.ok (.ret (.bool r))) s) :=
  .of_wp fun prog w A R s h => by
    obtain ⟨hp, g, d, tk, os⟩ := s; obtain ⟨hl, hb, hx, h⟩ := h
    have f2 := AutoSeq1.sub_tuple_tuple
    have hlen := hx.len
    wp_walk using wpAny_loadPart' hl, wpAny_loadPart' hb, wpAny_forIn_list _ (fun rest b s' => b.1 = none ∧ s' = ⟨hp, g, d, tk, os⟩ ∧ ∃ xs ys, rest = xs.zip ys ∧ LexGt A.in1 ⟨hp, g, d, tk, os⟩ xs ys r) _
    case turn =>
      rintro ⟨y, x⟩ rest b s' ⟨hb', rfl, xs, ys, hz, lx⟩
      cases lx with
      | nil => simp at hz
      | eq he lx =>
        simp only [List.zip_cons_cons, List.cons.injEq, Prod.mk.injEq] at hz
        obtain ⟨⟨rfl, rfl⟩, rfl⟩ := hz
        refine wpAny_bind (he prog w _ _ ?_)
        wp_walk
        exact ⟨rfl, rfl, _, _, rfl, lx⟩
      | gt hl2 he lt =>
        simp only [List.zip_cons_cons, List.cons.injEq, Prod.mk.injEq] at hz
        obtain ⟨⟨rfl, rfl⟩, rfl⟩ := hz
        refine wpAny_bind (he prog w _ _ ?_)
        have lt' : ∀ {E : Value → Shared → Prop} {Q : Value → Shared → Prop}, Q (.bool r) ⟨hp, g, d, tk, os⟩ → wpAny (model prog w) A.in1 (richCompare .Gt y x) Q E ⟨hp, g, d, tk, os⟩ := fun h => lt prog w _ _ h
        wp_walk using lt'
        exact ⟨_, rfl, h⟩
    case fin =>
      rintro ⟨b1, b2⟩ s' ⟨hb', rfl, xs, ys, hz, lx⟩
      simp only at hb'
      subst hb'
      have e : decide (items2.size < items.size) = r := by
        have : items2.size = items.size := by simpa using hlen.symm
        cases lx with
        | nil => simp [this]
        | eq => simp at hz
        | gt => simp at hz
      wp_walk
      refine ⟨_, rfl, ?_⟩
      show R (.ok (.ret (.bool (decide (items.size > items2.size))))) _
      rw [show decide (items.size > items2.size) = r from e]; exact h
    case h =>
      exact ⟨rfl, rfl, items.toList, items2.toList, rfl, hx⟩
theorem GtAt.tuples {A : Around} {s : Shared} {l b : Addr} {items items2 : Array Value} {r : Bool} (hl : s.heap.IsTuple l items) (hb : s.heap.IsTuple b items2) (hu : A.units < cLine)
    (he : LexGt A.in1 s items.toList items2.toList r) : GtAt A s (.ref l) (.ref b) r := fun prog w E Q h => by
  obtain ⟨⟨cls, dd, data, sl⟩, ho, hc, n, hd⟩ := id hl
  obtain ⟨⟨cls2, dd2, data2, sl2⟩, ho2, hc2, n2, hd2⟩ := id hb
  simp only at hc hd hc2 hd2
  subst hc hd hc2 hd2
  exact richCompare_meets_room (op := .Gt) ⟨_, ho, rfl⟩ ⟨_, ho2, rfl⟩ F.slot_tuple_gt F.entry_tuple_gt (F.args_tuple_gt_2 _ _) (tuple_gtAt l b items items2 n n2 dd dd2 sl sl2 r)
    ⟨ho, ho2, he, show Value.bool r ≠ Value.notImplemented ∧ Q (.bool r) s from ⟨(fun x => nomatch x), h⟩⟩ hu
theorem GtAt.int {A : Around} {s : Shared} (i j : Int) (t u : Tok) : GtAt A s (.int i t) (.int j u) (decide (j < i)) := fun prog w E Q h => gt_int h
section
variable {prog : Program} {w : World} {A : Around} {R : Result → Shared → Prop}
noncomputable def bestObj (vs : List Value) (c : Nat) : Obj := { cls := .type "list", dict := none, data := .seq vs.toArray c, slots := #[] }
theorem max_loop (hh : A.in1.handled = none) {l I S : Addr} {vs : List Value} {base : Heap} (hIS : I ≠ S) (bI : base.get? I = none) (bS : base.get? S = none) (gt : Nat → Nat → Bool)
    (hl0 : base.IsList l vs.toArray)
    (cmp : ∀ (s' : Shared) (i j : Nat) (vi vj : Value), (∀ b o, base.get? b = some o → s'.heap.get? b = some o) → vs[i]? = some vi → vs[j]? = some vj → GtAt A.in1 s' vi vj (gt i j)) :
    ∀ (k j : Nat) (s : Shared) (vb : Value) (c : Nat), vs.length - (j + 1) = k → j + 1 ≤ vs.length → s.heap.IsListIter I l (j + 1) → (∀ b o, base.get? b = some o → s.heap.get? b = some o) → vs[argBest gt j]? = some vb →
    s.heap.get? S = some (bestObj [vb, vb] c) →
    (∀ v s', vs[argBest gt (vs.length - 1)]? = some v → Sm s s' → (∀ b o, base.get? b = some o → s'.heap.get? b = some o) → R (.ok (.ret v)) s') →
    codeAny (model prog w) A (.builtin "max.loop" ⟨[.ref I, .none, .ref S], []⟩) R s := by
  have hname : (toString "max" ++ toString ".loop" : String) = "max.loop" := by decide
  have keep : ∀ {h h' : Heap}, Heap.SameBut I h h' → (∀ b o, base.get? b = some o → h.get? b = some o) → ∀ b o, base.get? b = some o → h'.get? b = some o := fun sb k b o e =>
    sb.extBut b o (by rintro rfl; rw [bI] at e; cases e) (k b o e)
  intro k
  induction k with
  | zero =>
    intro j s vb c hk hj hst hb hPb hS hR
    have hin : j + 1 = vs.length := by omega
    refine codeAny_builtin F.entry_max_loop ?_
    rw [Around.under_plainId F.plain_max_loop _]
    show wpAny _ A.in1 (seqItems? (.ref S) >>= _) _ _ s
    refine wpAny_bind (wpAny_seqItems hS rfl ?_)
    show wpAny _ A.in1 (tryCatch (pyNext (.ref I)) _ >>= _) _ _ s
    have hl : s.heap.IsList l vs.toArray := by obtain ⟨o, e, r⟩ := hl0; exact ⟨o, hb _ _ e, r⟩
    refine wpAny_bind (wpAny_tryCatch (wpAny_pyNext_list_end hh hst hl (by simp; omega) fun h' sb => ?_))
    have hS' : h'.get? S = some (bestObj [vb, vb] c) := sb S _ hIS.symm hS
    show wpAny _ A.in1 (updateSeq S (fun _ => #[]) >>= _) _ _ _
    refine wpAny_bind ?_
    refine wpAny_updateSeq hS' rfl (wpAny_bind (wpAny_letGo (wpAny_pure ?_)))
    refine hR vb _ (by rw [← hin]; exact hPb) ⟨rfl, rfl⟩ fun b o e => ?_
    have n1 : b ≠ I := by rintro rfl; rw [bI] at e; cases e
    have n2 : b ≠ S := by rintro rfl; rw [bS] at e; cases e
    exact (Heap.get?_update_other _ _ (Ne.symm n2)).trans (sb b o n1 (hb b o e))
  | succ k ih =>
    intro j s vb c hk hj hst hb hPb hS hR
    have hlt : j + 1 < vs.length := by omega
    refine codeAny_builtin F.entry_max_loop ?_
    rw [Around.under_plainId F.plain_max_loop _]
    show wpAny _ A.in1 (seqItems? (.ref S) >>= _) _ _ s
    refine wpAny_bind (wpAny_seqItems hS rfl ?_)
    show wpAny _ A.in1 (tryCatch (pyNext (.ref I)) _ >>= _) _ _ s
    have hl : s.heap.IsList l vs.toArray := by obtain ⟨o, e, r⟩ := hl0; exact ⟨o, hb _ _ e, r⟩
    have hv : vs[j + 1]? = some vs[j + 1] := List.getElem?_eq_getElem hlt
    refine wpAny_bind (wpAny_tryCatch (wpAny_pyNext_list_item hst hl (show vs.toArray[j + 1]? = some vs[j + 1] by simp [hlt]) fun h' hst' sb => ?_))
    have hS' : h'.get? S = some (bestObj [vb, vb] c) := sb.extBut S _ hIS.symm hS
    have hb' : ∀ b o, base.get? b = some o → h'.get? b = some o := keep sb hb
    show wpAny _ A.in1 (tryCatch (holding [vs[j + 1], vs[j + 1]] (richCompare .Gt vs[j + 1] vb >>= _)) _ >>= _) _ _ _
    refine wpAny_bind (wpAny_tryCatch (wpAny_holding (wpAny_bind (cmp _ (j + 1) (argBest gt j) _ _ hb' hv hPb prog w _ _ ?_))))
    refine wpAny_bind (wpAny_holding (wpAny_truthy_bool ?_))
    refine wpAny_bind (wpAny_letGo (wpAny_pure ?_))
    cases hg : gt (j + 1) (argBest gt j) with
    | true =>
      simp only [if_true]
      refine wpAny_bind ?_
      refine wpAny_updateSeq hS' rfl (wpAny_bind (wpAny_letGo ?_))
      rw [hname]
      refine wpAny_pure ⟨plainId_quiet F.plain_max_loop _, ih (j + 1) _ vs[j + 1] _ (by omega) hlt ?_ ?_ (by simp only [argBest, hg, if_true]; exact hv) (Heap.get?_update_self _ hS' rfl) fun v' s'' hP' hm hk'' => hR v' s'' hP' hm hk''⟩
      · obtain ⟨o, e, r⟩ := hst'
        exact ⟨o, (Heap.get?_update_other _ _ hIS.symm).trans e, r⟩
      · intro b o e
        have n2 : b ≠ S := by rintro rfl; rw [bS] at e; cases e
        exact (Heap.get?_update_other _ _ (Ne.symm n2)).trans (hb' b o e)
    | false =>
      simp only [Bool.false_eq_true, if_false]
      refine wpAny_bind (wpAny_letGo ?_)
      rw [hname]
      exact wpAny_pure ⟨plainId_quiet F.plain_max_loop _, ih (j + 1) _ vb c (by omega) hlt hst' hb' (by simp only [argBest, hg, Bool.false_eq_true, if_false]; exact hPb) hS' fun v' s'' hP' hm hk'' => hR v' s'' hP' hm hk''⟩
theorem max_first (hh : A.in1.handled = none) {l I S : Addr} {vs : List Value} {base : Heap} (hIS : I ≠ S) (bI : base.get? I = none) (bS : base.get? S = none) (gt : Nat → Nat → Bool) (h0 : 0 < vs.length)
    (hl0 : base.IsList l vs.toArray)
    (cmp : ∀ (s' : Shared) (i j : Nat) (vi vj : Value), (∀ b o, base.get? b = some o → s'.heap.get? b = some o) → vs[i]? = some vi → vs[j]? = some vj → GtAt A.in1 s' vi vj (gt i j))
    {s : Shared} {c : Nat} (hst : s.heap.IsListIter I l 0) (hb : ∀ b o, base.get? b = some o → s.heap.get? b = some o) (hS : s.heap.get? S = some (bestObj [] c))
    (hR : ∀ v s', vs[argBest gt (vs.length - 1)]? = some v → Sm s s' → (∀ b o, base.get? b = some o → s'.heap.get? b = some o) → R (.ok (.ret v)) s') :
    codeAny (model prog w) A (.builtin "max.loop" ⟨[.ref I, .none, .ref S], []⟩) R s := by
  have hname : (toString "max" ++ toString ".loop" : String) = "max.loop" := by decide
  refine codeAny_builtin F.entry_max_loop ?_
  rw [Around.under_plainId F.plain_max_loop _]
  show wpAny _ A.in1 (seqItems? (.ref S) >>= _) _ _ s
  refine wpAny_bind (wpAny_seqItems hS rfl ?_)
  show wpAny _ A.in1 (tryCatch (pyNext (.ref I)) _ >>= _) _ _ s
  have hl : s.heap.IsList l vs.toArray := by obtain ⟨o, e, r⟩ := hl0; exact ⟨o, hb _ _ e, r⟩
  have hv : vs[0]? = some vs[0] := List.getElem?_eq_getElem h0
  refine wpAny_bind (wpAny_tryCatch (wpAny_pyNext_list_item hst hl (show vs.toArray[0]? = some vs[0] by simp [h0]) fun h' hst' sb => ?_))
  have hS' : h'.get? S = some (bestObj [] c) := sb.extBut S _ hIS.symm hS
  have hb' : ∀ b o, base.get? b = some o → h'.get? b = some o := fun b o e => sb.extBut b o (by rintro rfl; rw [bI] at e; cases e) (hb b o e)
  show wpAny _ A.in1 (updateSeq S (fun _ => #[vs[0], vs[0]]) >>= _) _ _ _
  refine wpAny_bind ?_
  refine wpAny_updateSeq hS' rfl ?_
  rw [hname]
  refine wpAny_pure ⟨plainId_quiet F.plain_max_loop _, max_loop hh hIS bI bS gt hl0 cmp _ 0 _ vs[0] _ rfl (by omega) ?_ ?_ hv (Heap.get?_update_self _ hS' rfl) fun v' s'' hP' hm hk'' => hR v' s'' hP' hm hk''⟩
  · obtain ⟨o, e, r⟩ := hst'
    exact ⟨o, (Heap.get?_update_other _ _ hIS.symm).trans e, r⟩
  · intro b o e
    have n2 : b ≠ S := by rintro rfl; rw [bS] at e; cases e
    exact (Heap.get?_update_other _ _ (Ne.symm n2)).trans (hb' b o e)
end
theorem call_max {σ : Hp} {Q : V → Hp → Prop} {a : Addr} {xs : List V} (gt : Nat → Nat → Bool) (e : listAt σ a = some xs) (h0 : 0 < xs.length) {x : V} (hx : xs[argBest gt (xs.length - 1)]? = some x)
    (cmp : ∀ (h₀ h : Heap) (vs : List Value), W h₀ σ h → Reps h vs xs → ∀ (A : Around) (s' : Shared) (i j : Nat) (vi vj : Value), A.units ≤ 9100 → (∀ b o, h.get? b = some o → s'.heap.get? b = some o) → vs[i]? = some vi → vs[j]? = some vj → GtAt A s' vi vj (gt i j))
    (q : Q x σ) : opCall .max [.ref a] Q σ := by
  refine CallS.mk ?_
  intro prog w A s h₀ mg mb n vargs G R ra hw
  obtain ⟨v, rfl, r⟩ := one_rep ra; obtain rfl := r.iref
  obtain ⟨vs, hl, r⟩ := hw.list e
  have hlen := r.length
  have hname : (toString "max" ++ toString ".loop" : String) = "max.loop" := by decide
  refine call_function_tree F.kind_max F.plain_max F.entry_max (F.args_max1 _) ?_
  show wpAny _ A.in1 (Builtin.Builtins.bindParams "max" ["key", "default"] 0 ⟨[], []⟩ >>= _) _ _ s
  refine wpAny_bind (wpAny_of_eq (show Builtin.Builtins.bindParams "max" ["key", "default"] 0 ⟨[], []⟩ = pure [none, none] from rfl) ?_)
  refine wpAny_bind (wpAny_pure ?_)
  refine wpAny_bind (wpAny_pyIter_list hl ?_)
  refine wpAny_bind (wpAny_newObj_type ?_)
  rw [hname]
  have hu : A.units ≤ 9000 := by have := R.units; omega
  refine wpAny_pure ⟨plainId_quiet F.plain_max_loop _, ?_⟩
  have bI : s.heap.get? s.heap.objs.size = none := get_push_none _
  generalize hH1 : s.heap.push { cls := .type "list_iterator", data := .fields #[.ref a, .int 0 0] } = H1
  have sz1 : H1.objs.size = s.heap.objs.size + 1 := by rw [← hH1]; exact size_push' _ _
  have bS : s.heap.get? H1.objs.size = none := by
    rw [sz1]
    cases q : s.heap.get? (s.heap.objs.size + 1) with
    | none => rfl
    | some o => exact absurd (Heap.lt_size q) (Nat.not_lt_of_le (Nat.le_succ _))
  have k1 : ∀ b o, s.heap.get? b = some o → H1.get? b = some o := fun b o e => by rw [← hH1]; exact Heap.get?_push_of_some _ e
  have g1 : H1.get? s.heap.objs.size = some { cls := .type "list_iterator", data := .fields #[.ref a, .int 0 0] } := by rw [← hH1]; exact Heap.get?_push_size _ rfl
  refine max_first (base := s.heap) (l := a) (vs := vs) (A := A) (c := 0) R.handled (by rw [sz1]; exact Nat.ne_of_lt (Nat.lt_succ_self _)) bI bS gt (by omega) hl (fun s' i j vi vj k e1 e2 => cmp h₀ s.heap vs hw r _ s' i j vi vj (by show A.units + 1 ≤ 9100; omega) k e1 e2)
    ?_ ?_ ?_ fun v s' hv hm hk => ?_
  · exact ⟨_, Heap.get?_push_of_some _ g1, rfl, rfl⟩
  · exact fun b o e => Heap.get?_push_of_some _ (k1 b o e)
  · exact Heap.get?_push_size _ rfl
  rw [hlen] at hv
  obtain ⟨x', e', rx⟩ := r.getRev hv
  rw [hx] at e'; cases e'
  have st := hw.extend hk
  exact ⟨x, σ, rx.step st, ⟨st, hm.1, hm.2⟩, q⟩
/-- ints -/
theorem argBest_le (gt : Nat → Nat → Bool) : ∀ k, argBest gt k ≤ k
  | 0 => Nat.le_refl _
  | k + 1 => by unfold argBest; have := argBest_le gt k; split <;> omega
theorem argBest_ok {gt : Nat → Nat → Bool} (tr : ∀ a b c, gt a b = false → gt b c = false → gt a c = false) (irr : ∀ a, gt a a = false) (asy : ∀ a b, gt a b = true → gt b a = false) : ∀ k i, i ≤ k → gt i (argBest gt k) = false
  | 0, i, h => by have : i = 0 := by omega
                  subst this; exact irr 0
  | k + 1, i, h => by
    unfold argBest
    cases hg : gt (k + 1) (argBest gt k) with
    | true =>
      rw [if_pos rfl]
      rcases Nat.lt_or_ge i (k + 1) with q | q
      · exact tr _ _ _ (argBest_ok tr irr asy k i (by omega)) (asy _ _ hg)
      · have : i = k + 1 := by omega
        subst this; exact irr _
    | false =>
      rw [if_neg Bool.false_ne_true]
      rcases Nat.lt_or_ge i (k + 1) with q | q
      · exact argBest_ok tr irr asy k i (by omega)
      · have : i = k + 1 := by omega
        subst this; exact hg
end

/-! X6 -/
section
variable {σ : Hp} {Q : V → Hp → Prop}
end
/-- an item to be changed -/
structure opGet (o i : V) (Q : V → Hp → Prop) (σ : Hp) : Prop where
  go : ∀ ⦃prog : Program⦄ ⦃w : World⦄ ⦃A : Around⦄ ⦃s : Shared⦄ ⦃h₀ : Heap⦄ ⦃vo vi : Value⦄, Rep s.heap vo o → Rep s.heap vi i → W h₀ σ s.heap → wpAny (model prog w) A (getItem vo vi) (PV h₀ σ s Q) E0 s
noncomputable def PS.augi (o i : PE) (op : Operator) (e : PE) : PS := fun Φ R F σ => vE Φ o (fun a σ => vE Φ i (fun b σ => opGet a b (fun x σ => vE Φ e (fun y σ => opAug op x y (fun z σ => opSet a b z (fun σ => R .next F σ) σ) σ) F σ) σ) F σ) F σ
theorem s_augi (Φ : Fns) (R : Fl → Frm → Hp → Prop) (F : Frm) (σ : Hp) (o i : PE) (op : Operator) (e : PE) : vS Φ (.augi o i op e) R F σ = vE Φ o (fun a σ => vE Φ i (fun b σ => opGet a b (fun x σ => vE Φ e (fun y σ => opAug op x y (fun z σ => opSet a b z (fun σ => R .next F σ) σ) σ) F σ) σ) F σ) F σ := rfl
section
variable {c : Cfg} {p q : Pos}
theorem CE.or {l r : Expr} {a b : PE} (hl : CE c l a) (hr : CE c r b) : CE c (.BoolOp .Or [l, r] p) (.or a b) := by
  intro prog w h₀ mg mb Φ n A s σ env own F Q X v
  refine BoolOp_or (wpAny_mono (hl X v) (fun y s₁ => PV.on fun z σ₁ rz st m₁ q => wpAny_mono (truth_ok rz st.w q) (fun b s₂ => PB.on fun σ₂ st₂ m₂ q₂ => ?_) fun _ _ f => f) fun _ _ f => f)
  cases b with
  | false => exact BoolOp_one (wpAny_mono (hr ((X.step st).step st₂) q₂) (fun _ _ pv => pv.back (st.trans st₂) (m₁.trans m₂)) fun _ _ f => f)
  | true => exact ⟨z, σ₂, rz.step st₂, ⟨st.trans st₂, m₁.trans m₂⟩, q₂⟩
end

/-! E7 -/
/-! texts -/
section
variable {σ : Hp} {Q : V → Hp → Prop}
theorem add_strs {x y : Str} (hl : x.length + y.length ≤ 1000) (q : Q (.str (x ++ y)) σ) : opBin .Add (.str x) (.str y) Q σ := by
  refine BinS.mk ?_
  intro prog w A s h₀ mg mb n va vb G R hw ra rb
  obtain ⟨_, rfl⟩ := ra.istr
  obtain ⟨_, rfl⟩ := rb.istr
  exact PyProof.Rows.add_str (fun t' tk => PV.same hw (.str _ _) q tk) (by rw [sizeLine_eq]; omega)
theorem lt_strs {x y : Str} (q : Q (.bool (decide (x.cps.toList < y.cps.toList))) σ) : opCmp .Lt (.str x) (.str y) Q σ := by
  refine CmpS.mk ?_
  intro prog w A s h₀ n va vb R ra rb hw
  obtain ⟨_, rfl⟩ := ra.istr
  obtain ⟨_, rfl⟩ := rb.istr
  exact PyProof.Rows.lt_str (PV.same' hw (.bool _) q)
theorem ne_strs {x y : Str} (q : Q (.bool (x != y)) σ) : opCmp .NotEq (.str x) (.str y) Q σ := by
  refine CmpS.mk ?_
  intro prog w A s h₀ n va vb R ra rb hw
  obtain ⟨_, rfl⟩ := ra.istr
  obtain ⟨_, rfl⟩ := rb.istr
  exact PyProof.Rows.ne_str (PV.same' hw (.bool _) q)
theorem str_at {x : Str} {k c : Nat} (hk : k < 1000) (hc : (seqIndex? (k : Int) x.length).bind (x.cps[·]?) = some c) (q : Q (.str ⟨#[c]⟩) σ) : opSub (.str x) (.int k) Q σ := by
  refine opSub.mk ?_
  intro prog w A s h₀ vo vi value slice ro ri hw hs
  obtain ⟨t, rfl⟩ := ro.istr
  obtain ⟨ti, rfl⟩ := ri.iint
  refine tail_any (T := "str") (typeIs_str s x t) slot_str_getitem.lookup (PyProof.Rows.getItem_str ?_ hc (PV.same hw (.str _ _) q _)) (hs _ _)
  rw [decide_eq_false (by omega), decide_eq_false (by omega)]; rfl
theorem isi_int {i : Int} (q : Q (.bool true) σ) : opCall .isinstance [.int i, .val (.type "int")] Q σ := by
  refine CallS.mk ?_
  intro prog w A s h₀ mg mb n vargs G R ra hw
  obtain ⟨v, u, rfl, r, r'⟩ := two_rep ra; obtain ⟨t, rfl⟩ := r.iint
  cases r' with
  | val _ => exact IsiPair.int_int (PV.same' hw (.bool _) q)
theorem isi_str {x : Str} (q : Q (.bool false) σ) : opCall .isinstance [.str x, .val (.type "int")] Q σ := by
  refine CallS.mk ?_
  intro prog w A s h₀ mg mb n vargs G R ra hw
  obtain ⟨v, u, rfl, r, r'⟩ := two_rep ra; obtain ⟨t, rfl⟩ := r.istr
  cases r' with
  | val _ => exact IsiPair.str_int (PV.same hw (.bool _) q _)
/-! tables with ints as keys -/
theorem W.map {h₀ : Heap} {σ : Hp} {h : Heap} (w : W h₀ σ h) {a : Addr} {m : Int → Option V} {n : Nat} (e : σ a = some (.imap m n)) : ∃ f, h.IntMap a f ∧ h.DictLe a n ∧ ∀ k x, m k = some x → ∃ v, f k = some v ∧ Rep h v x := w.holds _ _ e
theorem map_at' {a : Addr} {k : Int} {m : Int → Option V} {n : Nat} {x : V} (e : σ a = some (.imap m n)) (hx : m k = some x) (q : Q x σ) : opSub (.ref a) (.int k) Q σ := by
  refine opSub.mk ?_
  intro prog w A s h₀ vo vi value slice ro ri hw hs
  obtain rfl := ro.iref
  obtain ⟨ti, rfl⟩ := ri.iint
  obtain ⟨f, hm, _, g⟩ := hw.map e
  obtain ⟨v, e1, rv⟩ := g _ _ hx
  exact tail_any hm.typeIs slot_dict_getitem.lookup (wpAny_getItem_intMap hm e1 (PV.same hw rv q _)) (hs _ _)
theorem map_set {a : Addr} {k : Int} {m : Int → Option V} {n : Nat} {x : V} {P : Hp → Prop} (e : σ a = some (.imap m n)) (hn : n < BIG) (q : P (upd σ a (.imap (fun y => if y = k then some x else m y) (n + 1)))) : opSet (.ref a) (.int k) x P σ := by
  refine opSet.mk ?_
  intro prog w A s h₀ vo vi vv ro ri rv hw
  obtain rfl := ro.iref
  obtain ⟨t, rfl⟩ := ri.iint
  obtain ⟨f, hm, hz, g⟩ := hw.map e
  refine wpAny_setItem_intMap_le hm hz (big_line (Nat.le_of_lt hn)) fun h' hm' hz' sb => ?_
  refine ⟨_, ⟨hw.change (o := .imap (fun y => if y = k then some x else m y) (n + 1)) ⟨_, e, rfl⟩ sb.extBut (fun kp => ⟨_, hm', hz', fun j y ej => ?_⟩) (Nat.succ_le_of_lt hn) (fun oo q => by rw [e] at q; cases q; rfl), rfl, rfl⟩, q⟩
  have t := tup_keep hw kp
  dsimp only at ej ⊢
  split at ej
  · rename_i hj; rw [if_pos hj]; cases ej; exact ⟨_, rfl, rv.tups t⟩
  · rename_i hj; rw [if_neg hj]
    obtain ⟨v, e1, r1⟩ := g _ _ ej
    exact ⟨v, e1, r1.tups t⟩
end
noncomputable def noMap : Int → Option V := fun _ => Option.none
noncomputable def PE.table : PE := .of fun Φ Q F σ => ∀ a, σ a = Option.none → Q (.ref a) (upd σ a (.imap noMap 0))
theorem e_table (Φ : Fns) (Q : V → Hp → Prop) (F : Frm) (σ : Hp) : vE Φ .table Q F σ = ∀ a, σ a = Option.none → Q (.ref a) (upd σ a (.imap noMap 0)) := rfl
theorem CE.table {c : Cfg} {p : Pos} : CE c (.Dict [] [] p) .table := by
  intro prog w h₀ mg mb Φ n A s σ env own F Q X v
  refine wpAny_Dict_empty ?_
  have hw := X.w
  have k : ∀ b o, s.heap.get? b = some o → (s.heap.push { cls := .type "dict", data := .dict #[] }).get? b = some o := fun b o e => Heap.get?_push_of_some _ e
  have st := hw.alloc (o := .imap noMap 0) k (get_push_none _) ⟨_, Heap.IntMap.new _, Heap.DictLe.new _, fun _ _ e => by cases e⟩ (Nat.zero_le _)
  exact ⟨_, _, .ref _, ⟨st, rfl, rfl⟩, v _ (hw.fresh (get_push_none _))⟩
/-- the name of a type, as a value -/
noncomputable def PE.intT : PE := .of fun Φ Q F σ => Q (.val (.type "int")) σ
theorem e_intT (Φ : Fns) (Q : V → Hp → Prop) (F : Frm) (σ : Hp) : vE Φ .intT Q F σ = Q (.val (.type "int")) σ := rfl
theorem int_boot : bootBuiltins ("int" : Str) = some (.type "int") := by decide +kernel
theorem CE.intT {c : Cfg} {p : Pos} {x : Str} (hx : x = "int") (hk : c.sc.lookup x = some .globalImplicit) : CE c (.Name x p) .intT := by
  intro prog w h₀ mg mb Φ n A s σ env own F Q X v
  subst hx
  exact load_glob X.G X.w X.f hk (by decide) (.inr ⟨X.NM.fr _ (by decide +kernel), (X.G.boot _ (by decide)).trans int_boot⟩) (PV.same' X.w (.val _) v)

/-! E11 -/
section
open PySem PySem.W PyProof.Rows PySem.SeqAt
/-! numbers and texts -/
inductive Th where
  | i (x : Int)
  | s (w : Str)
  deriving DecidableEq
theorem th_i (x y : Int) : (Th.i x = Th.i y) = (x = y) := propext ⟨fun h => by cases h; rfl, fun h => by rw [h]⟩
theorem th_s (x y : Str) : (Th.s x = Th.s y) = (x = y) := propext ⟨fun h => by cases h; rfl, fun h => by rw [h]⟩
namespace Th
noncomputable def v : Th → V
  | .i x => .int x
  | .s w => .str w
noncomputable def isI : Th → Bool
  | .i _ => true
  | .s _ => false
noncomputable def lt : Th → Th → Bool
  | .i x, .i y => decide (x < y)
  | .s x, .s y => decide (x.cps.toList < y.cps.toList)
  | _, _ => false
end Th
theorem eqAt_th {A : Around} {s : Shared} {h : Heap} {x y : Th} {a b : Value} (r1 : Rep h a x.v) (r2 : Rep h b y.v) (k : x.isI = y.isI) : EqAt A s a b (decide (x = y)) := by
  intro prog w E Q q
  cases x with
  | i x => cases y with
    | i y =>
      obtain ⟨_, rfl⟩ := Rep.iint r1; obtain ⟨_, rfl⟩ := Rep.iint r2
      exact wpAny_eqBool_int (by rw [show (x == y) = decide (Th.i x = Th.i y) by by_cases h : x = y <;> simp [h, th_i]]; exact q)
    | s y => cases k
  | s x => cases y with
    | i y => cases k
    | s y =>
      obtain ⟨_, rfl⟩ := Rep.istr r1; obtain ⟨_, rfl⟩ := Rep.istr r2
      exact wpAny_eqBool_str (by rw [show decide (x = y) = decide (Th.s x = Th.s y) by by_cases h : x = y <;> simp [h, th_s]]; exact q)
theorem gtAt_th {A : Around} {s : Shared} {h : Heap} {x y : Th} {a b : Value} (r1 : Rep h a x.v) (r2 : Rep h b y.v) (k : x.isI = y.isI) : GtAt A s a b (y.lt x) := by
  intro prog w E Q q
  cases x with
  | i x => cases y with
    | i y =>
      obtain ⟨_, rfl⟩ := Rep.iint r1; obtain ⟨_, rfl⟩ := Rep.iint r2
      exact gt_int q
    | s y => cases k
  | s x => cases y with
    | i y => cases k
    | s y =>
      obtain ⟨_, rfl⟩ := Rep.istr r1; obtain ⟨_, rfl⟩ := Rep.istr r2
      exact P.gt_str q
noncomputable def gtP (p q : Th × Nat) : Bool := if p.1 = q.1 then decide (q.2 < p.2) else q.1.lt p.1
noncomputable def pairV (p : Th × Nat) : V := .tup [p.1.v, .int p.2]
theorem max_pairs {σ : Hp} {Q : V → Hp → Prop} {a : Addr} {ps : List (Th × Nat)} (e : listAt σ a = some (ps.map pairV)) (h0 : 0 < ps.length) (hk : ∀ p ∈ ps, ∀ q ∈ ps, p.1.isI = q.1.isI) {x : Th × Nat}
    (hx : ps[argBest (fun i j => gtP (ps.getD i (.i 0, 0)) (ps.getD j (.i 0, 0))) (ps.length - 1)]? = some x) (q : Q (pairV x) σ) : opCall .max [.ref a] Q σ := by
  refine call_max (fun i j => gtP (ps.getD i (.i 0, 0)) (ps.getD j (.i 0, 0))) e (by simpa using h0) (x := pairV x) ?_ ?_ q
  · rw [List.length_map, List.getElem?_map, hx]; rfl
  · intro h₀ h vs hw r A s' i j vi vj hu k e1 e2
    have hlen := r.length
    rw [List.length_map] at hlen
    have at' : ∀ k' v, vs[k']? = some v → ∃ b u1 u2, v = .ref b ∧ s'.heap.IsTuple b #[u1, u2] ∧ Rep h u1 (ps.getD k' (.i 0, 0)).1.v ∧ Rep h u2 (.int (ps.getD k' (.i 0, 0)).2) ∧ ps.getD k' (.i 0, 0) ∈ ps := fun k' v ev => by
      have hk' : k' < ps.length := by have := (List.getElem?_eq_some_iff.mp ev).1; omega
      have eg : ps.getD k' (.i 0, 0) = ps[k'] := by rw [List.getD_eq_getElem?_getD, List.getElem?_eq_getElem hk']; rfl
      obtain ⟨v', ev', rv⟩ := r.get (i := k') (x := pairV ps[k']) (by rw [List.getElem?_map, List.getElem?_eq_getElem hk']; rfl)
      rw [ev] at ev'; cases ev'
      obtain ⟨b, us, rfl, ⟨o, eo, co, n, dd⟩, rr⟩ := rv.itup
      obtain ⟨u1, us, rfl, ru1, rr⟩ := rr.icons
      obtain ⟨u2, rfl, ru2⟩ := one_rep rr
      rw [eg]
      exact ⟨b, u1, u2, rfl, ⟨o, k _ _ eo, co, n, dd⟩, ru1, ru2, List.getElem_mem hk'⟩
    obtain ⟨b1, u1, u2, rfl, t1, r1, r2, m1⟩ := at' i vi e1
    obtain ⟨b2, w1, w2, rfl, t2, q1, q2, m2⟩ := at' j vj e2
    obtain ⟨_, rfl⟩ := r2.iint
    obtain ⟨_, rfl⟩ := q2.iint
    have kk := hk _ m1 _ m2
    refine GtAt.tuples t1 t2 (by show A.units < 9900; omega) ?_
    have eq1 := eqAt_th (A := A.in1) (s := s') r1 q1 kk
    unfold gtP
    by_cases c : (ps.getD i (.i 0, 0)).1 = (ps.getD j (.i 0, 0)).1
    · rw [if_pos c]
      rw [decide_eq_true c] at eq1
      refine .eq eq1 ?_
      by_cases c2 : (ps.getD i (.i 0, 0)).2 = (ps.getD j (.i 0, 0)).2
      · rw [c2, decide_eq_false (Nat.lt_irrefl _)]
        exact .eq (fun prog w E Q h => wpAny_eqBool_int (by rw [beq_self_eq_true]; exact h)) .nil
      · refine .gt rfl (fun prog w E Q h => wpAny_eqBool_int (by rw [show (((ps.getD i (.i 0, 0)).2 : Int) == ((ps.getD j (.i 0, 0)).2 : Int)) = false from beq_false_of_ne (fun e => c2 (Int.ofNat.inj e))]; exact h)) ?_
        have := GtAt.int (A := A.in1) (s := s') ((ps.getD i (.i 0, 0)).2 : Int) ((ps.getD j (.i 0, 0)).2 : Int)
        rw [show decide ((ps.getD j (.i 0, 0)).2 < (ps.getD i (.i 0, 0)).2) = decide (((ps.getD j (.i 0, 0)).2 : Int) < ((ps.getD i (.i 0, 0)).2 : Int)) by congr 1; simp]
        exact this _ _
    · rw [if_neg c]
      rw [decide_eq_false c] at eq1
      exact .gt rfl eq1 (gtAt_th r1 q1 kk)
theorem max_ints {σ : Hp} {Q : V → Hp → Prop} {a : Addr} {ns : List Int} (e : listAt σ a = some (ns.map V.int)) (h0 : 0 < ns.length) (q : ∀ m ∈ ns, (∀ y ∈ ns, y ≤ m) → Q (.int m) σ) : opCall .max [.ref a] Q σ := by
  have hb := argBest_le (fun i j => decide (ns.getD j 0 < ns.getD i 0)) (ns.length - 1)
  have hb' : argBest (fun i j => decide (ns.getD j 0 < ns.getD i 0)) (ns.length - 1) < ns.length := by omega
  have ok := argBest_ok (gt := fun i j => decide (ns.getD j 0 < ns.getD i 0)) (fun a b c h1 h2 => by simp only [decide_eq_false_iff_not] at *; omega) (fun a => by simp) (fun a b h => by simp only [decide_eq_true_eq, decide_eq_false_iff_not] at *; omega) (ns.length - 1)
  generalize hB : argBest (fun i j => decide (ns.getD j 0 < ns.getD i 0)) (ns.length - 1) = B at hb hb' ok
  have eB : ns.getD B 0 = ns[B] := by rw [List.getD_eq_getElem?_getD, List.getElem?_eq_getElem hb']; rfl
  refine call_max (fun i j => decide (ns.getD j 0 < ns.getD i 0)) e (by simpa using h0) (x := V.int ns[B]) ?_ ?_ (q _ (List.getElem_mem hb') fun y my => ?_)
  · rw [List.length_map, hB, List.getElem?_map, List.getElem?_eq_getElem hb']; rfl
  · intro h₀ h vs hw r A s' i j vi vj hu k e1 e2
    have hlen := r.length
    rw [List.length_map] at hlen
    have at' : ∀ k' v, vs[k']? = some v → ∃ t, v = Value.int (ns.getD k' 0) t := fun k' v ev => by
      have hk' : k' < ns.length := by have := (List.getElem?_eq_some_iff.mp ev).1; omega
      obtain ⟨v', ev', rv⟩ := r.get (i := k') (x := V.int ns[k']) (by rw [List.getElem?_map, List.getElem?_eq_getElem hk']; rfl)
      rw [ev] at ev'; cases ev'
      obtain ⟨t, rfl⟩ := rv.iint
      exact ⟨t, by rw [List.getD_eq_getElem?_getD, List.getElem?_eq_getElem hk']; rfl⟩
    obtain ⟨t1, rfl⟩ := at' i vi e1
    obtain ⟨t2, rfl⟩ := at' j vj e2
    exact GtAt.int _ _ _ _
  · obtain ⟨i, hi, rfl⟩ := List.getElem_of_mem my
    have := ok i (by omega)
    simp only [decide_eq_false_iff_not] at this
    have ei : ns.getD i 0 = ns[i] := by rw [List.getD_eq_getElem?_getD, List.getElem?_eq_getElem hi]; rfl
    rw [ei, eB] at this
    omega
end

/-! E12 -/
/-! the two sifts, as texts that may raise -/
noncomputable def xs_siftdown : List XS := [.of (.assign (.name 3) (.sub (.var 0) (.var 2))),
  .whil (.cmp .Gt (.var 2) (.var 1)) [.of (.assign (.name 4) (.bin .RShift (.bin .Sub (.var 2) (.int 1)) (.int 1))), .of (.assign (.name 5) (.sub (.var 0) (.var 4))), .ifs (.lt (.var 5) (.var 3)) [.setitem (.var 0) (.var 2) (.var 5), .assign (.name 2) (.var 4), .cont] [], .of .brk],
  .of (.setitem (.var 0) (.var 2) (.var 3))]
noncomputable def xs_siftup : List XS := [.of (.assign (.name 2) (.call .len [(.var 0)])),
  .of (.assign (.name 3) (.var 1)),
  .assign 4 (.sub (.var 0) (.var 1)),
  .of (.assign (.name 5) (.bin .Add (.bin .Mult (.int 2) (.var 1)) (.int 1))),
  .whil (.cmp .Lt (.var 5) (.var 2)) [.of (.assign (.name 6) (.bin .Add (.var 5) (.int 1))), .ifs (.and (.cmp .Lt (.var 6) (.var 2)) (.not (.lt (.sub (.var 0) (.var 6)) (.sub (.var 0) (.var 5))))) [.assign (.name 5) (.var 6)] [], .of (.setitem (.var 0) (.var 1) (.sub (.var 0) (.var 5))), .of (.assign (.name 1) (.var 5)), .of (.assign (.name 5) (.bin .Add (.bin .Mult (.int 2) (.var 1)) (.int 1)))],
  .of (.setitem (.var 0) (.var 1) (.var 4)),
  .expr (.ucall 0 [(.var 0), (.var 3), (.var 1)])]
namespace Th
noncomputable def kind (t : Th) : String := if t.isI then "int" else "str"
end Th
/-- the words when x is held below y -/
noncomputable def refuse (x y : Th) : Str := ltWords x.kind y.kind
theorem LtX.th {P : Bool → Hp → Prop} {K : V → Hp → Prop} {σ : Hp} {x y : Th} (h : if x.isI = y.isI then P (x.lt y) σ else K (.exc "TypeError" (refuse x y)) σ) : LtX P K σ x.v y.v := by
  cases x with
  | i x => cases y with
    | i y => exact .ii h
    | s y => exact .is h
  | s x => cases y with
    | i y => exact .si h
    | s y => exact .ss h
/-- back up: the list, and the words if it is refused -/
noncomputable def downX (s : Nat) (x : Th) (ns : List Th) (p : Nat) : List Th × Option Str :=
  if h : s < p then
    if (ns.getD ((p - 1) / 2) x).isI = x.isI then
      if (ns.getD ((p - 1) / 2) x).lt x then downX s x (ns.set p (ns.getD ((p - 1) / 2) x)) ((p - 1) / 2) else (ns.set p x, none)
    else (ns, some (refuse (ns.getD ((p - 1) / 2) x) x))
  else (ns.set p x, none)
termination_by p
decreasing_by omega
/-- the greater one below -/
noncomputable def kidX (ns : List Th) (p : Nat) : Nat :=
  if 2 * p + 2 < ns.length ∧ (ns.getD (2 * p + 2) (.i 0)).lt (ns.getD (2 * p + 1) (.i 0)) = false then 2 * p + 2 else 2 * p + 1
theorem kidX_gt (ns : List Th) (p : Nat) : p < kidX ns p := by unfold kidX; split <;> omega
theorem kidX_lt (ns : List Th) (p : Nat) (h : 2 * p + 1 < ns.length) : kidX ns p < ns.length := by unfold kidX; split <;> omega
/-- the two below are of two kinds -/
abbrev apart (ns : List Th) (p : Nat) : Prop := 2 * p + 2 < ns.length ∧ (ns.getD (2 * p + 2) (.i 0)).isI ≠ (ns.getD (2 * p + 1) (.i 0)).isI
/-- the way down -/
noncomputable def upX (ns : List Th) (p : Nat) : List Th × Nat × Option Str :=
  if h : 2 * p + 1 < ns.length then
    if apart ns p then (ns, p, some (refuse (ns.getD (2 * p + 2) (.i 0)) (ns.getD (2 * p + 1) (.i 0))))
    else upX (ns.set p (ns.getD (kidX ns p) (.i 0))) (kidX ns p)
  else (ns, p, none)
termination_by ns.length - p
decreasing_by
  have := kidX_gt ns p
  simp only [List.length_set]; omega
/-- the whole sift -/
noncomputable def siftX (ns : List Th) (p : Nat) (x : Th) : List Th × Option Str :=
  match upX ns p with
  | (ys, q, some w) => (ys, some w)
  | (ys, q, none) => downX p x (ys.set q x) q
inductive siftdownX (args : List V) (Q : V → Hp → Prop) (σ : Hp) : Prop
  | mk (a : Addr) (ns : List Th) (s p : Nat) (x : Th) (h1 : args = [.ref a, .int s, .int p]) (h2 : σ a = some (.list (ns.map Th.v))) (h3 : ns[p]? = some x)
    (h4 : match downX s x ns p with | (ys, some w) => Q (.exc "TypeError" w) (upd σ a (.list (ys.map Th.v))) | (ys, none) => Q .none (upd σ a (.list (ys.map Th.v)))) : siftdownX args Q σ
inductive siftupX (args : List V) (Q : V → Hp → Prop) (σ : Hp) : Prop
  | mk (a : Addr) (ns : List Th) (p : Nat) (h1 : args = [.ref a, .int p]) (h2 : σ a = some (.list (ns.map Th.v))) (h3 : p ≤ ns.length) (h4 : ns.length < BIG)
    (h5 : p = ns.length → Q (.exc "IndexError" (Str.ofString "list index out of range")) σ)
    (h6 : ∀ x, ns[p]? = some x → match siftX ns p x with | (ys, some w) => Q (.exc "TypeError" w) (upd σ a (.list (ys.map Th.v))) | (ys, none) => Q .none (upd σ a (.list (ys.map Th.v)))) : siftupX args Q σ

/-! P02 -/
section
open PySem
/-! law 02, plain: the way down, and what is left of its row -/
noncomputable def wayT (xs : List Th) : Nat → Nat → List Nat × Option Str
  | 0, p => ([p], none)
  | f + 1, p =>
    if 2 * p + 1 < xs.length then
      if apart xs p then ([p], some (refuse (xs.getD (2 * p + 2) (.i 0)) (xs.getD (2 * p + 1) (.i 0))))
      else (p :: (wayT xs f (kidX xs p)).1, (wayT xs f (kidX xs p)).2)
    else ([p], none)
noncomputable def rowT (xs : List Th) (way : List Nat) : List Th := way.map fun p => xs.getD p (.i 0)
/-- new things at the places of a way -/
noncomputable def layT (xs : List Th) : List Nat → List Th → List Th
  | p :: ps, t :: ts => layT (xs.set p t) ps ts
  | _, _ => xs
theorem layT_len (xs : List Th) : ∀ (ps : List Nat) (ts : List Th), (layT xs ps ts).length = xs.length
  | [], ts => by simp [layT]
  | p :: ps, [] => by simp [layT]
  | p :: ps, t :: ts => by simp [layT, layT_len (xs.set p t) ps ts]
theorem wayT_head (xs : List Th) (f p : Nat) : ∃ r, (wayT xs f p).1 = p :: r := by
  cases f with
  | zero => exact ⟨_, rfl⟩
  | succ f =>
    unfold wayT
    split
    · split
      · exact ⟨_, rfl⟩
      · exact ⟨_, rfl⟩
    · exact ⟨_, rfl⟩
/-- the way down shifts the row up -/
theorem upX_way (xs : List Th) : ∀ (f p : Nat) (ys : List Th), xs.length - p ≤ f → ys.length = xs.length → p < xs.length → (∀ j, p ≤ j → ys.getD j (.i 0) = xs.getD j (.i 0)) →
    upX ys p = (layT ys (wayT xs f p).1 ((rowT xs (wayT xs f p).1).tail), (wayT xs f p).1.getLastD p, (wayT xs f p).2) := by
  intro f
  induction f with
  | zero => intro p ys h1 h2 h3 h4; omega
  | succ f ih =>
    intro p ys h1 h2 h3 h4
    have ek : kidX ys p = kidX xs p := by unfold kidX; rw [h2, h4 _ (by omega), h4 _ (by omega)]
    have ea : apart ys p ↔ apart xs p := by unfold apart; rw [h2, h4 _ (by omega), h4 _ (by omega)]
    have g1 := kidX_gt xs p
    rw [upX.eq_def]
    unfold wayT
    by_cases hc : 2 * p + 1 < xs.length
    · have g2 := kidX_lt xs p hc
      rw [dif_pos (by omega), if_pos hc]
      by_cases a : apart xs p
      · rw [if_pos (ea.mpr a), if_pos a, h4 _ (by omega), h4 _ (by omega)]
        simp [rowT, layT]
      · rw [if_neg (fun h => a (ea.mp h)), if_neg a, ek, h4 _ (by omega)]
        rw [ih (kidX xs p) _ (by omega) (by rw [List.length_set, h2]) g2 (fun j hj => ?_)]
        · obtain ⟨r, hr⟩ := wayT_head xs f (kidX xs p)
          rw [hr]
          simp [rowT, layT, List.getLastD]
        · rw [List.getD_eq_getElem?_getD, List.getElem?_set_ne (by omega), ← List.getD_eq_getElem?_getD, h4 _ (by omega)]
    · rw [dif_neg (by omega), if_neg hc]
      simp [rowT, layT]
/-- back up the way: held values of the places ahead (last first), the one held here, those behind -/
noncomputable def backT (x : Th) : List Th → Th → List Th → List Th × Option Str
  | [], z, tl => (x :: tl, none)
  | h :: ra, z, tl =>
    if h.isI = x.isI then
      if h.lt x then backT x ra h (h :: tl) else (ra.reverse ++ h :: x :: tl, none)
    else (ra.reverse ++ h :: z :: tl, some (refuse h x))
/-- each place's parent is the one ahead -/
noncomputable def ChainT : Nat → List Nat → Prop
  | _, [] => True
  | a, b :: bs => a < b ∧ (b - 1) / 2 = a ∧ ChainT b bs
theorem wayT_chain (xs : List Th) : ∀ (f p : Nat), ∃ r, (wayT xs f p).1 = p :: r ∧ ChainT p r := by
  intro f
  induction f with
  | zero => intro p; exact ⟨[], rfl, trivial⟩
  | succ f ih =>
    intro p
    unfold wayT
    split
    · split
      · exact ⟨[], rfl, trivial⟩
      · obtain ⟨r, e, c⟩ := ih (kidX xs p)
        refine ⟨kidX xs p :: r, by rw [e], ?_, ?_, c⟩
        · exact kidX_gt xs p
        · unfold kidX; split <;> omega
    · exact ⟨[], rfl, trivial⟩
theorem layT_append : ∀ (as : List Nat) (us : List Th) (xs : List Th) (bs : List Nat) (vs : List Th), as.length = us.length → layT xs (as ++ bs) (us ++ vs) = layT (layT xs as us) bs vs
  | [], [], xs, bs, vs, _ => by simp [layT]
  | a :: as, u :: us, xs, bs, vs, h => by simp only [List.cons_append, layT]; exact layT_append as us _ bs vs (by simpa using h)
  | [], _ :: _, _, _, _, h => by simp at h
  | _ :: _, [], _, _, _, h => by simp at h
theorem layT_set {q : Nat} {y : Th} : ∀ (bs : List Nat) (vs : List Th) (ys : List Th), q ∉ bs → (layT ys bs vs).set q y = layT (ys.set q y) bs vs
  | [], vs, ys, _ => by simp [layT]
  | b :: bs, [], ys, _ => by simp [layT]
  | b :: bs, v :: vs, ys, h => by
    simp only [layT]
    rw [layT_set bs vs _ (fun m => h (.tail _ m)), List.set_comm _ _ (by rintro rfl; exact h (.head _))]
theorem layT_get {q : Nat} : ∀ (bs : List Nat) (vs : List Th) (ys : List Th), q ∉ bs → (layT ys bs vs).getD q (.i 0) = ys.getD q (.i 0)
  | [], vs, ys, _ => by simp [layT]
  | b :: bs, [], ys, _ => by simp [layT]
  | b :: bs, v :: vs, ys, h => by
    simp only [layT]
    rw [layT_get bs vs _ (fun m => h (.tail _ m)), List.getD_eq_getElem?_getD, List.getElem?_set_ne (by rintro rfl; exact h (.head _)), ← List.getD_eq_getElem?_getD]
/-- the places ahead, the nearest first, up to s -/
noncomputable def Ahead (s : Nat) : Nat → List Nat → Prop
  | q, [] => q = s
  | q, a :: rp => a < q ∧ (q - 1) / 2 = a ∧ Ahead s a rp
theorem Ahead.le {s : Nat} : ∀ {rp : List Nat} {q : Nat}, Ahead s q rp → s ≤ q
  | [], q, h => by have h : q = s := h; omega
  | a :: rp, q, h => by have := Ahead.le h.2.2; have := h.1; omega
theorem layT_at {xs : List Th} {as bs : List Nat} {us vs : List Th} {q : Nat} {z y : Th} (hl : as.length = us.length) (hq : q ∉ bs) : (layT xs (as ++ q :: bs) (us ++ z :: vs)).set q y = layT xs (as ++ q :: bs) (us ++ y :: vs) := by
  rw [layT_append _ _ _ _ _ hl, layT_append _ _ _ _ _ hl]
  simp only [layT]
  rw [layT_set _ _ _ hq, List.set_set]
theorem layT_read {xs : List Th} {as bs : List Nat} {us vs : List Th} {q : Nat} {z : Th} (hl : as.length = us.length) (hq : q ∉ bs) (hlt : q < xs.length) : (layT xs (as ++ q :: bs) (us ++ z :: vs)).getD q (.i 0) = z := by
  rw [layT_append _ _ _ _ _ hl]
  simp only [layT]
  rw [layT_get _ _ _ hq, List.getD_eq_getElem?_getD, List.getElem?_set_self (by rw [layT_len]; exact hlt)]; rfl
theorem downX_back (xs : List Th) (x : Th) (s : Nat) : ∀ (rp : List Nat) (ra : List Th) (q : Nat) (z : Th) (bs : List Nat) (tl : List Th), rp.length = ra.length → Ahead s q rp → (rp.reverse ++ q :: bs).Nodup → (∀ p ∈ rp.reverse ++ q :: bs, p < xs.length) →
    downX s x (layT xs (rp.reverse ++ q :: bs) (ra.reverse ++ z :: tl)) q = (layT xs (rp.reverse ++ q :: bs) (backT x ra z tl).1, (backT x ra z tl).2) := by
  intro rp
  induction rp with
  | nil =>
    intro ra q z bs tl h1 h2 nd hlt
    obtain rfl : ra = [] := List.eq_nil_of_length_eq_zero h1.symm
    have h2 : q = s := h2
    have hq : q ∉ bs := by simp at nd; exact nd.1
    rw [downX.eq_def, dif_neg (by omega), layT_at rfl hq]; rfl
  | cons a rp ih =>
    intro ra q z bs tl h1 h2 nd hlt
    cases ra with
    | nil => simp at h1
    | cons h ra =>
      obtain ⟨aq, par, ah⟩ := h2
      have sa := ah.le
      have hl : (a :: rp).reverse.length = (h :: ra).reverse.length := by simpa using h1
      have hq : q ∉ bs := by
        have := (List.nodup_append.mp nd).2.1
        simp at this; exact this.1
      have split : ∀ (r : List Nat) (u : Nat) (v : List Nat), (u :: r).reverse ++ v = r.reverse ++ u :: v := fun r u v => by simp
      have splitT : ∀ (r : List Th) (u : Th) (v : List Th), (u :: r).reverse ++ v = r.reverse ++ u :: v := fun r u v => by simp
      have an : a ∉ q :: bs := by
        rw [split] at nd
        have := (List.nodup_append.mp nd).2.1
        exact (List.nodup_cons.mp this).1
      have alt : a < xs.length := hlt a (by simp)
      have rd : (layT xs ((a :: rp).reverse ++ q :: bs) ((h :: ra).reverse ++ z :: tl)).getD a x = h := by
        have e := layT_read (xs := xs) (as := rp.reverse) (us := ra.reverse) (q := a) (z := h) (bs := q :: bs) (vs := z :: tl) (by simpa using h1) an alt
        rw [split, splitT]
        rw [List.getD_eq_getElem?_getD, List.getElem?_eq_getElem (by rw [layT_len]; exact alt)] at e ⊢
        exact e
      rw [downX.eq_def, dif_pos (by omega), par, rd]
      unfold backT
      by_cases ck : h.isI = x.isI
      · rw [if_pos ck, if_pos ck]
        by_cases cc : h.lt x = true
        · rw [if_pos cc, if_pos cc, layT_at hl hq, split, splitT]
          rw [split] at nd hlt
          exact ih ra a h (q :: bs) (h :: tl) (by simpa using h1) ah nd hlt
        · rw [if_neg cc, if_neg cc, layT_at hl hq, splitT]
      · rw [if_neg ck, if_neg ck, splitT]
theorem ChainT.gt : ∀ {r : List Nat} {a : Nat}, ChainT a r → ∀ b ∈ r, a < b
  | [], _, _, _, m => by cases m
  | c :: r, a, h, b, m => by
    rcases List.mem_cons.mp m with rfl | m
    · exact h.1
    · exact Nat.lt_trans h.1 (ChainT.gt h.2.2 b m)
theorem ChainT.nodup : ∀ {r : List Nat} {a : Nat}, ChainT a r → (a :: r).Nodup
  | [], _, _ => by simp
  | c :: r, a, h => by
    refine List.nodup_cons.mpr ⟨fun m => Nat.lt_irrefl _ (h.gt _ m), ChainT.nodup h.2.2⟩
theorem Ahead.snoc {s : Nat} : ∀ {rp : List Nat} {q a : Nat}, Ahead a q rp → s < a → (a - 1) / 2 = s → Ahead s q (rp ++ [s])
  | [], q, a, h, h1, h2 => by
    have h : q = a := h
    subst h; exact ⟨h1, h2, rfl⟩
  | b :: rp, q, a, h, h1, h2 => ⟨h.1, h.2.1, Ahead.snoc h.2.2 h1 h2⟩
/-- the places ahead of a way's last one -/
theorem ChainT.ahead : ∀ {r : List Nat} {a : Nat}, ChainT a r → Ahead a ((a :: r).getLastD a) ((a :: r).dropLast.reverse)
  | [], a, _ => rfl
  | c :: r, a, h => by
    have ih := ChainT.ahead h.2.2
    have := Ahead.snoc ih h.1 h.2.1
    simpa [List.getLastD] using this
theorem layT_short : ∀ (as : List Nat) (us : List Th) (xs : List Th) (q : Nat), as.length = us.length → layT xs (as ++ [q]) us = layT xs as us
  | [], [], xs, q, _ => rfl
  | a :: as, u :: us, xs, q, h => by simp only [List.cons_append, layT]; exact layT_short as us _ q (by simpa using h)
  | [], _ :: _, _, _, h => by simp at h
  | _ :: _, [], _, _, h => by simp at h
theorem layT_snoc (as : List Nat) (us : List Th) (xs : List Th) (q : Nat) (y : Th) (h : as.length = us.length) : (layT xs (as ++ [q]) us).set q y = layT xs (as ++ [q]) (us ++ [y]) := by
  rw [layT_short as us xs q h, layT_append as us xs [q] [y] h]; rfl
/-- what the whole sift makes, along the way -/
theorem siftX_way (xs : List Th) (p : Nat) (hp : p < xs.length) (hb : ∀ q ∈ (wayT xs xs.length p).1, q < xs.length) : siftX xs p (xs.getD p (.i 0)) =
    match (wayT xs xs.length p).2 with
    | some w => (layT xs (wayT xs xs.length p).1 ((rowT xs (wayT xs xs.length p).1).tail), some w)
    | none => (layT xs (wayT xs xs.length p).1 (backT (xs.getD p (.i 0)) ((rowT xs (wayT xs xs.length p).1).tail.reverse) (xs.getD p (.i 0)) []).1, (backT (xs.getD p (.i 0)) ((rowT xs (wayT xs xs.length p).1).tail.reverse) (xs.getD p (.i 0)) []).2) := by
  unfold siftX
  rw [upX_way xs xs.length p xs (by omega) rfl hp (fun _ _ => rfl)]
  obtain ⟨r, e, ch⟩ := wayT_chain xs xs.length p
  cases hw : (wayT xs xs.length p).2 with
  | some w => rfl
  | none =>
    rw [e] at hb ⊢
    dsimp only
    have nd := ch.nodup
    have ah := ch.ahead
    have sp : p :: r = (p :: r).dropLast ++ [(p :: r).getLastD p] := by
      rw [List.getLastD_eq_getLast?, List.getLast?_eq_getLast (List.cons_ne_nil _ _)]
      exact (List.dropLast_concat_getLast (List.cons_ne_nil _ _)).symm
    have hl : (p :: r).dropLast.length = (rowT xs (p :: r)).tail.length := by simp [rowT]
    have e2 := layT_snoc (p :: r).dropLast ((rowT xs (p :: r)).tail) xs ((p :: r).getLastD p) (xs.getD p (.i 0)) hl
    have key := downX_back xs (xs.getD p (.i 0)) p (p :: r).dropLast.reverse ((rowT xs (p :: r)).tail.reverse) ((p :: r).getLastD p) (xs.getD p (.i 0)) [] [] (by simpa using hl) ah (by rw [List.reverse_reverse, ← sp]; exact nd) (by rw [List.reverse_reverse, ← sp]; exact hb)
    rw [List.reverse_reverse, List.reverse_reverse, ← sp] at key
    rw [← sp] at e2
    rw [e2]
    exact key
theorem wayT_lt (xs : List Th) : ∀ (f p : Nat), p < xs.length → ∀ q ∈ (wayT xs f p).1, q < xs.length := by
  intro f
  induction f with
  | zero => intro p hp q m; simp [wayT] at m; omega
  | succ f ih =>
    intro p hp q m
    unfold wayT at m
    split at m
    · rename_i hc
      split at m
      · simp at m; omega
      · rcases List.mem_cons.mp m with rfl | m
        · exact hp
        · exact ih _ (kidX_lt xs p hc) q m
    · simp at m; omega
/-- the answer of the law's own _law_left for a row x :: t that is not refused on the way down -/
noncomputable def leftT (x : Th) (t : List Th) (s : Nat) : List Th × Option Str :=
  if (((x :: t).getD s x).isI = x.isI) then (t.take s ++ x :: t.drop s, none)
  else (t.take s ++ ((t.drop s).headD x) :: t.drop s, some (refuse ((x :: t).getD s x) x))
/-- where it stops: the last place that is of another kind or not less -/
noncomputable def stops (x : Th) (t : List Th) (k : Nat) : Prop := 0 < k ∧ k ≤ t.length ∧ (((x :: t).getD k x).isI ≠ x.isI ∨ ((x :: t).getD k x).lt x = false)
theorem backT_left (x : Th) (t : List Th) (s : Nat) (hs : s = 0 ∨ stops x t s) : ∀ k, s ≤ k → k ≤ t.length → (∀ j, s < j → j ≤ k → ¬ stops x t j) → backT x (t.take k).reverse ((t.drop k).headD x) (t.drop k) = leftT x t s := by
  intro k
  induction k with
  | zero =>
    intro h1 h2 h3
    obtain rfl : s = 0 := by omega
    simp [backT, leftT]
  | succ k ih =>
    intro h1 h2 h3
    have hk : k < t.length := by omega
    have e1 : (t.take (k + 1)).reverse = t[k] :: (t.take k).reverse := by rw [List.take_add_one, List.getElem?_eq_getElem hk]; simp
    have e2 : (x :: t).getD (k + 1) x = t[k] := by rw [List.getD_eq_getElem?_getD, List.getElem?_cons_succ, List.getElem?_eq_getElem hk]; rfl
    have e3 : t.drop k = t[k] :: t.drop (k + 1) := List.drop_eq_getElem_cons hk
    rw [e1]
    unfold backT
    by_cases hsk : s = k + 1
    · subst hsk
      have st : stops x t (k + 1) := hs.resolve_left (by omega)
      unfold leftT
      rw [e2]
      have tk : t.take (k + 1) = t.take k ++ [t[k]] := by rw [List.take_add_one, List.getElem?_eq_getElem hk]; rfl
      by_cases ck : t[k].isI = x.isI
      · rw [if_pos ck, if_pos ck]
        have : t[k].lt x = false := by
          rcases st.2.2 with h | h
          · rw [e2] at h; exact absurd ck h
          · rw [e2] at h; exact h
        rw [this, if_neg (by decide), tk, List.reverse_reverse, List.append_assoc]; rfl
      · rw [if_neg ck, if_neg ck, tk, List.reverse_reverse, List.append_assoc]; rfl
    · have ns := h3 (k + 1) (by omega) (Nat.le_refl _)
      have ck : t[k].isI = x.isI := by
        rcases Decidable.em (t[k].isI = x.isI) with h | h
        · exact h
        · exact absurd ⟨by omega, by omega, .inl (by rw [e2]; exact h)⟩ ns
      have cc : t[k].lt x = true := by
        cases h : t[k].lt x with
        | true => rfl
        | false => exact absurd ⟨by omega, by omega, .inr (by rw [e2]; exact h)⟩ ns
      rw [if_pos ck, if_pos cc]
      have := ih (by omega) (by omega) fun j a b => h3 j a (by omega)
      rw [e3] at this
      exact this
end

/-! E8 -/
/-! for c, x in zip(a, b): d[c] = x -/
theorem holds_same {h h' : Heap} {a : Addr} {o : AObj} (t : Tups h h') (x : Holds h a o) (same : ∀ b, h.get? a = some b → h'.get? a = some b) : Holds h' a o := by
  cases o with
  | list xs => obtain ⟨vs, n, e2, rr⟩ := x; exact ⟨vs, n, same _ e2, rr.tups t⟩
  | flist xs => obtain ⟨vs, ⟨o2, e2, r⟩, rr⟩ := x; exact ⟨vs, ⟨o2, same _ e2, r⟩, rr.tups t⟩
  | iter l i => cases l <;> (obtain ⟨o2, e2, r⟩ := x; exact ⟨o2, same _ e2, r⟩)
  | imap m n => exact holds_map t x same
theorem setList_int {prog : Program} {w : World} {A : Around} {s : Shared} {a : Addr} {vs : List Value} {n : Nat} {k : Int} {t : Tok} {v : Value} {Q : Unit → Shared → Prop} {E : Value → Shared → Prop} (g : s.heap.get? a = some (LObj vs n)) (h0 : 0 ≤ k) (hj : k < vs.length) (hb : vs.length ≤ BIG)
    (q : ∀ h' n', h'.get? a = some (LObj (vs.set k.toNat v) n') → Heap.SameBut a s.heap h' → Q () { s with heap := h' }) : wpAny (model prog w) A (setItem (.ref a) (.int k t) v) Q E s := by
  unfold BIG at hb
  have hl : s.heap.IsList a vs.toArray := LObj.isList g
  unfold setItem
  try with_reducible refine wpAny_holding ?_
  first | refine wpAny_bind (wpAny_pure ?_) | skip
  refine wpAny_bind (wpAny_sequenceKey hl.typeIs (by decide) ?_)
  refine wpAny_bind (wpAny_callSpecial?_slot (name := Str.ofString "__setitem__") hl.typeIs slot_list_setitem
    (wpAny_call_entry slot_list_setitem hl.typeIs entry_list_setitem ?_ (args_list_setitem _ _ _)))
  show wpAny _ _ (Builtin.List.listSubscript? (.int k t) >>= _) _ _ s
  refine wpAny_bind (wpAny_listSubscript_int (fitsIndex_of h0 (by omega)) ?_)
  obtain ⟨j, rfl⟩ := Int.eq_ofNat_of_zero_le h0
  have hj' : j < vs.toArray.size := by simp; omega
  have hx' : vs.toArray[j]? = some vs.toArray[j] := Array.getElem?_eq_getElem hj'
  show wpAny _ _ ((seqItemAt a j >>= fun r => pure (r.map (j, ·))) >>= _) _ _ s
  refine wpAny_bind (wpAny_bind (wpAny_seqItemAt (items := vs.toArray) (n := n) g rfl (wpAny_pure ?_)))
  rw [hx']
  show wpAny _ _ (setSeqItemAt a j v >>= _) _ _ s
  refine wpAny_bind (wpAny_setSeqItemAt (items := vs.toArray) (n := n) g rfl ?_)
  obtain ⟨m, e⟩ := LObj.update g (·.setIfInBounds j v)
  have fin := q _ m (by rw [e]; simp) (Heap.SameBut.update ..)
  first
    | exact wpAny_bind (wpAny_pure (wpAny_pure ⟨.none, rfl, wpAny_pure fin⟩))
    | exact wpAny_pure ⟨.none, rfl, wpAny_pure fin⟩
theorem setList_at {prog : Program} {w : World} {A : Around} {s : Shared} {a : Addr} {vs : List Value} {n j : Nat} {t : Tok} {v : Value} {Q : Unit → Shared → Prop} {E : Value → Shared → Prop} (g : s.heap.get? a = some (LObj vs n)) (hj : j < vs.length) (hb : vs.length ≤ BIG)
    (q : ∀ h' n', h'.get? a = some (LObj (vs.set j v) n') → Heap.SameBut a s.heap h' → Q () { s with heap := h' }) : wpAny (model prog w) A (setItem (.ref a) (.int j t) v) Q E s :=
  setList_int g (by omega) (by omega) hb (by simpa using q)
/-- two names out of a pair -/
theorem assign_two {prog : Program} {w : World} {A : Around} {s : Shared} {env : Env} {x1 x2 : Str} {p1 p2 tp : Pos} {kk : Nat} {T : Addr} {a b : Value} {m : Str → Option Value} {Q : Unit → Shared → Prop} {E : Value → Shared → Prop} (hh : A.handled = none)
    (hT : IsTup s.heap T #[a, b]) (k1 : env.kindOf x1 = some .local) (k2 : env.kindOf x2 = some .local) (hk : env.scope.kind = .function) (n : s.heap.Ns env.locals m)
    (q : ∀ h' tk, h'.Ns env.locals (fun y => if y = x2 then some b else if y = x1 then some a else m y) → (∀ c o, c ≠ env.locals → s.heap.get? c = some o → h'.get? c = some o) → Q () { s with heap := h', toks := tk }) :
    wpAny (model prog w) A (assign (.Tuple [.Name x1 p1, .Name x2 p2] kk tp) env (.ref T)) Q E s := by
  refine wpAny_assign_Tuple hh hT rfl rfl fun h' ext => ?_
  have n1 : h'.Ns env.locals m := n.at fun o e => ext _ o (Nat.ne_of_lt (Heap.lt_size e)) e
  show wpAny _ A (do holding [b] (assign (.Name x1 p1) env a); assignInOrder ((assignEach [.Name x2 p2] env).map (·.2)) [b]) _ _ _
  refine wpAny_bind (wpAny_holding (wpAny_assign_Name (wpAny_storeName_local (s := { s with heap := h' }) k1 n1 (fun h2 n2 sb2 => ?_) (by rw [hk]; rfl))))
  show wpAny _ A (do holding [] (assign (.Name x2 p2) env b); assignInOrder [] []) _ _ _
  refine wpAny_bind (wpAny_holding (wpAny_assign_Name (wpAny_storeName_local k2 n2 (fun h3 n3 sb3 => ?_) (by rw [hk]; rfl))))
  exact wpAny_pure (q h3 _ n3 fun c o nc e => sb3.extBut c o nc (sb2.extBut c o nc (ext c o (Nat.ne_of_lt (Heap.lt_size e)) e)))
noncomputable def setsL (ys : List V) (js : List Nat) (xs : List V) : List V := (js.zip xs).foldl (fun ys p => ys.set p.1 p.2) ys
theorem setsL_len (ys : List V) : ∀ (js : List Nat) (xs : List V), (setsL ys js xs).length = ys.length := by
  unfold setsL
  intro js xs
  generalize js.zip xs = l
  induction l generalizing ys with
  | nil => rfl
  | cons p l ih => simp only [List.foldl_cons]; rw [ih]; simp
theorem setsL_take {ys : List V} {js : List Nat} {xs : List V} {i j : Nat} {x : V} (e1 : js[i]? = some j) (e2 : xs[i]? = some x) : setsL ys (js.take (i + 1)) (xs.take (i + 1)) = (setsL ys (js.take i) (xs.take i)).set j x := by
  have h1 := (List.getElem?_eq_some_iff.mp e1).1
  have h2 := (List.getElem?_eq_some_iff.mp e2).1
  unfold setsL
  rw [List.take_add_one, List.take_add_one, e1, e2]
  simp only [Option.toList_some]
  rw [List.zip_append (by simp; omega), List.foldl_append]; rfl
inductive ZipSet (i1 i2 kd : Nat) (R : Fl → Frm → Hp → Prop) (F : Frm) (vs : List V) (σ : Hp) : Prop
  | mk (la lb ld : Addr) (js : List Nat) (xs ys : List V) (h1 : vs = [.ref la, .ref lb]) (h2 : listAt σ la = some (js.map fun (j : Nat) => V.int j)) (h3 : listAt σ lb = some xs) (h4 : js.length = xs.length) (h5 : F[kd]? = some (some (.ref ld))) (h6 : σ ld = some (.list ys)) (h7 : ∀ j ∈ js, j < ys.length) (h8 : la ≠ ld ∧ lb ≠ ld)
    (q : R .next ((F.set i1 none).set i2 none) (upd σ ld (.list (setsL ys js xs)))) : ZipSet i1 i2 kd R F vs σ
noncomputable def PS.zipset (i1 i2 kd : Nat) (a b : PE) : PS := fun Φ R F σ => vEs Φ [a, b] (ZipSet i1 i2 kd R F) F σ
/-- how it stands amid its turns -/
structure ZInv (hb : Heap) (L ld z TI TO a1 a2 la lb : Addr) (x1 x2 : Str) (m0 : Str → Option Value) (ys : List V) (js : List Nat) (xs : List V) (i : Nat) (h : Heap) : Prop where
  kp : ∀ b o, b ≠ ld → b ≠ L → hb.get? b = some o → h.get? b = some o
  ns : ∃ m, h.Ns L m ∧ ∀ y, y ≠ x1 → y ≠ x2 → m y = m0 y
  d : ∃ vs n, h.get? ld = some (LObj vs n) ∧ Reps hb vs (setsL ys (js.take i) (xs.take i))
  z : IsZip h z TI TO .none
  ti : IsPair h TI (.ref a1) (.ref a2)
  to : ∃ a b, IsPair h TO a b
  i1 : h.IsListIter a1 la i
  i2 : h.IsListIter a2 lb i

/-! P02b -/
section
open PySem
/-! law 02, plain: what the law says -/
theorem wayT_fuel (xs : List Th) : ∀ (f g p : Nat), xs.length - p ≤ f → xs.length - p ≤ g → wayT xs f p = wayT xs g p := by
  intro f
  induction f with
  | zero =>
    intro g p h1 h2
    cases g with
    | zero => rfl
    | succ g => unfold wayT; rw [if_neg (by omega)]
  | succ f ih =>
    intro g p h1 h2
    cases g with
    | zero => unfold wayT; rw [if_neg (by omega)]
    | succ g =>
      unfold wayT
      by_cases hc : 2 * p + 1 < xs.length
      · have := kidX_gt xs p
        rw [if_pos hc, if_pos hc, ih g (kidX xs p) (by omega) (by omega)]
      · rw [if_neg hc, if_neg hc]
noncomputable def wayP (xs : List Th) (p : Nat) : List Nat × Option Str := wayT xs xs.length p
theorem wayP_leaf {xs : List Th} {p : Nat} (h : xs.length ≤ 2 * p + 1) : wayP xs p = ([p], none) := by
  unfold wayP
  cases xs.length with
  | zero => rfl
  | succ n => unfold wayT; rw [if_neg (by omega)]
theorem wayP_apart {xs : List Th} {p : Nat} (h : 2 * p + 1 < xs.length) (a : apart xs p) : wayP xs p = ([p], some (refuse (xs.getD (2 * p + 2) (.i 0)) (xs.getD (2 * p + 1) (.i 0)))) := by
  unfold wayP
  obtain ⟨n, e⟩ : ∃ n, xs.length = n + 1 := ⟨xs.length - 1, by omega⟩
  rw [e]; unfold wayT; rw [if_pos h, if_pos a]
theorem wayP_on {xs : List Th} {p : Nat} (h : 2 * p + 1 < xs.length) (a : ¬ apart xs p) : wayP xs p = (p :: (wayP xs (kidX xs p)).1, (wayP xs (kidX xs p)).2) := by
  unfold wayP
  obtain ⟨n, e⟩ : ∃ n, xs.length = n + 1 := ⟨xs.length - 1, by omega⟩
  have g := kidX_gt xs p
  have e2 : wayT xs xs.length (kidX xs p) = wayT xs n (kidX xs p) := wayT_fuel xs _ _ _ (by omega) (by omega)
  rw [e2, e]
  conv => lhs; unfold wayT
  rw [if_pos h, if_neg a]
theorem wayP_lt {xs : List Th} {p : Nat} (h : p < xs.length) : ∀ q ∈ (wayP xs p).1, q < xs.length := wayT_lt xs _ p h
theorem wayP_head (xs : List Th) (p : Nat) : ∃ r, (wayP xs p).1 = p :: r := wayT_head xs _ p
theorem wayP_nodup (xs : List Th) (p : Nat) : (wayP xs p).1.Nodup := by
  obtain ⟨r, e, c⟩ := wayT_chain xs xs.length p
  unfold wayP; rw [e]; exact c.nodup
/-- what is left of a row -/
inductive LeftR : List Th → Option Str → List Th → Option Str → Prop
  | no (r : List Th) (y : Th) (w : Str) : LeftR (r ++ [y]) (some w) ((r ++ [y]).tail ++ [y]) (some w)
  | go (x : Th) (t : List Th) (s : Nat) (h : s = 0 ∨ stops x t s) (h2 : ∀ j, s < j → ¬ stops x t j) : LeftR (x :: t) none (leftT x t s).1 (leftT x t s).2
theorem leftT_len (x : Th) (t : List Th) (s : Nat) (hs : s ≤ t.length) : (leftT x t s).1.length = t.length + 1 := by
  unfold leftT
  split <;> (simp; omega)
theorem LeftR.len {r l : List Th} {w d : Option Str} (h : LeftR r w l d) : l.length = r.length := by
  cases h with
  | no r y w => simp
  | go x t s h h2 => rw [leftT_len x t s (by rcases h with h | h; omega; exact h.2.1)]; rfl
theorem layT_own (xs : List Th) (as : List Nat) (q : Nat) (us : List Th) (h : as.length = us.length) (hq : q ∉ as) (hl : q < xs.length) : layT xs (as ++ [q]) us = layT xs (as ++ [q]) (us ++ [xs.getD q (.i 0)]) := by
  rw [layT_short as us xs q h, layT_append as us xs [q] [_] h]
  show _ = (layT xs as us).set q _
  have e := layT_get (q := q) as us xs hq
  have hl2 : q < (layT xs as us).length := by rw [layT_len]; exact hl
  rw [← e, List.getD_eq_getElem?_getD, List.getElem?_eq_getElem hl2]
  exact (List.set_getElem_self hl2).symm
theorem siftX_left (xs : List Th) (p : Nat) (hp : p < xs.length) {l : List Th} {d : Option Str} (h : LeftR (rowT xs (wayP xs p).1) (wayP xs p).2 l d) : siftX xs p (xs.getD p (.i 0)) = (layT xs (wayP xs p).1 l, d) := by
  rw [siftX_way xs p hp (wayP_lt hp)]
  show (match (wayP xs p).2 with
    | some w => (layT xs (wayP xs p).1 ((rowT xs (wayP xs p).1).tail), some w)
    | none => (layT xs (wayP xs p).1 (backT (xs.getD p (.i 0)) ((rowT xs (wayP xs p).1).tail.reverse) (xs.getD p (.i 0)) []).1, (backT (xs.getD p (.i 0)) ((rowT xs (wayP xs p).1).tail.reverse) (xs.getD p (.i 0)) []).2)) = _
  obtain ⟨r, er⟩ := wayP_head xs p
  have nd := wayP_nodup xs p
  have lt := wayP_lt hp
  generalize (wayP xs p).2 = w at h
  generalize (wayP xs p).1 = way at *
  cases w with
  | some w =>
    generalize hrow : rowT xs way = row at h
    cases h with
    | no r0 y w =>
      dsimp only
      have sp : way = way.dropLast ++ [way.getLastD p] := by
        subst er
        rw [List.getLastD_eq_getLast?, List.getLast?_eq_getLast (List.cons_ne_nil _ _)]
        exact (List.dropLast_concat_getLast (List.cons_ne_nil _ _)).symm
      have ly : y = xs.getD (way.getLastD p) (.i 0) := by
        unfold rowT at hrow
        rw [sp, List.map_append] at hrow
        have := List.append_inj_right' hrow rfl
        simpa using this.symm
      rw [ly]
      have hll : way.dropLast.length = (r0 ++ [xs.getD (way.getLastD p) (.i 0)]).tail.length := by
        rw [← ly, ← hrow]; simp [rowT]
      rw [sp] at nd lt ⊢
      rw [List.nodup_append] at nd
      have key := layT_own xs way.dropLast (way.getLastD p) _ hll (fun m => nd.2.2 _ m _ (.head _) rfl) (lt _ (by simp))
      simp only [List.getLastD_concat] at key ⊢
      rw [key]
  | none =>
    dsimp only
    subst er
    have e0 : rowT xs (p :: r) = xs.getD p (.i 0) :: rowT xs r := rfl
    rw [e0] at h ⊢
    generalize xs.getD p (.i 0) = x at *
    generalize rowT xs r = t at *
    generalize hrow : x :: t = row at h
    generalize hno : (none : Option Str) = no at h
    cases h with
    | no r0 y w => cases hno
    | go x t s h h2 =>
      cases hrow
      have hs : s ≤ t.length := by rcases h with h | h; omega; exact h.2.1
      have := backT_left x t s h t.length hs (Nat.le_refl _) (fun j a _ => h2 j a)
      rw [List.take_of_length_le (Nat.le_refl _), List.drop_eq_nil_of_le (Nat.le_refl _)] at this
      rw [List.tail_cons, ← this]
      rfl
theorem setsL_layT : ∀ (way : List Nat) (l xs : List Th), setsL (xs.map Th.v) way (l.map Th.v) = (layT xs way l).map Th.v
  | [], l, xs => by simp [setsL, layT]
  | p :: ps, [], xs => by simp [setsL, layT]
  | p :: ps, t :: ts, xs => by
    have ih := setsL_layT ps ts (xs.set p t)
    unfold setsL at ih ⊢
    simp only [List.map_cons, List.zip_cons_cons, List.foldl_cons, layT, ← List.map_set]
    exact ih
theorem refuse_ne (x y : Th) : refuse x y ≠ Str.ofString "" := by
  cases x <;> cases y
  · show ltWords "int" "int" ≠ _; decide +kernel
  · show ltWords "int" "str" ≠ _; decide +kernel
  · show ltWords "str" "int" ≠ _; decide +kernel
  · show ltWords "str" "str" ≠ _; decide +kernel
end

/-! E9 -/
section
variable {h₀ hb h : Heap} {c : Cfg} {env : Env} {own : Addr → Prop} {F : Frm} {σ : Hp} {ld : Addr} {x1 x2 : Str} {i1 i2 : Nat} {m0 : Str → Option Value} {ys zs : List V}
theorem zset_over (hw : W h₀ σ hb) (hf : FrOk c env own F h₀ σ hb) (hm0 : ∀ (i : Nat) x v, c.names[i]? = some x → env.kindOf x = some .local → F[i]? = some (some v) → ∃ w, m0 x = some w ∧ Rep hb w v) (hn0 : hb.Ns env.locals m0)
    (h6 : σ ld = some (.list ys)) (e1 : c.names[i1]? = some x1) (e2 : c.names[i2]? = some x2) (hz : zs.length ≤ BIG) (kp : ∀ b o, b ≠ ld → b ≠ env.locals → hb.get? b = some o → h.get? b = some o) (ns : ∃ m, h.Ns env.locals m ∧ ∀ y, y ≠ x1 → y ≠ x2 → m y = m0 y)
    (d : ∃ vs n, h.get? ld = some (LObj vs n) ∧ Reps hb vs zs) : StepX own h₀ σ hb (upd σ ld (.list zs)) h ∧ FrOk c env own ((F.set i1 none).set i2 none) h₀ (upd σ ld (.list zs)) h := by
  obtain ⟨m, nm, hm⟩ := ns
  obtain ⟨vs, n, gd, rd⟩ := d
  have mld : Mut σ ld := ⟨_, h6, rfl⟩
  have Lld : env.locals ≠ ld := fun e => by have := hf.loc.2.1; rw [e, h6] at this; cases this
  have tups : Tups hb h := fun b o e i => kp b o (by rintro rfl; exact holds_not_imm (hw.holds _ _ h6) e i) (by rintro rfl; exact ns_not_imm hn0 _ e i) e
  have same : ∀ b, b ≠ ld → σ b ≠ none → ∀ ob, hb.get? b = some ob → h.get? b = some ob := fun b nb ns ob e => kp b ob nb (by rintro rfl; exact ns hf.loc.2.1) e
  have st : StepX own h₀ σ hb (upd σ ld (.list zs)) h := by
    refine ⟨⟨fun b o e => kp b o (by rintro rfl; rw [hw.above _ mld] at e; cases e) (by rintro rfl; rw [hf.loc.2.2] at e; cases e) (hw.stays b o e), fun b o e => ?_, fun b mb => ?_, upd_small hw.small hz⟩, fun a o na no _ e => kp a o (by rintro rfl; exact na mld) (by rintro rfl; exact no hf.loc.1) e, fun a o na no _ e => ⟨o.slots, kp a o (by rintro rfl; exact na mld) (by rintro rfl; exact no hf.loc.1) e⟩, upd_grow (.inl mld), tups, fun b o e => ?_⟩
    · unfold upd at e; split at e
      · rename_i q; subst q; cases e; exact ⟨vs, n, gd, rd.tups tups⟩
      · rename_i q; exact holds_same tups (hw.holds b o e) (same b q (by rw [e]; simp))
    · by_cases q : b = ld
      · subst q; exact hw.above _ mld
      · obtain ⟨p, ep, mp⟩ := mb; rw [upd_ne _ _ q] at ep; exact hw.above b ⟨p, ep, mp⟩
    · by_cases q : b = ld
      · subst q; exact ⟨_, gd, fun dd => absurd dd (holds_notD (hw.holds _ _ h6) rfl e)⟩
      · by_cases q2 : b = env.locals
        · subst q2
          obtain ⟨o', es, ep, ho, hd, _⟩ := nm
          exact ⟨o', ho, fun _ => ⟨_, _, hd⟩⟩
        · exact ⟨o, kp b o q q2 e, id⟩
  have off : ∀ (j : Nat) (v : V), ((F.set i1 none).set i2 none)[j]? = some (some v) → j ≠ i1 ∧ j ≠ i2 ∧ F[j]? = some (some v) := fun j v e => by
    have one : ∀ (G : Frm) (i : Nat), (G.set i none)[j]? = some (some v) → j ≠ i ∧ G[j]? = some (some v) := fun G i e => by
      by_cases q : j = i
      · subst q
        rw [List.getElem?_set_self'] at e
        cases q2 : G[j]? with
        | none => rw [q2] at e; cases e
        | some z => rw [q2] at e; simp at e
      · rw [List.getElem?_set_ne (Ne.symm q)] at e; exact ⟨q, e⟩
    obtain ⟨n2, e⟩ := one _ _ e
    obtain ⟨n1, e⟩ := one _ _ e
    exact ⟨n1, n2, e⟩
  refine ⟨st, hf.kind, hf.glob, hf.bi, hf.gk, hf.vk, ⟨m, nm, fun j x v g1 g2 g3 => ?_⟩, fun j x g1 g2 => ?_, hf.inj, ⟨hf.loc.1, by rw [upd_ne _ _ Lld]; exact hf.loc.2.1, hf.loc.2.2⟩, hf.nd, fun a oa => (hf.ex a oa).elim fun o e => (st.alive a o e).imp fun _ q => q.1⟩
  · obtain ⟨n1, n2, g4⟩ := off j v g3
    obtain ⟨w, w1, w2⟩ := hm0 j x v g1 g2 g4
    refine ⟨w, ?_, w2.tups tups⟩
    rw [hm x (by rintro rfl; exact n1 (hf.nd _ _ _ g1 e1)) (by rintro rfl; exact n2 (hf.nd _ _ _ g1 e2))]; exact w1
  · obtain ⟨a, cv, b1, ⟨o, b2, b2'⟩, b3, b4, b5, b6⟩ := hf.cell j x g1 g2
    have nld : a ≠ ld := fun e => by rw [e, h6] at b3; cases b3
    refine ⟨a, cv, b1, ⟨o, kp a o nld b4 b2, b2'⟩, by rw [upd_ne _ _ nld]; exact b3, b4, b5, fun v hv => ?_⟩
    obtain ⟨w, w1, w2⟩ := b6 v (off j v hv).2.2
    exact ⟨w, w1, w2.tups tups⟩
end

/-! E10 -/
theorem ne_new {b n : Nat} (h : b < n) : b ≠ n + 4 ∧ b ≠ n + 3 ∧ b ≠ n ∧ b ≠ n + 1 := ⟨by omega, by omega, by omega, by omega⟩
theorem ne_new2 {b n : Nat} (h : b < n) : n + 2 ≠ b := by omega
theorem zip_boot : bootBuiltins ("zip" : Str) = some (.type "zip") := by decide +kernel
theorem CS.zipset {c : Cfg} {x1 x2 dn zn : Str} {i1 i2 kd kk : Nat} {e1 e2 : Expr} {a b : PE} {p1 p2 tp zp cp p3 p4 p5 p6 p7 p8 : Pos} (hz : zn = "zip") (zk : c.sc.lookup zn = some .globalImplicit) (args : CEs c [e1, e2] [a, b]) (n1 : c.names[i1]? = some x1) (n2 : c.names[i2]? = some x2) (nd : c.names[kd]? = some dn)
    (l1 : c.sc.lookup x1 = some .local) (l2 : c.sc.lookup x2 = some .local) (l3 : c.sc.lookup dn = some .local) (ne : x1 ≠ x2) (nd1 : dn ≠ x1) (nd2 : dn ≠ x2) (b1 : (x1 == ("__debug__" : Str)) = false) (b2 : (x2 == ("__debug__" : Str)) = false) (b3 : (dn == ("__debug__" : Str)) = false)
    (hs : ∀ env, swapsWith (.Name x2 p6) (some (.Subscript (.Name dn p3) (.Name x1 p4) p5)) p7.line env = pure false) :
    CS c (.For (.Tuple [.Name x1 p1, .Name x2 p2] kk tp) (.Call (.Name zn zp) [e1, e2] [] cp) [.Assign [.Subscript (.Name dn p3) (.Name x1 p4) p5] (.Name x2 p6) p7] [] p8) (.zipset i1 i2 kd a b) := by
  intro prog w h₀ mg mb Φ n A s σ env own F Q X T v
  subst hz
  have kl : ∀ {i : Nat} {x : Str}, c.names[i]? = some x → c.sc.lookup x = some .local → env.kindOf x = some .local := fun {i x} e l => by
    rcases X.f.vk i x e with ⟨_, k⟩ | ⟨q, _⟩ | ⟨q, _⟩
    · exact k
    all_goals rw [l] at q; cases q
  refine wpAny_For (Call_Name rfl (load_glob X.G X.w X.f zk (by decide) (.inr ⟨X.NM.fr _ (by decide +kernel), (X.G.boot _ (by decide)).trans zip_boot⟩) ?_))
  refine PyProof.Rows.callWith_type (star_plain args) (evalArgs_ces args (wpAny_mono (sEs args X v) (fun vs s₁ => PVs.on fun xs' σ₁ rs st m₁ q => ?_) fun _ _ f => f.elim))
  obtain ⟨la, lb, ld, js, xs, ys, rfl, g2, g3, g4, g5, g6, g7, g8, q⟩ := q
  obtain ⟨v1, v2, rfl, r1, r2⟩ := two_rep rs
  obtain rfl := r1.iref
  obtain rfl := r2.iref
  have hwb := st.w
  have hf := X.f.step st
  obtain ⟨ws1, hl1, rw1⟩ := hwb.list g2
  obtain ⟨ws2, hl2, rw2⟩ := hwb.list g3
  obtain ⟨vs0, n0, gd, rd⟩ := hwb.mlist g6
  have hys := hwb.len (listAt_list g6)
  have lw1 := rw1.length
  have lw2 := rw2.length
  rw [List.length_map] at lw1
  obtain ⟨m0, hn0, hm0⟩ := hf.ns
  obtain ⟨o1, ho1, _⟩ := id hl1
  obtain ⟨o2, ho2, _⟩ := id hl2
  obtain ⟨oL, _, _, hoL, _⟩ := id hn0
  have lo : ∀ b o, s₁.heap.get? b = some o → b < s₁.heap.objs.size := fun b o e => Heap.lt_size e
  have nL : ∀ l ys, listAt σ₁ l = some ys → l ≠ env.locals := fun l ys e q => by
    subst q
    have := hf.loc.2.1
    unfold listAt at e; rw [this] at e; cases e
  refine call_zip_2 hl1 hl2 fun h' hz hti hto it1 it2 sz k => wpAny_pyIter_zip hz ?_
  have ap := zipApart_new (n := s₁.heap.objs.size) (lo _ _ ho1) (lo _ _ ho2)
  refine codeAny_forLoop_any (fun m s' => ∃ i, i + m = js.length ∧ Sm s₁ s' ∧ ZInv s₁.heap env.locals ld (s₁.heap.objs.size + 4) (s₁.heap.objs.size + 2) (s₁.heap.objs.size + 3) s₁.heap.objs.size (s₁.heap.objs.size + 1) la lb x1 x2 m0 ys js xs i s'.heap) (fun mz s' hI => ?_) js.length
    ⟨0, by omega, ⟨rfl, rfl⟩, fun b o _ _ e => k b o e, ⟨m0, hn0.at fun o e => k _ o e, fun _ _ _ => rfl⟩, ⟨vs0, n0, k _ _ gd, rd⟩, hz, hti, ⟨_, _, hto⟩, it1, it2⟩
  obtain ⟨i, him, smI, I⟩ := hI
  have neZ : ∀ b : Addr, b < s₁.heap.objs.size → b ≠ s₁.heap.objs.size + 4 ∧ b ≠ s₁.heap.objs.size + 3 ∧ b ≠ s₁.heap.objs.size ∧ b ≠ s₁.heap.objs.size + 1 := fun b h => ne_new h
  have neL := neZ _ (lo _ _ hoL)
  have neD := neZ _ (lo _ _ gd)
  have Lld : env.locals ≠ ld := fun e => by have := hf.loc.2.1; rw [e, g6] at this; cases this
  obtain ⟨m, nm, hm⟩ := I.ns
  have hl1' : s'.heap.IsList la ws1.toArray := hl1.at fun o e => I.kp _ o g8.1 (nL _ _ g2) e
  have hl2' : s'.heap.IsList lb ws2.toArray := hl2.at fun o e => I.kp _ o g8.2 (nL _ _ g3) e
  obtain ⟨ta, tb, hto'⟩ := I.to
  by_cases hi : i < js.length
  · obtain ⟨w1, ew1, rp1⟩ := rw1.get (i := i) (x := .int (js[i] : Nat)) (by simp [hi])
    obtain ⟨w2, ew2, rp2⟩ := rw2.get (i := i) (x := xs[i]) (List.getElem?_eq_getElem (by omega))
    obtain ⟨t1, rfl⟩ := rp1.iint
    refine wpAny_pyNext_zip_item ap I.z I.ti hto' I.i1 I.i2 hl1' hl2' (x := .int (js[i] : Nat) t1) (y := w2) (by simpa using ew1) (by simpa using ew2) fun h1 a1 a2 a3 a4 a5 a6 a7 => ?_
    refine wpAny_letOwnedTupleGo_zip a1 fun h2 z2 sb2 => ?_
    have Tz : s'.heap.objs.size ≠ s₁.heap.objs.size + 4 := Nat.ne_of_gt (Heap.lt_size I.z)
    have TL : s'.heap.objs.size ≠ env.locals := fun e => by obtain ⟨o, _, _, ho, _⟩ := nm; have := Heap.lt_size ho; rw [← e] at this; exact Nat.lt_irrefl _ this
    have up2 : ∀ b o, b ≠ s₁.heap.objs.size + 4 → b ≠ s₁.heap.objs.size + 3 → b ≠ s₁.heap.objs.size → b ≠ s₁.heap.objs.size + 1 → s'.heap.get? b = some o → h2.get? b = some o := fun b o c1 c2 c3 c4 e => sb2.extBut _ _ c1 (a7 b o c1 c2 c3 c4 e)
    have hT : IsTup h2 s'.heap.objs.size #[.int (js[i] : Nat) t1, w2] := ⟨_, sb2.extBut _ _ Tz a5, rfl, 0, rfl⟩
    refine assign_two (s := { s' with heap := h2 }) X.R.handled hT (kl n1 l1) (kl n2 l2) hf.kind (nm.at fun o e => up2 _ o neL.1 neL.2.1 neL.2.2.1 neL.2.2.2 e) fun h3 tk n3 k3 => ?_
    obtain ⟨vs, nn, gdd, rdd⟩ := I.d
    have hvl := rdd.length
    rw [setsL_len] at hvl
    have gd3 : h3.get? ld = some (LObj vs nn) := k3 _ _ (Ne.symm Lld) (up2 _ _ neD.1 neD.2.1 neD.2.2.1 neD.2.2.2 gdd)
    obtain ⟨wd, ed, rpd⟩ := hm0 kd dn (.ref ld) nd (kl nd l3) g5
    obtain rfl := rpd.iref
    have jl : js[i] < vs.length := by rw [hvl]; exact g7 _ (List.getElem_mem hi)
    refine wpAny_execs_cons (wpAny_Assign_Subscript (wpAny_Name (wpAny_loadName_local hf.kind (kl n2 l2) n3 (if_pos rfl) (wpAny_Name (wpAny_loadName_local hf.kind (kl nd l3) n3 (v := .ref ld) (by show (if dn = x2 then some w2 else if dn = x1 then _ else m dn) = _; rw [if_neg nd2, if_neg nd1, hm _ nd1 nd2]; exact ed) (wpAny_Name (wpAny_loadName_local hf.kind (kl n1 l1) n3 (v := .int (js[i] : Nat) t1) (by show (if x1 = x2 then some w2 else if x1 = x1 then _ else m x1) = _; rw [if_neg ne, if_pos rfl]) ?_) b1)) b3)) b2) (hs env))
    refine setList_at gd3 jl (by rw [hvl]; exact hys) fun h4 n4 gd4 sb4 => wpAny_execs_nil ?_
    have up4 : ∀ b o, b ≠ ld → b ≠ env.locals → h2.get? b = some o → h4.get? b = some o := fun b o nb nl e => sb4.extBut _ _ nb (k3 _ _ nl e)
    have Zl : s₁.heap.objs.size ≠ ld ∧ s₁.heap.objs.size ≠ env.locals := ⟨neD.2.2.1.symm, neL.2.2.1.symm⟩
    refine ⟨mz - 1, by omega, i + 1, by omega, smI.trans ⟨rfl, rfl⟩, fun b o nb nl e => ?_, ⟨_, n3.at fun o e => sb4.extBut _ _ Lld e, fun y y1 y2 => ?_⟩, ⟨_, n4, gd4, ?_⟩, up4 _ _ neD.1.symm neL.1.symm z2, ?_, ?_, ?_, ?_⟩
    · exact up4 b o nb nl (up2 b o (neZ b (lo _ _ e)).1 (neZ b (lo _ _ e)).2.1 (neZ b (lo _ _ e)).2.2.1 (neZ b (lo _ _ e)).2.2.2 (I.kp b o nb nl e))
    · show (if y = x2 then some w2 else if y = x1 then _ else m y) = m0 y
      rw [if_neg y2, if_neg y1]; exact hm y y1 y2
    · rw [setsL_take (j := js[i]) (x := xs[i]) (List.getElem?_eq_getElem hi) (List.getElem?_eq_getElem (by omega))]
      exact rdd.set _ rp2
    · exact up4 _ _ (ne_new2 (lo _ _ gd)) (ne_new2 (lo _ _ hoL)) (sb2.extBut _ _ (by simp) (a7 _ _ (by simp) (by simp) (by simp) (by simp) I.ti))
    · exact ⟨_, _, up4 _ _ neD.2.1.symm neL.2.1.symm (sb2.extBut _ _ (by simp) a2)⟩
    · exact a3.at fun o e => up4 _ o Zl.1 Zl.2 (sb2.extBut _ _ (by simp) e)
    · exact a4.at fun o e => up4 _ o neD.2.2.2.symm neL.2.2.2.symm (sb2.extBut _ _ (by simp) e)
  · refine wpAny_pyNext_zip_end X.R.handled ap I.z I.ti hto' I.i1 I.i2 hl1' hl2' (.inl (by simp; omega)) fun h1 k1 => wpAny_execs_nil ?_
    have hil : i = js.length := by omega
    obtain ⟨vs, nn, gdd, rdd⟩ := I.d
    rw [hil, List.take_of_length_le (Nat.le_refl _), g4, List.take_of_length_le (Nat.le_refl _)] at rdd
    have k1' : ∀ b o, b < s₁.heap.objs.size → s'.heap.get? b = some o → h1.get? b = some o := fun b o lt e => k1 b o (neZ b lt).1 (neZ b lt).2.1 (neZ b lt).2.2.1 (neZ b lt).2.2.2 e
    obtain ⟨st2, fr2⟩ := zset_over (h := h1) hwb hf hm0 hn0 g6 n1 n2 (by rw [setsL_len]; exact hys) (fun b o nb nl e => k1' b o (lo _ _ e) (I.kp b o nb nl e)) ⟨m, nm.at fun o e => k1' _ o (lo _ _ hoL) e, hm⟩ ⟨vs, nn, k1' _ _ (lo _ _ gd) gdd, rdd⟩
    exact .next ((Step.any st).trans st2) (m₁.trans (smI.trans ⟨rfl, rfl⟩)) fr2 q

/-! L1 -/
/-! the two sifts, as plain functions -/
section
variable {α : Type}
end

theorem nth_nat {xs : List V} {k : Nat} : nth xs (k : Int) = xs[k]? := by unfold nth; simp
theorem opSub_list {σ : Hp} {a : Addr} {xs : List V} {k : Nat} {x : V} {Q : V → Hp → Prop} (h : σ a = some (.list xs)) (e : xs[k]? = some x) (q : Q x σ) : opSub (.ref a) (.int k) Q σ :=
  sub_list (listAt_list h) (by rw [nth_nat]; exact e) q
theorem opSet_list {σ : Hp} {a : Addr} {xs : List V} {k : Nat} {v : V} {Q : Hp → Prop} (h : σ a = some (.list xs)) (e : k < xs.length) (q : Q (upd σ a (.list (xs.set k v)))) : opSet (.ref a) (.int k) v Q σ :=
  set_list h (by omega) (by omega) (by simpa using q)

/-! R1 -/
theorem r_next (Q : V → Hp → Prop) (F : Frm) (σ : Hp) : retV Q .next F σ = Q .none σ := rfl
theorem r_ret (Q : V → Hp → Prop) (F : Frm) (σ : Hp) (v : V) : retV Q (.ret v) F σ = Q v σ := rfl
theorem big_of {n : Nat} (h : n ≤ 1000) : n ≤ BIG := by unfold BIG; omega
theorem rok_of {b : Int} {a : Int} (h0 : 0 ≤ b) (h : b ≤ 1000) (h1 : 0 ≤ a) (h2 : a ≤ 1000) : rok a b 1 := ⟨.inl rfl, by omega, by omega⟩
/-! rules for loops -/
noncomputable def Ext (σ σ' : Hp) : Prop := ∀ a o, σ a = some o → σ' a = some o
theorem Ext.rfl {σ : Hp} : Ext σ σ := fun _ _ h => h
theorem Ext.trans {a b c : Hp} (h : Ext a b) (g : Ext b c) : Ext a c := fun x o e => g x o (h x o e)
theorem Ext.upd {σ : Hp} {a : Addr} (o : AObj) (h : σ a = none) : Ext σ (upd σ a o) := fun b p e => by
  unfold Mine.upd; split
  · rename_i q; subst q; rw [h] at e; cases e
  · exact e
theorem Ext.listAt {σ σ' : Hp} (h : Ext σ σ') {a : Addr} {xs : List V} (e : listAt σ a = some xs) : listAt σ' a = some xs := by
  unfold Mine.listAt at *
  split at e
  · rename_i q; rw [h _ _ q]; exact e
  · rename_i q; rw [h _ _ q]; exact e
  · cases e
theorem Ext.fresh {σ σ' : Hp} (h : Ext σ σ') {a : Addr} (e : σ' a = none) : σ a = none := by
  cases q : σ a with
  | none => rfl
  | some o => rw [h _ _ q] at e; cases e
/-- what an iterator gives, while the heap is in H -/
noncomputable def Yields (H : Hp → Prop) : It → List V → Prop
  | I, [] => ∀ σ, H σ → itNext I σ = some none
  | I, x :: xs => ∃ I', (∀ σ, H σ → itNext I σ = some (some (x, I'))) ∧ Yields H I' xs
theorem yields_vals (H : Hp → Prop) : ∀ vs : List V, Yields H (.vals vs) vs
  | [] => fun _ _ => rfl
  | v :: vs => ⟨_, fun _ _ => rfl, yields_vals H vs⟩
theorem yields_rng (H : Hp → Prop) (c : Int) : ∀ (n : Nat) (x : Int), Yields H (.rng x n c) ((List.range n).map fun (i : Nat) => V.int (x + (i : Int) * c))
  | 0, x => fun _ _ => rfl
  | n + 1, x => by
    have := yields_rng H c n (x + c)
    rw [List.range_succ_eq_map, List.map_cons, List.map_map]
    have e : (fun (i : Nat) => V.int (x + (i : Int) * c)) ∘ Nat.succ = fun (i : Nat) => V.int (x + c + (i : Int) * c) := by
      funext i; simp only [Function.comp]; congr 1
      have : ((i.succ : Nat) : Int) = i + 1 := rfl
      rw [this, Int.add_mul]; omega
    rw [e]
    refine ⟨_, fun _ _ => ?_, this⟩
    simp [itNext]
theorem yields_lst {H : Hp → Prop} {a : Addr} {xs : List V} (h : ∀ σ, H σ → listAt σ a = some xs) : ∀ (k i : Nat), xs.length - i = k → Yields H (.lst a i) (xs.drop i) := by
  intro k
  induction k with
  | zero =>
    intro i hk
    rw [List.drop_eq_nil_of_le (by omega)]
    intro σ hs
    simp only [itNext, h σ hs]; rw [List.getElem?_eq_none (by omega)]
  | succ k ih =>
    intro i hk
    have hi : i < xs.length := by omega
    rw [List.drop_eq_getElem_cons hi]
    refine ⟨.lst a (i + 1), fun σ hs => ?_, ih (i + 1) (by omega)⟩
    simp only [itNext, h σ hs]; rw [List.getElem?_eq_getElem hi]
/-- a comprehension whose steps only add to the heap -/
theorem comp_rule {Φ : Fns} {ifs : List PE} {elt : PE} {t : Tgt} {F0 : Frm} {Q : V → Hp → Prop} {σ : Hp} {I : It} {xs : List V} (g : V → Option V) (hb : xs.length ≤ BIG) (hy : Yields (Ext σ) I xs)
    (step : ∀ x ∈ xs, ∀ σ', Ext σ σ' → ∀ (K : V → Hp → Prop) (N : Hp → Prop), (∀ y σ'', g x = some y → Ext σ' σ'' → K y σ'') → (g x = none → ∀ σ'', Ext σ' σ'' → N σ'') → bindT t x (fun F1 => vTs Φ ifs (fun b σ => if b then vE Φ elt K F1 σ else N σ) F1 σ') F0 σ')
    (q : ∀ σ', Ext σ σ' → ∀ a, σ' a = none → Q (.ref a) (upd σ' a (.list (xs.filterMap g)))) :
    CompG Φ ifs elt t F0 Q I σ := by
  refine ⟨fun n I acc τ => ∃ rest pre, rest.length = n ∧ xs = pre ++ rest ∧ Yields (Ext σ) I rest ∧ acc = pre.filterMap g ∧ Ext σ τ, ⟨_, xs, [], rfl, rfl, hy, rfl, .rfl⟩, ?_⟩
  rintro n I acc τ ⟨rest, pre, rfl, hx, hy, rfl, he⟩
  have la : (pre.filterMap g).length ≤ pre.length := List.length_filterMap_le ..
  cases rest with
  | nil =>
    rw [hy τ he]
    simp only [List.append_nil] at hx; subst hx
    exact ⟨Nat.le_trans la hb, q τ he⟩
  | cons x rest =>
    obtain ⟨I', e, hy'⟩ := hy
    rw [e τ he]
    have lx : pre.length + (rest.length + 1) ≤ BIG := by rw [hx] at hb; simpa using hb
    refine step x (by rw [hx]; simp) τ he _ _ (fun y τ' hg h => ⟨by omega, rest.length, by simp, rest, pre ++ [x], rfl, by rw [hx]; simp, hy', by simp [List.filterMap_append, hg], he.trans h⟩) (fun hg τ' h => ⟨rest.length, by simp, rest, pre ++ [x], rfl, by rw [hx]; simp, hy', by simp [List.filterMap_append, hg], he.trans h⟩)
/-- a loop over what is there -/
theorem for_rule {Φ : Fns} {b : List PS} {t : Tgt} {F : Frm} {Q : Fl → Frm → Hp → Prop} {σ : Hp} {I : It} {xs : List V} (J : Nat → Frm → Hp → Prop) (hy : Yields (fun τ => ∃ i F, J i F τ) I xs) (h0 : J 0 F σ)
    (step : ∀ i x F σ, xs[i]? = some x → J i F σ → ∀ K : Fl → Frm → Hp → Prop, (∀ F σ, J (i + 1) F σ → K .next F σ) → (∀ F σ, J (i + 1) F σ → K .cont F σ) → (∀ F σ, Q .next F σ → K .brk F σ) → (∀ v F σ, Q (.ret v) F σ → K (.ret v) F σ) → bindT t x (fun F1 => vSs Φ b K F1 σ) F σ)
    (fin : ∀ F σ, J xs.length F σ → Q .next F σ) :
    ForG Φ b t Q I F σ := by
  refine ⟨fun n I F τ => ∃ i, i + n = xs.length ∧ Yields (fun τ => ∃ i F, J i F τ) I (xs.drop i) ∧ J i F τ, ⟨xs.length, 0, by omega, by simpa using hy, h0⟩, ?_⟩
  rintro n I F τ ⟨i, hn, hy, hj⟩
  cases n with
  | zero =>
    rw [List.drop_eq_nil_of_le (by omega)] at hy
    rw [hy τ ⟨i, F, hj⟩]
    have : i = xs.length := by omega
    subst this; exact fin F τ hj
  | succ n =>
    have hi : i < xs.length := by omega
    rw [List.drop_eq_getElem_cons hi] at hy
    obtain ⟨I', e, hy'⟩ := hy
    rw [e τ ⟨i, F, hj⟩]
    exact step i _ F τ (List.getElem?_eq_getElem hi) hj _ (fun F' τ' h => ⟨n, by omega, i + 1, by omega, hy', h⟩) (fun F' τ' h => ⟨n, by omega, i + 1, by omega, hy', h⟩) (fun F' τ' h => h) (fun v F' τ' h => h)

/-! S1 -/
theorem mul_l {x y : Int} (h : PySem.Builtin.Int.intBits x ≤ 64 := by decide) : IntMulOk x y := IntMulOk.of_left h
theorem lt_of_some {α : Type} {ns : List α} {p : Nat} {x : α} (hx : ns[p]? = some x) : p < ns.length := by
  rcases Nat.lt_or_ge p ns.length with h | h
  · exact h
  · rw [List.getElem?_eq_none h] at hx; cases hx
theorem map_at {α : Type} {f : α → V} {ns : List α} {k : Nat} (x : α) (h : k < ns.length) : (ns.map f)[k]? = some (f (ns.getD k x)) := by
  simp [List.getElem?_eq_getElem h]
/-! E13 -/
/-! walking texts that may raise -/
noncomputable def seqX (Φ : Fns) (xs : List XS) (Q : Fl → Frm → Hp → Prop) (K : V → Hp → Prop) : Fl → Frm → Hp → Prop := fun fl F σ => Seq fl (vXs Φ xs Q K F σ) (Q fl F σ)
section
variable {Φ : Fns} {Q : Fl → Frm → Hp → Prop} {K : V → Hp → Prop} {F : Frm} {σ : Hp} {xs : List XS}
theorem gx_of {p : PS} (h : vS Φ p (seqX Φ xs Q K) F σ) : vXs Φ (XS.of p :: xs) Q K F σ := h
theorem qx_next (h : vXs Φ xs Q K F σ) : seqX Φ xs Q K .next F σ := ⟨h⟩
theorem qx_cont (h : Q .cont F σ) : seqX Φ xs Q K .cont F σ := ⟨h⟩
theorem qx_brk (h : Q .brk F σ) : seqX Φ xs Q K .brk F σ := ⟨h⟩
theorem qx_nil (h : Q .next F σ) : vXs Φ [] Q K F σ := h
theorem xs_ifs {c : XT} {a b : List PS} (h : c Φ (fun t σ => if t then vSs Φ a (seqX Φ xs Q K) F σ else vSs Φ b (seqX Φ xs Q K) F σ) K F σ) : vXs Φ (XS.ifs c a b :: xs) Q K F σ := h
theorem xt_lt {l r : PE} {P : Bool → Hp → Prop} (h : vE Φ l (fun a σ => vE Φ r (fun b σ => LtX P K σ a b) F σ) F σ) : XT.lt l r Φ P K F σ := h
theorem xs_asub {i : Nat} {o j : PE} (h : vE Φ o (fun a σ => vE Φ j (fun b σ => SubX (fun v σ => seqX Φ xs Q K .next (F.set i (some v)) σ) K σ a b) F σ) F σ) : vXs Φ (XS.assign i (.sub o j) :: xs) Q K F σ := h
theorem xs_call {i : Nat} {es : List PE} (h : vEs Φ es (fun vs σ => Φ (3000 + i) vs (codeQ (fun _ σ => seqX Φ xs Q K .next F σ) K) σ) F σ) : vXs Φ (XS.expr (.ucall i es) :: xs) Q K F σ := h
theorem xs_andlt {l o1 j1 o2 j2 : PE} {a : List PS} (h : vT Φ l (fun b σ => if b then vE Φ (.sub o1 j1) (fun x σ => vE Φ (.sub o2 j2) (fun y σ => LtX (fun b σ => if !b then vSs Φ a (seqX Φ xs Q K) F σ else seqX Φ xs Q K .next F σ) K σ x y) F σ) F σ else seqX Φ xs Q K .next F σ) F σ) : vXs Φ (XS.ifs (.and l (.not (.lt (.sub o1 j1) (.sub o2 j2)))) a [] :: xs) Q K F σ := h
theorem whileX_rule {c : PE} {b : List XS} (Inv : Nat → Frm → Hp → Prop) (n : Nat) (h0 : Inv n F σ)
    (step : ∀ n F σ, Inv n F σ → ∀ R : Fl → Frm → Hp → Prop, (∀ m F σ, m < n → Inv m F σ → R .next F σ) → (∀ m F σ, m < n → Inv m F σ → R .cont F σ) → (∀ F σ, vXs Φ xs Q K F σ → R .brk F σ) →
      vT Φ c (fun t σ => if t then vXs Φ b R K F σ else seqX Φ xs Q K .next F σ) F σ) : vXs Φ (XS.whil c b :: xs) Q K F σ := by
  exact ⟨Inv, ⟨n, h0⟩, fun n F σ h => step n F σ h (fun fl F σ => match fl with
    | .next => ∃ m, m < n ∧ Inv m F σ
    | .cont => ∃ m, m < n ∧ Inv m F σ
    | .brk => seqX Φ xs Q K .next F σ
    | .ret v => seqX Φ xs Q K (.ret v) F σ) (fun m F σ hm hi => ⟨m, hm, hi⟩) (fun m F σ hm hi => ⟨m, hm, hi⟩) (fun _ _ h => ⟨h⟩)⟩
end
theorem siftdownX_v (Φ : Fns) (args : List V) (Q : V → Hp → Prop) (σ : Hp) (F : Frm) (h : siftdownX args Q σ) (hF : F = args.map some ++ [none, none, none]) : vXs Φ xs_siftdown (retX Q) Q F σ := by
  obtain ⟨a, ns, s, p, x, rfl, hσ, hx, q⟩ := h
  subst hF
  have hp : p < ns.length := lt_of_some hx
  unfold xs_siftdown
  ((first | with_reducible refine gx_of ?_ | with_reducible refine go_cons ?_); ((try simp only [e_table, e_intT, e_int, e_bool, e_none, e_str, e_var, e_bin, e_neg, n_int, e_not, e_cmp, e_and, e_or, e_ite, e_sub, e_slice, e_list, e_tuple, e_call, e_ucall, e_meth, e_comp, t_not, t_and, t_or, t_cmp, t_var, t_sub, t_call, t_ucall, s_expr, s_assign, s_setitem, s_aug, s_augi, s_ifs, s_while, s_for, s_ret, s_brk, s_cont, ss_nil, c_range1, c_range2, c_range3, i_rng, i_ref, i_tup, i_enm, i_rev, bt_name, bt_tup, look_zero, look_succ, r_next, r_ret, sa_nil, sa_cons, es_nil, es_cons, o_none, o_some, ts_nil, ts_cons, c_lt, c_le, c_gt, c_ge, c_eq, c_ne, b_add, b_sub, b_mul, b_div, b_mod, b_pow, b_shr, a_add, a_mul, t_bool, t_int, List.map, List.cons_append, List.nil_append, List.getElem?_cons_succ, List.getElem?_cons_zero, List.set_cons_succ, List.set_cons_zero, frOf]); (repeat (first | with_reducible refine qx_next ?_ | with_reducible refine qx_cont ?_ | with_reducible refine qx_brk ?_ | with_reducible refine qx_nil ?_ | with_reducible refine q_nextI ?_ | with_reducible refine q_retI ?_ | with_reducible refine q_contI ?_ | with_reducible refine q_brkI ?_ | with_reducible refine ss_nilI ?_ | rw [q_next] | rw [q_ret] | rw [q_cont] | rw [q_brk] | rw [ss_nil])); (try simp only [r_next, r_ret])))
  refine opSub_list hσ (x := x.v) (by rw [List.getElem?_map, hx]; rfl) ?_
  ((try simp only [e_table, e_intT, e_int, e_bool, e_none, e_str, e_var, e_bin, e_neg, n_int, e_not, e_cmp, e_and, e_or, e_ite, e_sub, e_slice, e_list, e_tuple, e_call, e_ucall, e_meth, e_comp, t_not, t_and, t_or, t_cmp, t_var, t_sub, t_call, t_ucall, s_expr, s_assign, s_setitem, s_aug, s_augi, s_ifs, s_while, s_for, s_ret, s_brk, s_cont, ss_nil, c_range1, c_range2, c_range3, i_rng, i_ref, i_tup, i_enm, i_rev, bt_name, bt_tup, look_zero, look_succ, r_next, r_ret, sa_nil, sa_cons, es_nil, es_cons, o_none, o_some, ts_nil, ts_cons, c_lt, c_le, c_gt, c_ge, c_eq, c_ne, b_add, b_sub, b_mul, b_div, b_mod, b_pow, b_shr, a_add, a_mul, t_bool, t_int, List.map, List.cons_append, List.nil_append, List.getElem?_cons_succ, List.getElem?_cons_zero, List.set_cons_succ, List.set_cons_zero, frOf]); (repeat (first | with_reducible refine qx_next ?_ | with_reducible refine qx_cont ?_ | with_reducible refine qx_brk ?_ | with_reducible refine qx_nil ?_ | with_reducible refine q_nextI ?_ | with_reducible refine q_retI ?_ | with_reducible refine q_contI ?_ | with_reducible refine q_brkI ?_ | with_reducible refine ss_nilI ?_ | rw [q_next] | rw [q_ret] | rw [q_cont] | rw [q_brk] | rw [ss_nil])); (try simp only [r_next, r_ret]))
  refine whileX_rule (fun n F τ => ∃ ns' e4 e5, F = [some (.ref a), some (.int s), some (.int (n : Nat)), some x.v, e4, e5] ∧ τ = upd σ a (.list (ns'.map Th.v)) ∧ ns'.length = ns.length ∧ n < ns.length ∧ downX s x ns' n = downX s x ns p) p ⟨ns, none, none, rfl, (upd_id hσ).symm, rfl, hp, rfl⟩ ?_
  rintro p' F τ ⟨ns', e4, e5, rfl, rfl, hl, hp', eq⟩ R k1 k2 k3
  ((try simp only [e_table, e_intT, e_int, e_bool, e_none, e_str, e_var, e_bin, e_neg, n_int, e_not, e_cmp, e_and, e_or, e_ite, e_sub, e_slice, e_list, e_tuple, e_call, e_ucall, e_meth, e_comp, t_not, t_and, t_or, t_cmp, t_var, t_sub, t_call, t_ucall, s_expr, s_assign, s_setitem, s_aug, s_augi, s_ifs, s_while, s_for, s_ret, s_brk, s_cont, ss_nil, c_range1, c_range2, c_range3, i_rng, i_ref, i_tup, i_enm, i_rev, bt_name, bt_tup, look_zero, look_succ, r_next, r_ret, sa_nil, sa_cons, es_nil, es_cons, o_none, o_some, ts_nil, ts_cons, c_lt, c_le, c_gt, c_ge, c_eq, c_ne, b_add, b_sub, b_mul, b_div, b_mod, b_pow, b_shr, a_add, a_mul, t_bool, t_int, List.map, List.cons_append, List.nil_append, List.getElem?_cons_succ, List.getElem?_cons_zero, List.set_cons_succ, List.set_cons_zero, frOf]); (repeat (first | with_reducible refine qx_next ?_ | with_reducible refine qx_cont ?_ | with_reducible refine qx_brk ?_ | with_reducible refine qx_nil ?_ | with_reducible refine q_nextI ?_ | with_reducible refine q_retI ?_ | with_reducible refine q_contI ?_ | with_reducible refine q_brkI ?_ | with_reducible refine ss_nilI ?_ | rw [q_next] | rw [q_ret] | rw [q_cont] | rw [q_brk] | rw [ss_nil])); (try simp only [r_next, r_ret]))
  have fin : ∀ e4 e5, downX s x ns' p' = (ns'.set p' x, none) → vXs Φ [XS.of (.setitem (.var 0) (.var 2) (.var 3))] (retX Q) Q [some (.ref a), some (.int s), some (.int (p' : Nat)), some x.v, e4, e5] (upd σ a (.list (ns'.map Th.v))) := fun e4 e5 e => by
    ((first | with_reducible refine gx_of ?_ | with_reducible refine go_cons ?_); ((try simp only [e_table, e_intT, e_int, e_bool, e_none, e_str, e_var, e_bin, e_neg, n_int, e_not, e_cmp, e_and, e_or, e_ite, e_sub, e_slice, e_list, e_tuple, e_call, e_ucall, e_meth, e_comp, t_not, t_and, t_or, t_cmp, t_var, t_sub, t_call, t_ucall, s_expr, s_assign, s_setitem, s_aug, s_augi, s_ifs, s_while, s_for, s_ret, s_brk, s_cont, ss_nil, c_range1, c_range2, c_range3, i_rng, i_ref, i_tup, i_enm, i_rev, bt_name, bt_tup, look_zero, look_succ, r_next, r_ret, sa_nil, sa_cons, es_nil, es_cons, o_none, o_some, ts_nil, ts_cons, c_lt, c_le, c_gt, c_ge, c_eq, c_ne, b_add, b_sub, b_mul, b_div, b_mod, b_pow, b_shr, a_add, a_mul, t_bool, t_int, List.map, List.cons_append, List.nil_append, List.getElem?_cons_succ, List.getElem?_cons_zero, List.set_cons_succ, List.set_cons_zero, frOf]); (repeat (first | with_reducible refine qx_next ?_ | with_reducible refine qx_cont ?_ | with_reducible refine qx_brk ?_ | with_reducible refine qx_nil ?_ | with_reducible refine q_nextI ?_ | with_reducible refine q_retI ?_ | with_reducible refine q_contI ?_ | with_reducible refine q_brkI ?_ | with_reducible refine ss_nilI ?_ | rw [q_next] | rw [q_ret] | rw [q_cont] | rw [q_brk] | rw [ss_nil])); (try simp only [r_next, r_ret])))
    refine opSet_list (upd_same _ _ _) (by rw [List.length_map]; omega) ?_
    rw [upd_upd]
    ((try simp only [e_table, e_intT, e_int, e_bool, e_none, e_str, e_var, e_bin, e_neg, n_int, e_not, e_cmp, e_and, e_or, e_ite, e_sub, e_slice, e_list, e_tuple, e_call, e_ucall, e_meth, e_comp, t_not, t_and, t_or, t_cmp, t_var, t_sub, t_call, t_ucall, s_expr, s_assign, s_setitem, s_aug, s_augi, s_ifs, s_while, s_for, s_ret, s_brk, s_cont, ss_nil, c_range1, c_range2, c_range3, i_rng, i_ref, i_tup, i_enm, i_rev, bt_name, bt_tup, look_zero, look_succ, r_next, r_ret, sa_nil, sa_cons, es_nil, es_cons, o_none, o_some, ts_nil, ts_cons, c_lt, c_le, c_gt, c_ge, c_eq, c_ne, b_add, b_sub, b_mul, b_div, b_mod, b_pow, b_shr, a_add, a_mul, t_bool, t_int, List.map, List.cons_append, List.nil_append, List.getElem?_cons_succ, List.getElem?_cons_zero, List.set_cons_succ, List.set_cons_zero, frOf]); (repeat (first | with_reducible refine qx_next ?_ | with_reducible refine qx_cont ?_ | with_reducible refine qx_brk ?_ | with_reducible refine qx_nil ?_ | with_reducible refine q_nextI ?_ | with_reducible refine q_retI ?_ | with_reducible refine q_contI ?_ | with_reducible refine q_brkI ?_ | with_reducible refine ss_nilI ?_ | rw [q_next] | rw [q_ret] | rw [q_cont] | rw [q_brk] | rw [ss_nil])); (try simp only [r_next, r_ret]))
    rw [← eq, e] at q
    rw [← List.map_set]; exact q
  by_cases hgt : s < p'
  · rw [decide_eq_true (by omega), if_pos rfl]
    ((first | with_reducible refine gx_of ?_ | with_reducible refine go_cons ?_); ((try simp only [e_table, e_intT, e_int, e_bool, e_none, e_str, e_var, e_bin, e_neg, n_int, e_not, e_cmp, e_and, e_or, e_ite, e_sub, e_slice, e_list, e_tuple, e_call, e_ucall, e_meth, e_comp, t_not, t_and, t_or, t_cmp, t_var, t_sub, t_call, t_ucall, s_expr, s_assign, s_setitem, s_aug, s_augi, s_ifs, s_while, s_for, s_ret, s_brk, s_cont, ss_nil, c_range1, c_range2, c_range3, i_rng, i_ref, i_tup, i_enm, i_rev, bt_name, bt_tup, look_zero, look_succ, r_next, r_ret, sa_nil, sa_cons, es_nil, es_cons, o_none, o_some, ts_nil, ts_cons, c_lt, c_le, c_gt, c_ge, c_eq, c_ne, b_add, b_sub, b_mul, b_div, b_mod, b_pow, b_shr, a_add, a_mul, t_bool, t_int, List.map, List.cons_append, List.nil_append, List.getElem?_cons_succ, List.getElem?_cons_zero, List.set_cons_succ, List.set_cons_zero, frOf]); (repeat (first | with_reducible refine qx_next ?_ | with_reducible refine qx_cont ?_ | with_reducible refine qx_brk ?_ | with_reducible refine qx_nil ?_ | with_reducible refine q_nextI ?_ | with_reducible refine q_retI ?_ | with_reducible refine q_contI ?_ | with_reducible refine q_brkI ?_ | with_reducible refine ss_nilI ?_ | rw [q_next] | rw [q_ret] | rw [q_cont] | rw [q_brk] | rw [ss_nil])); (try simp only [r_next, r_ret])))
    refine ⟨by omega, trivial, ?_⟩
    have e1 : ((p' : Int) - 1) / 2 = ((p' - 1) / 2 : Nat) := by omega
    rw [e1]
    have hq : (p' - 1) / 2 < ns'.length := by omega
    ((try simp only [e_table, e_intT, e_int, e_bool, e_none, e_str, e_var, e_bin, e_neg, n_int, e_not, e_cmp, e_and, e_or, e_ite, e_sub, e_slice, e_list, e_tuple, e_call, e_ucall, e_meth, e_comp, t_not, t_and, t_or, t_cmp, t_var, t_sub, t_call, t_ucall, s_expr, s_assign, s_setitem, s_aug, s_augi, s_ifs, s_while, s_for, s_ret, s_brk, s_cont, ss_nil, c_range1, c_range2, c_range3, i_rng, i_ref, i_tup, i_enm, i_rev, bt_name, bt_tup, look_zero, look_succ, r_next, r_ret, sa_nil, sa_cons, es_nil, es_cons, o_none, o_some, ts_nil, ts_cons, c_lt, c_le, c_gt, c_ge, c_eq, c_ne, b_add, b_sub, b_mul, b_div, b_mod, b_pow, b_shr, a_add, a_mul, t_bool, t_int, List.map, List.cons_append, List.nil_append, List.getElem?_cons_succ, List.getElem?_cons_zero, List.set_cons_succ, List.set_cons_zero, frOf]); (repeat (first | with_reducible refine qx_next ?_ | with_reducible refine qx_cont ?_ | with_reducible refine qx_brk ?_ | with_reducible refine qx_nil ?_ | with_reducible refine q_nextI ?_ | with_reducible refine q_retI ?_ | with_reducible refine q_contI ?_ | with_reducible refine q_brkI ?_ | with_reducible refine ss_nilI ?_ | rw [q_next] | rw [q_ret] | rw [q_cont] | rw [q_brk] | rw [ss_nil])); (try simp only [r_next, r_ret]))
    ((first | with_reducible refine gx_of ?_ | with_reducible refine go_cons ?_); ((try simp only [e_table, e_intT, e_int, e_bool, e_none, e_str, e_var, e_bin, e_neg, n_int, e_not, e_cmp, e_and, e_or, e_ite, e_sub, e_slice, e_list, e_tuple, e_call, e_ucall, e_meth, e_comp, t_not, t_and, t_or, t_cmp, t_var, t_sub, t_call, t_ucall, s_expr, s_assign, s_setitem, s_aug, s_augi, s_ifs, s_while, s_for, s_ret, s_brk, s_cont, ss_nil, c_range1, c_range2, c_range3, i_rng, i_ref, i_tup, i_enm, i_rev, bt_name, bt_tup, look_zero, look_succ, r_next, r_ret, sa_nil, sa_cons, es_nil, es_cons, o_none, o_some, ts_nil, ts_cons, c_lt, c_le, c_gt, c_ge, c_eq, c_ne, b_add, b_sub, b_mul, b_div, b_mod, b_pow, b_shr, a_add, a_mul, t_bool, t_int, List.map, List.cons_append, List.nil_append, List.getElem?_cons_succ, List.getElem?_cons_zero, List.set_cons_succ, List.set_cons_zero, frOf]); (repeat (first | with_reducible refine qx_next ?_ | with_reducible refine qx_cont ?_ | with_reducible refine qx_brk ?_ | with_reducible refine qx_nil ?_ | with_reducible refine q_nextI ?_ | with_reducible refine q_retI ?_ | with_reducible refine q_contI ?_ | with_reducible refine q_brkI ?_ | with_reducible refine ss_nilI ?_ | rw [q_next] | rw [q_ret] | rw [q_cont] | rw [q_brk] | rw [ss_nil])); (try simp only [r_next, r_ret])))
    refine opSub_list (upd_same _ _ _) (map_at x hq) ?_
    ((try simp only [e_table, e_intT, e_int, e_bool, e_none, e_str, e_var, e_bin, e_neg, n_int, e_not, e_cmp, e_and, e_or, e_ite, e_sub, e_slice, e_list, e_tuple, e_call, e_ucall, e_meth, e_comp, t_not, t_and, t_or, t_cmp, t_var, t_sub, t_call, t_ucall, s_expr, s_assign, s_setitem, s_aug, s_augi, s_ifs, s_while, s_for, s_ret, s_brk, s_cont, ss_nil, c_range1, c_range2, c_range3, i_rng, i_ref, i_tup, i_enm, i_rev, bt_name, bt_tup, look_zero, look_succ, r_next, r_ret, sa_nil, sa_cons, es_nil, es_cons, o_none, o_some, ts_nil, ts_cons, c_lt, c_le, c_gt, c_ge, c_eq, c_ne, b_add, b_sub, b_mul, b_div, b_mod, b_pow, b_shr, a_add, a_mul, t_bool, t_int, List.map, List.cons_append, List.nil_append, List.getElem?_cons_succ, List.getElem?_cons_zero, List.set_cons_succ, List.set_cons_zero, frOf]); (repeat (first | with_reducible refine qx_next ?_ | with_reducible refine qx_cont ?_ | with_reducible refine qx_brk ?_ | with_reducible refine qx_nil ?_ | with_reducible refine q_nextI ?_ | with_reducible refine q_retI ?_ | with_reducible refine q_contI ?_ | with_reducible refine q_brkI ?_ | with_reducible refine ss_nilI ?_ | rw [q_next] | rw [q_ret] | rw [q_cont] | rw [q_brk] | rw [ss_nil])); (try simp only [r_next, r_ret]))
    refine xs_ifs (xt_lt ?_)
    ((try simp only [e_table, e_intT, e_int, e_bool, e_none, e_str, e_var, e_bin, e_neg, n_int, e_not, e_cmp, e_and, e_or, e_ite, e_sub, e_slice, e_list, e_tuple, e_call, e_ucall, e_meth, e_comp, t_not, t_and, t_or, t_cmp, t_var, t_sub, t_call, t_ucall, s_expr, s_assign, s_setitem, s_aug, s_augi, s_ifs, s_while, s_for, s_ret, s_brk, s_cont, ss_nil, c_range1, c_range2, c_range3, i_rng, i_ref, i_tup, i_enm, i_rev, bt_name, bt_tup, look_zero, look_succ, r_next, r_ret, sa_nil, sa_cons, es_nil, es_cons, o_none, o_some, ts_nil, ts_cons, c_lt, c_le, c_gt, c_ge, c_eq, c_ne, b_add, b_sub, b_mul, b_div, b_mod, b_pow, b_shr, a_add, a_mul, t_bool, t_int, List.map, List.cons_append, List.nil_append, List.getElem?_cons_succ, List.getElem?_cons_zero, List.set_cons_succ, List.set_cons_zero, frOf]); (repeat (first | with_reducible refine qx_next ?_ | with_reducible refine qx_cont ?_ | with_reducible refine qx_brk ?_ | with_reducible refine qx_nil ?_ | with_reducible refine q_nextI ?_ | with_reducible refine q_retI ?_ | with_reducible refine q_contI ?_ | with_reducible refine q_brkI ?_ | with_reducible refine ss_nilI ?_ | rw [q_next] | rw [q_ret] | rw [q_cont] | rw [q_brk] | rw [ss_nil])); (try simp only [r_next, r_ret]))
    refine LtX.th ?_
    rw [downX.eq_def s x ns' p', dif_pos hgt] at eq
    by_cases ck : (ns'.getD ((p' - 1) / 2) x).isI = x.isI
    · rw [if_pos ck]
      rw [if_pos ck] at eq
      by_cases c : (ns'.getD ((p' - 1) / 2) x).lt x = true
      · rw [c, if_pos rfl]
        rw [if_pos c] at eq
        ((first | with_reducible refine gx_of ?_ | with_reducible refine go_cons ?_); ((try simp only [e_table, e_intT, e_int, e_bool, e_none, e_str, e_var, e_bin, e_neg, n_int, e_not, e_cmp, e_and, e_or, e_ite, e_sub, e_slice, e_list, e_tuple, e_call, e_ucall, e_meth, e_comp, t_not, t_and, t_or, t_cmp, t_var, t_sub, t_call, t_ucall, s_expr, s_assign, s_setitem, s_aug, s_augi, s_ifs, s_while, s_for, s_ret, s_brk, s_cont, ss_nil, c_range1, c_range2, c_range3, i_rng, i_ref, i_tup, i_enm, i_rev, bt_name, bt_tup, look_zero, look_succ, r_next, r_ret, sa_nil, sa_cons, es_nil, es_cons, o_none, o_some, ts_nil, ts_cons, c_lt, c_le, c_gt, c_ge, c_eq, c_ne, b_add, b_sub, b_mul, b_div, b_mod, b_pow, b_shr, a_add, a_mul, t_bool, t_int, List.map, List.cons_append, List.nil_append, List.getElem?_cons_succ, List.getElem?_cons_zero, List.set_cons_succ, List.set_cons_zero, frOf]); (repeat (first | with_reducible refine qx_next ?_ | with_reducible refine qx_cont ?_ | with_reducible refine qx_brk ?_ | with_reducible refine qx_nil ?_ | with_reducible refine q_nextI ?_ | with_reducible refine q_retI ?_ | with_reducible refine q_contI ?_ | with_reducible refine q_brkI ?_ | with_reducible refine ss_nilI ?_ | rw [q_next] | rw [q_ret] | rw [q_cont] | rw [q_brk] | rw [ss_nil])); (try simp only [r_next, r_ret])))
        refine opSet_list (upd_same _ _ _) (by rw [List.length_map]; omega) ?_
        rw [upd_upd]
        ((try simp only [e_table, e_intT, e_int, e_bool, e_none, e_str, e_var, e_bin, e_neg, n_int, e_not, e_cmp, e_and, e_or, e_ite, e_sub, e_slice, e_list, e_tuple, e_call, e_ucall, e_meth, e_comp, t_not, t_and, t_or, t_cmp, t_var, t_sub, t_call, t_ucall, s_expr, s_assign, s_setitem, s_aug, s_augi, s_ifs, s_while, s_for, s_ret, s_brk, s_cont, ss_nil, c_range1, c_range2, c_range3, i_rng, i_ref, i_tup, i_enm, i_rev, bt_name, bt_tup, look_zero, look_succ, r_next, r_ret, sa_nil, sa_cons, es_nil, es_cons, o_none, o_some, ts_nil, ts_cons, c_lt, c_le, c_gt, c_ge, c_eq, c_ne, b_add, b_sub, b_mul, b_div, b_mod, b_pow, b_shr, a_add, a_mul, t_bool, t_int, List.map, List.cons_append, List.nil_append, List.getElem?_cons_succ, List.getElem?_cons_zero, List.set_cons_succ, List.set_cons_zero, frOf]); (repeat (first | with_reducible refine qx_next ?_ | with_reducible refine qx_cont ?_ | with_reducible refine qx_brk ?_ | with_reducible refine qx_nil ?_ | with_reducible refine q_nextI ?_ | with_reducible refine q_retI ?_ | with_reducible refine q_contI ?_ | with_reducible refine q_brkI ?_ | with_reducible refine ss_nilI ?_ | rw [q_next] | rw [q_ret] | rw [q_cont] | rw [q_brk] | rw [ss_nil])); (try simp only [r_next, r_ret]))
        ((first | with_reducible refine gx_of ?_ | with_reducible refine go_cons ?_); ((try simp only [e_table, e_intT, e_int, e_bool, e_none, e_str, e_var, e_bin, e_neg, n_int, e_not, e_cmp, e_and, e_or, e_ite, e_sub, e_slice, e_list, e_tuple, e_call, e_ucall, e_meth, e_comp, t_not, t_and, t_or, t_cmp, t_var, t_sub, t_call, t_ucall, s_expr, s_assign, s_setitem, s_aug, s_augi, s_ifs, s_while, s_for, s_ret, s_brk, s_cont, ss_nil, c_range1, c_range2, c_range3, i_rng, i_ref, i_tup, i_enm, i_rev, bt_name, bt_tup, look_zero, look_succ, r_next, r_ret, sa_nil, sa_cons, es_nil, es_cons, o_none, o_some, ts_nil, ts_cons, c_lt, c_le, c_gt, c_ge, c_eq, c_ne, b_add, b_sub, b_mul, b_div, b_mod, b_pow, b_shr, a_add, a_mul, t_bool, t_int, List.map, List.cons_append, List.nil_append, List.getElem?_cons_succ, List.getElem?_cons_zero, List.set_cons_succ, List.set_cons_zero, frOf]); (repeat (first | with_reducible refine qx_next ?_ | with_reducible refine qx_cont ?_ | with_reducible refine qx_brk ?_ | with_reducible refine qx_nil ?_ | with_reducible refine q_nextI ?_ | with_reducible refine q_retI ?_ | with_reducible refine q_contI ?_ | with_reducible refine q_brkI ?_ | with_reducible refine ss_nilI ?_ | rw [q_next] | rw [q_ret] | rw [q_cont] | rw [q_brk] | rw [ss_nil])); (try simp only [r_next, r_ret])))
        ((first | with_reducible refine gx_of ?_ | with_reducible refine go_cons ?_); ((try simp only [e_table, e_intT, e_int, e_bool, e_none, e_str, e_var, e_bin, e_neg, n_int, e_not, e_cmp, e_and, e_or, e_ite, e_sub, e_slice, e_list, e_tuple, e_call, e_ucall, e_meth, e_comp, t_not, t_and, t_or, t_cmp, t_var, t_sub, t_call, t_ucall, s_expr, s_assign, s_setitem, s_aug, s_augi, s_ifs, s_while, s_for, s_ret, s_brk, s_cont, ss_nil, c_range1, c_range2, c_range3, i_rng, i_ref, i_tup, i_enm, i_rev, bt_name, bt_tup, look_zero, look_succ, r_next, r_ret, sa_nil, sa_cons, es_nil, es_cons, o_none, o_some, ts_nil, ts_cons, c_lt, c_le, c_gt, c_ge, c_eq, c_ne, b_add, b_sub, b_mul, b_div, b_mod, b_pow, b_shr, a_add, a_mul, t_bool, t_int, List.map, List.cons_append, List.nil_append, List.getElem?_cons_succ, List.getElem?_cons_zero, List.set_cons_succ, List.set_cons_zero, frOf]); (repeat (first | with_reducible refine qx_next ?_ | with_reducible refine qx_cont ?_ | with_reducible refine qx_brk ?_ | with_reducible refine qx_nil ?_ | with_reducible refine q_nextI ?_ | with_reducible refine q_retI ?_ | with_reducible refine q_contI ?_ | with_reducible refine q_brkI ?_ | with_reducible refine ss_nilI ?_ | rw [q_next] | rw [q_ret] | rw [q_cont] | rw [q_brk] | rw [ss_nil])); (try simp only [r_next, r_ret])))
        refine k2 ((p' - 1) / 2) _ _ (by omega) ⟨ns'.set p' (ns'.getD ((p' - 1) / 2) x), _, _, rfl, by rw [List.map_set], by rw [List.length_set, hl], by omega, eq⟩
      · rw [Bool.eq_false_iff.mpr c, if_neg (by decide)]
        rw [if_neg c] at eq
        ((try simp only [e_table, e_intT, e_int, e_bool, e_none, e_str, e_var, e_bin, e_neg, n_int, e_not, e_cmp, e_and, e_or, e_ite, e_sub, e_slice, e_list, e_tuple, e_call, e_ucall, e_meth, e_comp, t_not, t_and, t_or, t_cmp, t_var, t_sub, t_call, t_ucall, s_expr, s_assign, s_setitem, s_aug, s_augi, s_ifs, s_while, s_for, s_ret, s_brk, s_cont, ss_nil, c_range1, c_range2, c_range3, i_rng, i_ref, i_tup, i_enm, i_rev, bt_name, bt_tup, look_zero, look_succ, r_next, r_ret, sa_nil, sa_cons, es_nil, es_cons, o_none, o_some, ts_nil, ts_cons, c_lt, c_le, c_gt, c_ge, c_eq, c_ne, b_add, b_sub, b_mul, b_div, b_mod, b_pow, b_shr, a_add, a_mul, t_bool, t_int, List.map, List.cons_append, List.nil_append, List.getElem?_cons_succ, List.getElem?_cons_zero, List.set_cons_succ, List.set_cons_zero, frOf]); (repeat (first | with_reducible refine qx_next ?_ | with_reducible refine qx_cont ?_ | with_reducible refine qx_brk ?_ | with_reducible refine qx_nil ?_ | with_reducible refine q_nextI ?_ | with_reducible refine q_retI ?_ | with_reducible refine q_contI ?_ | with_reducible refine q_brkI ?_ | with_reducible refine ss_nilI ?_ | rw [q_next] | rw [q_ret] | rw [q_cont] | rw [q_brk] | rw [ss_nil])); (try simp only [r_next, r_ret]))
        ((first | with_reducible refine gx_of ?_ | with_reducible refine go_cons ?_); ((try simp only [e_table, e_intT, e_int, e_bool, e_none, e_str, e_var, e_bin, e_neg, n_int, e_not, e_cmp, e_and, e_or, e_ite, e_sub, e_slice, e_list, e_tuple, e_call, e_ucall, e_meth, e_comp, t_not, t_and, t_or, t_cmp, t_var, t_sub, t_call, t_ucall, s_expr, s_assign, s_setitem, s_aug, s_augi, s_ifs, s_while, s_for, s_ret, s_brk, s_cont, ss_nil, c_range1, c_range2, c_range3, i_rng, i_ref, i_tup, i_enm, i_rev, bt_name, bt_tup, look_zero, look_succ, r_next, r_ret, sa_nil, sa_cons, es_nil, es_cons, o_none, o_some, ts_nil, ts_cons, c_lt, c_le, c_gt, c_ge, c_eq, c_ne, b_add, b_sub, b_mul, b_div, b_mod, b_pow, b_shr, a_add, a_mul, t_bool, t_int, List.map, List.cons_append, List.nil_append, List.getElem?_cons_succ, List.getElem?_cons_zero, List.set_cons_succ, List.set_cons_zero, frOf]); (repeat (first | with_reducible refine qx_next ?_ | with_reducible refine qx_cont ?_ | with_reducible refine qx_brk ?_ | with_reducible refine qx_nil ?_ | with_reducible refine q_nextI ?_ | with_reducible refine q_retI ?_ | with_reducible refine q_contI ?_ | with_reducible refine q_brkI ?_ | with_reducible refine ss_nilI ?_ | rw [q_next] | rw [q_ret] | rw [q_cont] | rw [q_brk] | rw [ss_nil])); (try simp only [r_next, r_ret])))
        refine k3 _ _ (fin _ _ ?_)
        rw [downX.eq_def s x ns' p', dif_pos hgt, if_pos ck, if_neg c]
    · rw [if_neg ck]
      rw [if_neg ck] at eq
      rw [← eq] at q
      exact q
  · rw [decide_eq_false (by omega), if_neg (by decide)]
    refine qx_next (fin _ _ ?_)
    rw [downX.eq_def s x ns' p', dif_neg hgt]
theorem siftupX_v (Φ : Fns) (hΦ : ∀ args Q σ, siftdownX args Q σ → Φ 3000 args Q σ) (args : List V) (Q : V → Hp → Prop) (σ : Hp) (F : Frm) (h : siftupX args Q σ) (hF : F = args.map some ++ [none, none, none, none, none]) : vXs Φ xs_siftup (retX Q) Q F σ := by
  obtain ⟨a, ns, p, rfl, hσ, hp, hbig, q5, q6⟩ := h
  subst hF
  unfold xs_siftup
  ((first | with_reducible refine gx_of ?_ | with_reducible refine go_cons ?_); ((try simp only [e_table, e_intT, e_int, e_bool, e_none, e_str, e_var, e_bin, e_neg, n_int, e_not, e_cmp, e_and, e_or, e_ite, e_sub, e_slice, e_list, e_tuple, e_call, e_ucall, e_meth, e_comp, t_not, t_and, t_or, t_cmp, t_var, t_sub, t_call, t_ucall, s_expr, s_assign, s_setitem, s_aug, s_augi, s_ifs, s_while, s_for, s_ret, s_brk, s_cont, ss_nil, c_range1, c_range2, c_range3, i_rng, i_ref, i_tup, i_enm, i_rev, bt_name, bt_tup, look_zero, look_succ, r_next, r_ret, sa_nil, sa_cons, es_nil, es_cons, o_none, o_some, ts_nil, ts_cons, c_lt, c_le, c_gt, c_ge, c_eq, c_ne, b_add, b_sub, b_mul, b_div, b_mod, b_pow, b_shr, a_add, a_mul, t_bool, t_int, List.map, List.cons_append, List.nil_append, List.getElem?_cons_succ, List.getElem?_cons_zero, List.set_cons_succ, List.set_cons_zero, frOf]); (repeat (first | with_reducible refine qx_next ?_ | with_reducible refine qx_cont ?_ | with_reducible refine qx_brk ?_ | with_reducible refine qx_nil ?_ | with_reducible refine q_nextI ?_ | with_reducible refine q_retI ?_ | with_reducible refine q_contI ?_ | with_reducible refine q_brkI ?_ | with_reducible refine ss_nilI ?_ | rw [q_next] | rw [q_ret] | rw [q_cont] | rw [q_brk] | rw [ss_nil])); (try simp only [r_next, r_ret])))
  refine call_len (listAt_list hσ) ?_
  rw [List.length_map]
  ((try simp only [e_table, e_intT, e_int, e_bool, e_none, e_str, e_var, e_bin, e_neg, n_int, e_not, e_cmp, e_and, e_or, e_ite, e_sub, e_slice, e_list, e_tuple, e_call, e_ucall, e_meth, e_comp, t_not, t_and, t_or, t_cmp, t_var, t_sub, t_call, t_ucall, s_expr, s_assign, s_setitem, s_aug, s_augi, s_ifs, s_while, s_for, s_ret, s_brk, s_cont, ss_nil, c_range1, c_range2, c_range3, i_rng, i_ref, i_tup, i_enm, i_rev, bt_name, bt_tup, look_zero, look_succ, r_next, r_ret, sa_nil, sa_cons, es_nil, es_cons, o_none, o_some, ts_nil, ts_cons, c_lt, c_le, c_gt, c_ge, c_eq, c_ne, b_add, b_sub, b_mul, b_div, b_mod, b_pow, b_shr, a_add, a_mul, t_bool, t_int, List.map, List.cons_append, List.nil_append, List.getElem?_cons_succ, List.getElem?_cons_zero, List.set_cons_succ, List.set_cons_zero, frOf]); (repeat (first | with_reducible refine qx_next ?_ | with_reducible refine qx_cont ?_ | with_reducible refine qx_brk ?_ | with_reducible refine qx_nil ?_ | with_reducible refine q_nextI ?_ | with_reducible refine q_retI ?_ | with_reducible refine q_contI ?_ | with_reducible refine q_brkI ?_ | with_reducible refine ss_nilI ?_ | rw [q_next] | rw [q_ret] | rw [q_cont] | rw [q_brk] | rw [ss_nil])); (try simp only [r_next, r_ret]))
  ((first | with_reducible refine gx_of ?_ | with_reducible refine go_cons ?_); ((try simp only [e_table, e_intT, e_int, e_bool, e_none, e_str, e_var, e_bin, e_neg, n_int, e_not, e_cmp, e_and, e_or, e_ite, e_sub, e_slice, e_list, e_tuple, e_call, e_ucall, e_meth, e_comp, t_not, t_and, t_or, t_cmp, t_var, t_sub, t_call, t_ucall, s_expr, s_assign, s_setitem, s_aug, s_augi, s_ifs, s_while, s_for, s_ret, s_brk, s_cont, ss_nil, c_range1, c_range2, c_range3, i_rng, i_ref, i_tup, i_enm, i_rev, bt_name, bt_tup, look_zero, look_succ, r_next, r_ret, sa_nil, sa_cons, es_nil, es_cons, o_none, o_some, ts_nil, ts_cons, c_lt, c_le, c_gt, c_ge, c_eq, c_ne, b_add, b_sub, b_mul, b_div, b_mod, b_pow, b_shr, a_add, a_mul, t_bool, t_int, List.map, List.cons_append, List.nil_append, List.getElem?_cons_succ, List.getElem?_cons_zero, List.set_cons_succ, List.set_cons_zero, frOf]); (repeat (first | with_reducible refine qx_next ?_ | with_reducible refine qx_cont ?_ | with_reducible refine qx_brk ?_ | with_reducible refine qx_nil ?_ | with_reducible refine q_nextI ?_ | with_reducible refine q_retI ?_ | with_reducible refine q_contI ?_ | with_reducible refine q_brkI ?_ | with_reducible refine ss_nilI ?_ | rw [q_next] | rw [q_ret] | rw [q_cont] | rw [q_brk] | rw [ss_nil])); (try simp only [r_next, r_ret])))
  refine xs_asub ?_
  ((try simp only [e_table, e_intT, e_int, e_bool, e_none, e_str, e_var, e_bin, e_neg, n_int, e_not, e_cmp, e_and, e_or, e_ite, e_sub, e_slice, e_list, e_tuple, e_call, e_ucall, e_meth, e_comp, t_not, t_and, t_or, t_cmp, t_var, t_sub, t_call, t_ucall, s_expr, s_assign, s_setitem, s_aug, s_augi, s_ifs, s_while, s_for, s_ret, s_brk, s_cont, ss_nil, c_range1, c_range2, c_range3, i_rng, i_ref, i_tup, i_enm, i_rev, bt_name, bt_tup, look_zero, look_succ, r_next, r_ret, sa_nil, sa_cons, es_nil, es_cons, o_none, o_some, ts_nil, ts_cons, c_lt, c_le, c_gt, c_ge, c_eq, c_ne, b_add, b_sub, b_mul, b_div, b_mod, b_pow, b_shr, a_add, a_mul, t_bool, t_int, List.map, List.cons_append, List.nil_append, List.getElem?_cons_succ, List.getElem?_cons_zero, List.set_cons_succ, List.set_cons_zero, frOf]); (repeat (first | with_reducible refine qx_next ?_ | with_reducible refine qx_cont ?_ | with_reducible refine qx_brk ?_ | with_reducible refine qx_nil ?_ | with_reducible refine q_nextI ?_ | with_reducible refine q_retI ?_ | with_reducible refine q_contI ?_ | with_reducible refine q_brkI ?_ | with_reducible refine ss_nilI ?_ | rw [q_next] | rw [q_ret] | rw [q_cont] | rw [q_brk] | rw [ss_nil])); (try simp only [r_next, r_ret]))
  rcases Nat.lt_or_ge p ns.length with hlt | hge
  · have q := q6 ns[p] (List.getElem?_eq_getElem hlt)
    generalize hx : ns[p] = x at q
    have hx' : ns[p]? = some x := by rw [List.getElem?_eq_getElem hlt, hx]
    refine .at (x := x.v) (listAt_list hσ) (by rw [List.getElem?_map, hx']; rfl) ?_
    ((try simp only [e_table, e_intT, e_int, e_bool, e_none, e_str, e_var, e_bin, e_neg, n_int, e_not, e_cmp, e_and, e_or, e_ite, e_sub, e_slice, e_list, e_tuple, e_call, e_ucall, e_meth, e_comp, t_not, t_and, t_or, t_cmp, t_var, t_sub, t_call, t_ucall, s_expr, s_assign, s_setitem, s_aug, s_augi, s_ifs, s_while, s_for, s_ret, s_brk, s_cont, ss_nil, c_range1, c_range2, c_range3, i_rng, i_ref, i_tup, i_enm, i_rev, bt_name, bt_tup, look_zero, look_succ, r_next, r_ret, sa_nil, sa_cons, es_nil, es_cons, o_none, o_some, ts_nil, ts_cons, c_lt, c_le, c_gt, c_ge, c_eq, c_ne, b_add, b_sub, b_mul, b_div, b_mod, b_pow, b_shr, a_add, a_mul, t_bool, t_int, List.map, List.cons_append, List.nil_append, List.getElem?_cons_succ, List.getElem?_cons_zero, List.set_cons_succ, List.set_cons_zero, frOf]); (repeat (first | with_reducible refine qx_next ?_ | with_reducible refine qx_cont ?_ | with_reducible refine qx_brk ?_ | with_reducible refine qx_nil ?_ | with_reducible refine q_nextI ?_ | with_reducible refine q_retI ?_ | with_reducible refine q_contI ?_ | with_reducible refine q_brkI ?_ | with_reducible refine ss_nilI ?_ | rw [q_next] | rw [q_ret] | rw [q_cont] | rw [q_brk] | rw [ss_nil])); (try simp only [r_next, r_ret]))
    ((first | with_reducible refine gx_of ?_ | with_reducible refine go_cons ?_); ((try simp only [e_table, e_intT, e_int, e_bool, e_none, e_str, e_var, e_bin, e_neg, n_int, e_not, e_cmp, e_and, e_or, e_ite, e_sub, e_slice, e_list, e_tuple, e_call, e_ucall, e_meth, e_comp, t_not, t_and, t_or, t_cmp, t_var, t_sub, t_call, t_ucall, s_expr, s_assign, s_setitem, s_aug, s_augi, s_ifs, s_while, s_for, s_ret, s_brk, s_cont, ss_nil, c_range1, c_range2, c_range3, i_rng, i_ref, i_tup, i_enm, i_rev, bt_name, bt_tup, look_zero, look_succ, r_next, r_ret, sa_nil, sa_cons, es_nil, es_cons, o_none, o_some, ts_nil, ts_cons, c_lt, c_le, c_gt, c_ge, c_eq, c_ne, b_add, b_sub, b_mul, b_div, b_mod, b_pow, b_shr, a_add, a_mul, t_bool, t_int, List.map, List.cons_append, List.nil_append, List.getElem?_cons_succ, List.getElem?_cons_zero, List.set_cons_succ, List.set_cons_zero, frOf]); (repeat (first | with_reducible refine qx_next ?_ | with_reducible refine qx_cont ?_ | with_reducible refine qx_brk ?_ | with_reducible refine qx_nil ?_ | with_reducible refine q_nextI ?_ | with_reducible refine q_retI ?_ | with_reducible refine q_contI ?_ | with_reducible refine q_brkI ?_ | with_reducible refine ss_nilI ?_ | rw [q_next] | rw [q_ret] | rw [q_cont] | rw [q_brk] | rw [ss_nil])); (try simp only [r_next, r_ret])))
    refine ⟨mul_l, ?_⟩
    ((try simp only [e_table, e_intT, e_int, e_bool, e_none, e_str, e_var, e_bin, e_neg, n_int, e_not, e_cmp, e_and, e_or, e_ite, e_sub, e_slice, e_list, e_tuple, e_call, e_ucall, e_meth, e_comp, t_not, t_and, t_or, t_cmp, t_var, t_sub, t_call, t_ucall, s_expr, s_assign, s_setitem, s_aug, s_augi, s_ifs, s_while, s_for, s_ret, s_brk, s_cont, ss_nil, c_range1, c_range2, c_range3, i_rng, i_ref, i_tup, i_enm, i_rev, bt_name, bt_tup, look_zero, look_succ, r_next, r_ret, sa_nil, sa_cons, es_nil, es_cons, o_none, o_some, ts_nil, ts_cons, c_lt, c_le, c_gt, c_ge, c_eq, c_ne, b_add, b_sub, b_mul, b_div, b_mod, b_pow, b_shr, a_add, a_mul, t_bool, t_int, List.map, List.cons_append, List.nil_append, List.getElem?_cons_succ, List.getElem?_cons_zero, List.set_cons_succ, List.set_cons_zero, frOf]); (repeat (first | with_reducible refine qx_next ?_ | with_reducible refine qx_cont ?_ | with_reducible refine qx_brk ?_ | with_reducible refine qx_nil ?_ | with_reducible refine q_nextI ?_ | with_reducible refine q_retI ?_ | with_reducible refine q_contI ?_ | with_reducible refine q_brkI ?_ | with_reducible refine ss_nilI ?_ | rw [q_next] | rw [q_ret] | rw [q_cont] | rw [q_brk] | rw [ss_nil])); (try simp only [r_next, r_ret]))
    refine whileX_rule (fun n F τ => ∃ ns' p' e6, ns.length - p' = n ∧ F = [some (.ref a), some (.int (p' : Nat)), some (.int ns.length), some (.int p), some x.v, some (.int (2 * p' + 1 : Nat)), e6] ∧ τ = upd σ a (.list (ns'.map Th.v)) ∧ ns'.length = ns.length ∧ p' < ns.length ∧ upX ns' p' = upX ns p) (ns.length - p) ⟨ns, p, none, rfl, rfl, (upd_id hσ).symm, rfl, hlt, rfl⟩ ?_
    rintro n F τ ⟨ns', p', e6, rfl, rfl, rfl, hl, hp', eq⟩ R k1 k2 k3
    ((try simp only [e_table, e_intT, e_int, e_bool, e_none, e_str, e_var, e_bin, e_neg, n_int, e_not, e_cmp, e_and, e_or, e_ite, e_sub, e_slice, e_list, e_tuple, e_call, e_ucall, e_meth, e_comp, t_not, t_and, t_or, t_cmp, t_var, t_sub, t_call, t_ucall, s_expr, s_assign, s_setitem, s_aug, s_augi, s_ifs, s_while, s_for, s_ret, s_brk, s_cont, ss_nil, c_range1, c_range2, c_range3, i_rng, i_ref, i_tup, i_enm, i_rev, bt_name, bt_tup, look_zero, look_succ, r_next, r_ret, sa_nil, sa_cons, es_nil, es_cons, o_none, o_some, ts_nil, ts_cons, c_lt, c_le, c_gt, c_ge, c_eq, c_ne, b_add, b_sub, b_mul, b_div, b_mod, b_pow, b_shr, a_add, a_mul, t_bool, t_int, List.map, List.cons_append, List.nil_append, List.getElem?_cons_succ, List.getElem?_cons_zero, List.set_cons_succ, List.set_cons_zero, frOf]); (repeat (first | with_reducible refine qx_next ?_ | with_reducible refine qx_cont ?_ | with_reducible refine qx_brk ?_ | with_reducible refine qx_nil ?_ | with_reducible refine q_nextI ?_ | with_reducible refine q_retI ?_ | with_reducible refine q_contI ?_ | with_reducible refine q_brkI ?_ | with_reducible refine ss_nilI ?_ | rw [q_next] | rw [q_ret] | rw [q_cont] | rw [q_brk] | rw [ss_nil])); (try simp only [r_next, r_ret]))
    have m0 : ∀ {k : Nat}, k < ns'.length → (ns'.map Th.v)[k]? = some (ns'.getD k (.i 0)).v := fun hk => by simp [List.getElem?_eq_getElem hk]
    unfold siftX at q
    rw [← eq] at q
    rw [upX.eq_def ns' p'] at q eq
    by_cases hc : 2 * p' + 1 < ns'.length
    · rw [decide_eq_true (by omega), if_pos rfl]
      rw [dif_pos hc] at q eq
      have g1 := kidX_gt ns' p'
      have g2 := kidX_lt ns' p' hc
      have fin : ∀ e6, ¬ apart ns' p' → vXs Φ [XS.of (.setitem (.var 0) (.var 1) (.sub (.var 0) (.var 5))), XS.of (.assign (.name 1) (.var 5)), XS.of (.assign (.name 5) (.bin .Add (.bin .Mult (.int 2) (.var 1)) (.int 1)))] R Q [some (.ref a), some (.int (p' : Nat)), some (.int ns.length), some (.int p), some x.v, some (.int (kidX ns' p' : Nat)), e6] (upd σ a (.list (ns'.map Th.v))) := fun e6 na => by
        rw [if_neg na] at eq
        ((first | with_reducible refine gx_of ?_ | with_reducible refine go_cons ?_); ((try simp only [e_table, e_intT, e_int, e_bool, e_none, e_str, e_var, e_bin, e_neg, n_int, e_not, e_cmp, e_and, e_or, e_ite, e_sub, e_slice, e_list, e_tuple, e_call, e_ucall, e_meth, e_comp, t_not, t_and, t_or, t_cmp, t_var, t_sub, t_call, t_ucall, s_expr, s_assign, s_setitem, s_aug, s_augi, s_ifs, s_while, s_for, s_ret, s_brk, s_cont, ss_nil, c_range1, c_range2, c_range3, i_rng, i_ref, i_tup, i_enm, i_rev, bt_name, bt_tup, look_zero, look_succ, r_next, r_ret, sa_nil, sa_cons, es_nil, es_cons, o_none, o_some, ts_nil, ts_cons, c_lt, c_le, c_gt, c_ge, c_eq, c_ne, b_add, b_sub, b_mul, b_div, b_mod, b_pow, b_shr, a_add, a_mul, t_bool, t_int, List.map, List.cons_append, List.nil_append, List.getElem?_cons_succ, List.getElem?_cons_zero, List.set_cons_succ, List.set_cons_zero, frOf]); (repeat (first | with_reducible refine qx_next ?_ | with_reducible refine qx_cont ?_ | with_reducible refine qx_brk ?_ | with_reducible refine qx_nil ?_ | with_reducible refine q_nextI ?_ | with_reducible refine q_retI ?_ | with_reducible refine q_contI ?_ | with_reducible refine q_brkI ?_ | with_reducible refine ss_nilI ?_ | rw [q_next] | rw [q_ret] | rw [q_cont] | rw [q_brk] | rw [ss_nil])); (try simp only [r_next, r_ret])))
        refine opSub_list (upd_same _ _ _) (m0 g2) ?_
        refine opSet_list (upd_same _ _ _) (by rw [List.length_map]; omega) ?_
        rw [upd_upd]
        ((try simp only [e_table, e_intT, e_int, e_bool, e_none, e_str, e_var, e_bin, e_neg, n_int, e_not, e_cmp, e_and, e_or, e_ite, e_sub, e_slice, e_list, e_tuple, e_call, e_ucall, e_meth, e_comp, t_not, t_and, t_or, t_cmp, t_var, t_sub, t_call, t_ucall, s_expr, s_assign, s_setitem, s_aug, s_augi, s_ifs, s_while, s_for, s_ret, s_brk, s_cont, ss_nil, c_range1, c_range2, c_range3, i_rng, i_ref, i_tup, i_enm, i_rev, bt_name, bt_tup, look_zero, look_succ, r_next, r_ret, sa_nil, sa_cons, es_nil, es_cons, o_none, o_some, ts_nil, ts_cons, c_lt, c_le, c_gt, c_ge, c_eq, c_ne, b_add, b_sub, b_mul, b_div, b_mod, b_pow, b_shr, a_add, a_mul, t_bool, t_int, List.map, List.cons_append, List.nil_append, List.getElem?_cons_succ, List.getElem?_cons_zero, List.set_cons_succ, List.set_cons_zero, frOf]); (repeat (first | with_reducible refine qx_next ?_ | with_reducible refine qx_cont ?_ | with_reducible refine qx_brk ?_ | with_reducible refine qx_nil ?_ | with_reducible refine q_nextI ?_ | with_reducible refine q_retI ?_ | with_reducible refine q_contI ?_ | with_reducible refine q_brkI ?_ | with_reducible refine ss_nilI ?_ | rw [q_next] | rw [q_ret] | rw [q_cont] | rw [q_brk] | rw [ss_nil])); (try simp only [r_next, r_ret]))
        ((first | with_reducible refine gx_of ?_ | with_reducible refine go_cons ?_); ((try simp only [e_table, e_intT, e_int, e_bool, e_none, e_str, e_var, e_bin, e_neg, n_int, e_not, e_cmp, e_and, e_or, e_ite, e_sub, e_slice, e_list, e_tuple, e_call, e_ucall, e_meth, e_comp, t_not, t_and, t_or, t_cmp, t_var, t_sub, t_call, t_ucall, s_expr, s_assign, s_setitem, s_aug, s_augi, s_ifs, s_while, s_for, s_ret, s_brk, s_cont, ss_nil, c_range1, c_range2, c_range3, i_rng, i_ref, i_tup, i_enm, i_rev, bt_name, bt_tup, look_zero, look_succ, r_next, r_ret, sa_nil, sa_cons, es_nil, es_cons, o_none, o_some, ts_nil, ts_cons, c_lt, c_le, c_gt, c_ge, c_eq, c_ne, b_add, b_sub, b_mul, b_div, b_mod, b_pow, b_shr, a_add, a_mul, t_bool, t_int, List.map, List.cons_append, List.nil_append, List.getElem?_cons_succ, List.getElem?_cons_zero, List.set_cons_succ, List.set_cons_zero, frOf]); (repeat (first | with_reducible refine qx_next ?_ | with_reducible refine qx_cont ?_ | with_reducible refine qx_brk ?_ | with_reducible refine qx_nil ?_ | with_reducible refine q_nextI ?_ | with_reducible refine q_retI ?_ | with_reducible refine q_contI ?_ | with_reducible refine q_brkI ?_ | with_reducible refine ss_nilI ?_ | rw [q_next] | rw [q_ret] | rw [q_cont] | rw [q_brk] | rw [ss_nil])); (try simp only [r_next, r_ret])))
        ((first | with_reducible refine gx_of ?_ | with_reducible refine go_cons ?_); ((try simp only [e_table, e_intT, e_int, e_bool, e_none, e_str, e_var, e_bin, e_neg, n_int, e_not, e_cmp, e_and, e_or, e_ite, e_sub, e_slice, e_list, e_tuple, e_call, e_ucall, e_meth, e_comp, t_not, t_and, t_or, t_cmp, t_var, t_sub, t_call, t_ucall, s_expr, s_assign, s_setitem, s_aug, s_augi, s_ifs, s_while, s_for, s_ret, s_brk, s_cont, ss_nil, c_range1, c_range2, c_range3, i_rng, i_ref, i_tup, i_enm, i_rev, bt_name, bt_tup, look_zero, look_succ, r_next, r_ret, sa_nil, sa_cons, es_nil, es_cons, o_none, o_some, ts_nil, ts_cons, c_lt, c_le, c_gt, c_ge, c_eq, c_ne, b_add, b_sub, b_mul, b_div, b_mod, b_pow, b_shr, a_add, a_mul, t_bool, t_int, List.map, List.cons_append, List.nil_append, List.getElem?_cons_succ, List.getElem?_cons_zero, List.set_cons_succ, List.set_cons_zero, frOf]); (repeat (first | with_reducible refine qx_next ?_ | with_reducible refine qx_cont ?_ | with_reducible refine qx_brk ?_ | with_reducible refine qx_nil ?_ | with_reducible refine q_nextI ?_ | with_reducible refine q_retI ?_ | with_reducible refine q_contI ?_ | with_reducible refine q_brkI ?_ | with_reducible refine ss_nilI ?_ | rw [q_next] | rw [q_ret] | rw [q_cont] | rw [q_brk] | rw [ss_nil])); (try simp only [r_next, r_ret])))
        refine ⟨mul_l, ?_⟩
        ((try simp only [e_table, e_intT, e_int, e_bool, e_none, e_str, e_var, e_bin, e_neg, n_int, e_not, e_cmp, e_and, e_or, e_ite, e_sub, e_slice, e_list, e_tuple, e_call, e_ucall, e_meth, e_comp, t_not, t_and, t_or, t_cmp, t_var, t_sub, t_call, t_ucall, s_expr, s_assign, s_setitem, s_aug, s_augi, s_ifs, s_while, s_for, s_ret, s_brk, s_cont, ss_nil, c_range1, c_range2, c_range3, i_rng, i_ref, i_tup, i_enm, i_rev, bt_name, bt_tup, look_zero, look_succ, r_next, r_ret, sa_nil, sa_cons, es_nil, es_cons, o_none, o_some, ts_nil, ts_cons, c_lt, c_le, c_gt, c_ge, c_eq, c_ne, b_add, b_sub, b_mul, b_div, b_mod, b_pow, b_shr, a_add, a_mul, t_bool, t_int, List.map, List.cons_append, List.nil_append, List.getElem?_cons_succ, List.getElem?_cons_zero, List.set_cons_succ, List.set_cons_zero, frOf]); (repeat (first | with_reducible refine qx_next ?_ | with_reducible refine qx_cont ?_ | with_reducible refine qx_brk ?_ | with_reducible refine qx_nil ?_ | with_reducible refine q_nextI ?_ | with_reducible refine q_retI ?_ | with_reducible refine q_contI ?_ | with_reducible refine q_brkI ?_ | with_reducible refine ss_nilI ?_ | rw [q_next] | rw [q_ret] | rw [q_cont] | rw [q_brk] | rw [ss_nil])); (try simp only [r_next, r_ret]))
        exact k1 (ns.length - kidX ns' p') _ _ (by omega) ⟨ns'.set p' (ns'.getD (kidX ns' p') (.i 0)), kidX ns' p', e6, rfl, rfl, by rw [List.map_set], by rw [List.length_set, hl], by omega, eq⟩
      ((first | with_reducible refine gx_of ?_ | with_reducible refine go_cons ?_); ((try simp only [e_table, e_intT, e_int, e_bool, e_none, e_str, e_var, e_bin, e_neg, n_int, e_not, e_cmp, e_and, e_or, e_ite, e_sub, e_slice, e_list, e_tuple, e_call, e_ucall, e_meth, e_comp, t_not, t_and, t_or, t_cmp, t_var, t_sub, t_call, t_ucall, s_expr, s_assign, s_setitem, s_aug, s_augi, s_ifs, s_while, s_for, s_ret, s_brk, s_cont, ss_nil, c_range1, c_range2, c_range3, i_rng, i_ref, i_tup, i_enm, i_rev, bt_name, bt_tup, look_zero, look_succ, r_next, r_ret, sa_nil, sa_cons, es_nil, es_cons, o_none, o_some, ts_nil, ts_cons, c_lt, c_le, c_gt, c_ge, c_eq, c_ne, b_add, b_sub, b_mul, b_div, b_mod, b_pow, b_shr, a_add, a_mul, t_bool, t_int, List.map, List.cons_append, List.nil_append, List.getElem?_cons_succ, List.getElem?_cons_zero, List.set_cons_succ, List.set_cons_zero, frOf]); (repeat (first | with_reducible refine qx_next ?_ | with_reducible refine qx_cont ?_ | with_reducible refine qx_brk ?_ | with_reducible refine qx_nil ?_ | with_reducible refine q_nextI ?_ | with_reducible refine q_retI ?_ | with_reducible refine q_contI ?_ | with_reducible refine q_brkI ?_ | with_reducible refine ss_nilI ?_ | rw [q_next] | rw [q_ret] | rw [q_cont] | rw [q_brk] | rw [ss_nil])); (try simp only [r_next, r_ret])))
      have e1 : ((2 * p' + 1 : Nat) : Int) + 1 = (2 * p' + 2 : Nat) := by omega
      rw [e1]
      refine xs_andlt ?_
      ((try simp only [e_table, e_intT, e_int, e_bool, e_none, e_str, e_var, e_bin, e_neg, n_int, e_not, e_cmp, e_and, e_or, e_ite, e_sub, e_slice, e_list, e_tuple, e_call, e_ucall, e_meth, e_comp, t_not, t_and, t_or, t_cmp, t_var, t_sub, t_call, t_ucall, s_expr, s_assign, s_setitem, s_aug, s_augi, s_ifs, s_while, s_for, s_ret, s_brk, s_cont, ss_nil, c_range1, c_range2, c_range3, i_rng, i_ref, i_tup, i_enm, i_rev, bt_name, bt_tup, look_zero, look_succ, r_next, r_ret, sa_nil, sa_cons, es_nil, es_cons, o_none, o_some, ts_nil, ts_cons, c_lt, c_le, c_gt, c_ge, c_eq, c_ne, b_add, b_sub, b_mul, b_div, b_mod, b_pow, b_shr, a_add, a_mul, t_bool, t_int, List.map, List.cons_append, List.nil_append, List.getElem?_cons_succ, List.getElem?_cons_zero, List.set_cons_succ, List.set_cons_zero, frOf]); (repeat (first | with_reducible refine qx_next ?_ | with_reducible refine qx_cont ?_ | with_reducible refine qx_brk ?_ | with_reducible refine qx_nil ?_ | with_reducible refine q_nextI ?_ | with_reducible refine q_retI ?_ | with_reducible refine q_contI ?_ | with_reducible refine q_brkI ?_ | with_reducible refine ss_nilI ?_ | rw [q_next] | rw [q_ret] | rw [q_cont] | rw [q_brk] | rw [ss_nil])); (try simp only [r_next, r_ret]))
      by_cases hr : 2 * p' + 2 < ns'.length
      · rw [decide_eq_true (by omega), if_pos rfl]
        refine opSub_list (upd_same _ _ _) (m0 hr) ?_
        refine opSub_list (upd_same _ _ _) (m0 hc) ?_
        refine LtX.th ?_
        by_cases ck : (ns'.getD (2 * p' + 2) (.i 0)).isI = (ns'.getD (2 * p' + 1) (.i 0)).isI
        · rw [if_pos ck]
          have na : ¬ apart ns' p' := fun h => h.2 ck
          by_cases cc : (ns'.getD (2 * p' + 2) (.i 0)).lt (ns'.getD (2 * p' + 1) (.i 0)) = true
          · have ke : kidX ns' p' = 2 * p' + 1 := by unfold kidX; rw [if_neg]; rintro ⟨_, h⟩; rw [cc] at h; cases h
            have := fin (some (.int (2 * p' + 2 : Nat))) na
            rw [ke] at this
            rw [cc, if_neg (by decide)]
            exact qx_next this
          · have ke : kidX ns' p' = 2 * p' + 2 := by unfold kidX; rw [if_pos ⟨hr, Bool.eq_false_iff.mpr cc⟩]
            have := fin (some (.int (2 * p' + 2 : Nat))) na
            rw [ke] at this
            rw [Bool.eq_false_iff.mpr cc, if_pos (by decide)]
            ((first | with_reducible refine gx_of ?_ | with_reducible refine go_cons ?_); ((try simp only [e_table, e_intT, e_int, e_bool, e_none, e_str, e_var, e_bin, e_neg, n_int, e_not, e_cmp, e_and, e_or, e_ite, e_sub, e_slice, e_list, e_tuple, e_call, e_ucall, e_meth, e_comp, t_not, t_and, t_or, t_cmp, t_var, t_sub, t_call, t_ucall, s_expr, s_assign, s_setitem, s_aug, s_augi, s_ifs, s_while, s_for, s_ret, s_brk, s_cont, ss_nil, c_range1, c_range2, c_range3, i_rng, i_ref, i_tup, i_enm, i_rev, bt_name, bt_tup, look_zero, look_succ, r_next, r_ret, sa_nil, sa_cons, es_nil, es_cons, o_none, o_some, ts_nil, ts_cons, c_lt, c_le, c_gt, c_ge, c_eq, c_ne, b_add, b_sub, b_mul, b_div, b_mod, b_pow, b_shr, a_add, a_mul, t_bool, t_int, List.map, List.cons_append, List.nil_append, List.getElem?_cons_succ, List.getElem?_cons_zero, List.set_cons_succ, List.set_cons_zero, frOf]); (repeat (first | with_reducible refine qx_next ?_ | with_reducible refine qx_cont ?_ | with_reducible refine qx_brk ?_ | with_reducible refine qx_nil ?_ | with_reducible refine q_nextI ?_ | with_reducible refine q_retI ?_ | with_reducible refine q_contI ?_ | with_reducible refine q_brkI ?_ | with_reducible refine ss_nilI ?_ | rw [q_next] | rw [q_ret] | rw [q_cont] | rw [q_brk] | rw [ss_nil])); (try simp only [r_next, r_ret])))
            exact this
        · rw [if_neg ck]
          rw [if_pos (show apart ns' p' from ⟨hr, ck⟩)] at q
          exact q
      · rw [decide_eq_false (by omega), if_neg (by decide)]
        have na : ¬ apart ns' p' := fun h => hr h.1
        have ke : kidX ns' p' = 2 * p' + 1 := by unfold kidX; rw [if_neg]; exact fun h => hr h.1
        have := fin (some (.int (2 * p' + 2 : Nat))) na
        rw [ke] at this
        exact qx_next this
    · rw [decide_eq_false (by omega), if_neg (by decide)]
      rw [dif_neg hc] at q
      refine qx_next ?_
      ((first | with_reducible refine gx_of ?_ | with_reducible refine go_cons ?_); ((try simp only [e_table, e_intT, e_int, e_bool, e_none, e_str, e_var, e_bin, e_neg, n_int, e_not, e_cmp, e_and, e_or, e_ite, e_sub, e_slice, e_list, e_tuple, e_call, e_ucall, e_meth, e_comp, t_not, t_and, t_or, t_cmp, t_var, t_sub, t_call, t_ucall, s_expr, s_assign, s_setitem, s_aug, s_augi, s_ifs, s_while, s_for, s_ret, s_brk, s_cont, ss_nil, c_range1, c_range2, c_range3, i_rng, i_ref, i_tup, i_enm, i_rev, bt_name, bt_tup, look_zero, look_succ, r_next, r_ret, sa_nil, sa_cons, es_nil, es_cons, o_none, o_some, ts_nil, ts_cons, c_lt, c_le, c_gt, c_ge, c_eq, c_ne, b_add, b_sub, b_mul, b_div, b_mod, b_pow, b_shr, a_add, a_mul, t_bool, t_int, List.map, List.cons_append, List.nil_append, List.getElem?_cons_succ, List.getElem?_cons_zero, List.set_cons_succ, List.set_cons_zero, frOf]); (repeat (first | with_reducible refine qx_next ?_ | with_reducible refine qx_cont ?_ | with_reducible refine qx_brk ?_ | with_reducible refine qx_nil ?_ | with_reducible refine q_nextI ?_ | with_reducible refine q_retI ?_ | with_reducible refine q_contI ?_ | with_reducible refine q_brkI ?_ | with_reducible refine ss_nilI ?_ | rw [q_next] | rw [q_ret] | rw [q_cont] | rw [q_brk] | rw [ss_nil])); (try simp only [r_next, r_ret])))
      refine opSet_list (upd_same _ _ _) (by rw [List.length_map]; omega) ?_
      rw [upd_upd]
      ((try simp only [e_table, e_intT, e_int, e_bool, e_none, e_str, e_var, e_bin, e_neg, n_int, e_not, e_cmp, e_and, e_or, e_ite, e_sub, e_slice, e_list, e_tuple, e_call, e_ucall, e_meth, e_comp, t_not, t_and, t_or, t_cmp, t_var, t_sub, t_call, t_ucall, s_expr, s_assign, s_setitem, s_aug, s_augi, s_ifs, s_while, s_for, s_ret, s_brk, s_cont, ss_nil, c_range1, c_range2, c_range3, i_rng, i_ref, i_tup, i_enm, i_rev, bt_name, bt_tup, look_zero, look_succ, r_next, r_ret, sa_nil, sa_cons, es_nil, es_cons, o_none, o_some, ts_nil, ts_cons, c_lt, c_le, c_gt, c_ge, c_eq, c_ne, b_add, b_sub, b_mul, b_div, b_mod, b_pow, b_shr, a_add, a_mul, t_bool, t_int, List.map, List.cons_append, List.nil_append, List.getElem?_cons_succ, List.getElem?_cons_zero, List.set_cons_succ, List.set_cons_zero, frOf]); (repeat (first | with_reducible refine qx_next ?_ | with_reducible refine qx_cont ?_ | with_reducible refine qx_brk ?_ | with_reducible refine qx_nil ?_ | with_reducible refine q_nextI ?_ | with_reducible refine q_retI ?_ | with_reducible refine q_contI ?_ | with_reducible refine q_brkI ?_ | with_reducible refine ss_nilI ?_ | rw [q_next] | rw [q_ret] | rw [q_cont] | rw [q_brk] | rw [ss_nil])); (try simp only [r_next, r_ret]))
      refine xs_call ?_
      ((try simp only [e_table, e_intT, e_int, e_bool, e_none, e_str, e_var, e_bin, e_neg, n_int, e_not, e_cmp, e_and, e_or, e_ite, e_sub, e_slice, e_list, e_tuple, e_call, e_ucall, e_meth, e_comp, t_not, t_and, t_or, t_cmp, t_var, t_sub, t_call, t_ucall, s_expr, s_assign, s_setitem, s_aug, s_augi, s_ifs, s_while, s_for, s_ret, s_brk, s_cont, ss_nil, c_range1, c_range2, c_range3, i_rng, i_ref, i_tup, i_enm, i_rev, bt_name, bt_tup, look_zero, look_succ, r_next, r_ret, sa_nil, sa_cons, es_nil, es_cons, o_none, o_some, ts_nil, ts_cons, c_lt, c_le, c_gt, c_ge, c_eq, c_ne, b_add, b_sub, b_mul, b_div, b_mod, b_pow, b_shr, a_add, a_mul, t_bool, t_int, List.map, List.cons_append, List.nil_append, List.getElem?_cons_succ, List.getElem?_cons_zero, List.set_cons_succ, List.set_cons_zero, frOf]); (repeat (first | with_reducible refine qx_next ?_ | with_reducible refine qx_cont ?_ | with_reducible refine qx_brk ?_ | with_reducible refine qx_nil ?_ | with_reducible refine q_nextI ?_ | with_reducible refine q_retI ?_ | with_reducible refine q_contI ?_ | with_reducible refine q_brkI ?_ | with_reducible refine ss_nilI ?_ | rw [q_next] | rw [q_ret] | rw [q_cont] | rw [q_brk] | rw [ss_nil])); (try simp only [r_next, r_ret]))
      refine hΦ _ _ _ ⟨a, ns'.set p' x, p, p', x, rfl, by rw [upd_same, List.map_set], by rw [List.getElem?_set_self (by omega)], ?_⟩
      dsimp only at q
      generalize downX p x (ns'.set p' x) p' = z at q ⊢
      obtain ⟨ys, r⟩ := z
      cases r with
      | none =>
        dsimp only at q ⊢
        rw [upd_upd]
        exact qx_next (qx_nil q)
      | some w =>
        dsimp only at q ⊢
        rw [upd_upd]
        exact q
  · refine .out (listAt_list hσ) (by rw [List.length_map]; exact hge) (by omega) (q5 (by omega))

/-! X10 -/
/-! comprehensions with two for clauses -/
/-- the inner turns -/
noncomputable def InG (Φ : Fns) (elt : PE) (j : Nat) (F1 : Frm) (K : List V → Hp → Prop) (J : It) (acc : List V) (σ : Hp) : Prop :=
  ∃ Inv : Nat → It → List V → Hp → Prop, (∃ m, Inv m J acc σ) ∧ ∀ m J acc σ, Inv m J acc σ →
    match itNext J σ with
    | none => False
    | some none => K acc σ
    | some (some (z, J')) => vE Φ elt (fun u σ => acc.length < BIG ∧ ∃ m', m' < m ∧ Inv m' J' (acc ++ [u]) σ) (F1.set j (some z)) σ
noncomputable def CompG2 (Φ : Fns) (elt : PE) (i j : Nat) (b2 : PE) (F0 : Frm) (Q : V → Hp → Prop) (I : It) (σ : Hp) : Prop :=
  ∃ Inv : Nat → It → List V → Hp → Prop, (∃ n, Inv n I [] σ) ∧ ∀ n I acc σ, Inv n I acc σ →
    match itNext I σ with
    | none => False
    | some none => newL acc Q σ
    | some (some (x, I')) => vE Φ b2 (fun y σ => itStart .plain y (fun J σ => InG Φ elt j (F0.set i (some x)) (fun acc σ => ∃ n', n' < n ∧ Inv n' I' acc σ) J acc σ) σ) (F0.set i (some x)) σ
noncomputable def PE.comp2 (fm : List (Option Nat)) (elt : PE) (i : Nat) (b1 : PE) (j : Nat) (b2 : PE) : PE := .of fun Φ Q F σ => vE Φ b1 (fun x σ => itStart .plain x (fun I σ => CompG2 Φ elt i j b2 (frOf fm F) Q I σ) σ) F σ
section
variable {prog : Program} {w : World} {A : Around} {R : Result → Shared → Prop} {s : Shared} {elt t1 t2 it1 it2 : Expr} {scope : Scope} {pos : Pos} {acc iv : Value} {env : Env}
end
section
variable {prog : Program} {w : World} {A : Around} {s : Shared} {c : Cfg} {env : Env} {Cs : List Addr} {D : Addr} {as bs : List Addr} {P P' : Heap → Prop} {F0 F1 : Frm} {h₀ : Heap} {σb σ σ' : Hp} {hb h h' : Heap} {acc : List V}
end
section
variable {c : Cfg} {p q p1 p2 : Pos} {elt it1 it2 : Expr} {x1 x2 : Str} {scope : Scope} {a b1 b2 : PE} {i j : Nat} {fm : List (Option Nat)}
end

/-! Srt -/
section
variable {lt : Nat → Nat → Bool} {N : Nat}
end

/-! X4 -/
section
variable {prog : Program} {w : World} {A : Around} {E : Value → Shared → Prop} {s : Shared}
end

/-! X5 -/
section
variable {prog : Program} {w : World} {A : Around} {E : Value → Shared → Prop} {s : Shared}
end

/-! L2 -/
/-! the sift is a sink where all below is a heap -/
section
variable {α : Type} (lt : α → α → Bool)
variable {lt}
end

/-! L3 -/
/-! heaps -/
section
variable {α : Type} {lt : α → α → Bool}
end

/-! T1 -/
/-! tools for the laws -/
theorem newL_of {xs : List V} {Q : V → Hp → Prop} {σ : Hp} (hb : xs.length ≤ BIG) (q : ∀ a τ, Ext σ τ → σ a = none → τ a = some (.list xs) → Q (.ref a) τ) : newL xs Q σ := ⟨hb, fun a h => q a _ (Ext.upd _ h) h (upd_same _ _ _)⟩
noncomputable def pickI {α : Type} (xs : List α) (lo hi st : Option Int) : List α :=
  (sliceRange (sliceBounds lo hi st xs.length).1 (sliceBounds lo hi st xs.length).2.1 (sliceBounds lo hi st xs.length).2.2).filterMap (xs[·]?)
theorem pick_map {α : Type} (f : α → V) (xs : List α) (lo hi st : Option Int) : pickL (xs.map f) lo hi st = (pickI xs lo hi st).map f := by
  unfold pickL pickI
  rw [List.length_map]
  generalize sliceRange _ _ _ = ks
  induction ks with
  | nil => rfl
  | cons k ks ih =>
    simp only [List.filterMap_cons, List.getElem?_map]
    cases xs[k]? with
    | none => simpa using ih
    | some x => simpa using ih
theorem pick_len {α : Type} (xs : List α) (k : Int) (s : Int) (hk : 0 ≤ k) (hs : 0 < s) : (pickI xs (some k) none (some s)).length ≤ xs.length := by
  unfold pickI
  refine Nat.le_trans (List.length_filterMap_le ..) ?_
  simp only [sliceBounds, sliceRange, Option.getD_some, List.length_map, List.length_range]
  have h1 : s > 0 := hs
  have h2 : ¬ k < 0 := by omega
  simp only [h1, h2, if_true, if_false]
  split
  · rename_i h
    have : ((xs.length : Int) - max 0 (min k (xs.length : Int)) + s - 1) / s ≤ xs.length := by
      have h0 : 0 ≤ max 0 (min k (xs.length : Int)) := by omega
      generalize max 0 (min k (xs.length : Int)) = b at *
      refine Int.ediv_le_of_le_mul hs ?_
      have : 0 ≤ ((xs.length : Int) - 1) * (s - 1) := Int.mul_nonneg (by omega) (by omega)
      have e : ((xs.length : Int) - 1) * (s - 1) = (xs.length : Int) * s - xs.length - s + 1 := by rw [Int.sub_mul, Int.mul_sub]; omega
      omega
    omega
  · simp
theorem fm_some {α β : Type} {g : α → Option β} {f : α → β} : ∀ (l : List α), (∀ x ∈ l, g x = some (f x)) → l.filterMap g = l.map f
  | [], _ => rfl
  | x :: t, h => by rw [List.filterMap_cons_some (h x (.head _)), List.map_cons, fm_some t fun y hy => h y (.tail _ hy)]
/-- a sum over every so many-th number -/
theorem slice_sum {σ : Hp} {l : Addr} {ns : List Int} {k s : Int} {Q : V → Hp → Prop} (h : listAt σ l = some (ns.map .int)) (hb : ns.length ≤ BIG) (hk : 0 ≤ k) (hs : 0 < s) (q : ∀ τ, Ext σ τ → Q (.int (pickI ns (some k) none (some s)).sum) τ) :
    opSlice (.ref l) (.int k) .none (.int s) (fun v τ => opCall .sum [v] Q τ) σ := by
  refine ⟨_, h, ?_⟩
  show some s ≠ some 0 ∧ newL (pickL (ns.map V.int) (some k) none (some s)) _ σ
  refine ⟨by simp; omega, ?_⟩
  rw [pick_map]
  refine newL_of (by rw [List.length_map]; exact Nat.le_trans (pick_len ns k s hk hs) hb) fun b τ x f g => ?_
  exact call_sum (listAt_list g) (q τ x)
/-- data -/
structure IsDat {α : Type} (f : α → V) (dat : α → PyData) : Prop where
  d : ∀ σ x, Dat σ (f x) (dat x)
  depth : ∀ x, (dat x).depth ≤ 40
theorem isDat_int : IsDat V.int PyData.int := ⟨fun σ x => .int x, fun x => by simp [PyData.depth]⟩
section
variable {α : Type} {f : α → V} {dat : α → PyData}
theorem IsDat.ds (D : IsDat f dat) (σ : Hp) : ∀ xs : List α, Dats σ (xs.map f) (xs.map dat)
  | [] => .nil
  | x :: xs => .cons (D.d σ x) (D.ds σ xs)
theorem IsDat.depths (D : IsDat f dat) : ∀ xs : List α, PyData.depthAll (xs.map dat) ≤ 40
  | [] => by simp [PyData.depthAll]
  | x :: xs => by have := D.depths xs; have := D.depth x; simp [PyData.depthAll]; omega
theorem IsDat.eq (D : IsDat f dat) {σ : Hp} {a b : Addr} {xs : List α} {Q : V → Hp → Prop} (ha : listAt σ a = some (xs.map f)) (hb : listAt σ b = some (xs.map f)) (q : Q (.bool true) σ) : opCmp .Eq (.ref a) (.ref b) Q σ := by
  refine eq_dat (d := .list (xs.map dat)) (e := .list (xs.map dat)) (.list ha (D.ds σ xs)) (.list hb (D.ds σ xs)) (by have := D.depths xs; simp only [PyData.depth]; omega) ?_
  rw [PySem.SeqAt.eqv_refl _ (Dat.lay (σ := σ) (.list ha (D.ds σ xs)))]; exact q
end
/-! the order of tuples -/
/-! X11 -/
section
variable {σ : Hp} {Q : V → Hp → Prop} {a b : Addr} {xs : List V}
theorem eq_nil (e1 : listAt σ a = some xs) (e2 : listAt σ b = some []) (q : Q (.bool xs.isEmpty) σ) : opCmp .Eq (.ref a) (.ref b) Q σ := by
  cases xs with
  | nil => exact isDat_int.eq (xs := []) e1 e2 q
  | cons x xs =>
    refine CmpS.mk ?_
    intro prog w A s h₀ n va vb R ra rb hw
    obtain rfl := ra.iref; obtain rfl := rb.iref
    obtain ⟨vs, hl, r⟩ := hw.list e1
    obtain ⟨ws, hl2, r2⟩ := hw.list e2
    obtain rfl := r2.inil
    have := r.length
    exact SeqAt.eq_list_lengthsAt hl hl2 (by simp at this ⊢; intro e; subst e; simp at this) (by have := R.units; show A.units < 9900; omega) (PV.same' hw (.bool _) q)
end
theorem fm_range {α : Type} (xs : List α) : ∀ (m a : Nat), (((List.range m).map fun (k : Nat) => a + k).filterMap (xs[·]?)) = (xs.drop a).take m
  | 0, a => by simp
  | m + 1, a => by
    rw [List.range_succ, List.map_append, List.filterMap_append, fm_range xs m a, List.take_add_one, List.getElem?_drop]
    simp only [List.map_cons, List.map_nil, List.filterMap_cons, List.filterMap_nil]
    cases xs[a + m]? <;> rfl
theorem pick_take {α : Type} (xs : List α) (k : Nat) : pickI xs none (some (k : Int)) none = xs.take k := by
  unfold pickI
  have h1 : ¬ ((k : Int) < 0) := by omega
  simp only [sliceBounds, sliceRange, Option.getD_none, h1, if_false, show (1 : Int) > 0 by decide, if_true]
  have e : (List.map (fun (j : Nat) => ((0 : Int) + 1 * (j : Int)).toNat) (List.range (if max 0 (min (k : Int) xs.length) > 0 then (max 0 (min (k : Int) xs.length) - 0 + 1 - 1) / 1 else 0).toNat)) = (List.range (min k xs.length)).map fun j => 0 + j := by
    have : (if max 0 (min (k : Int) xs.length) > 0 then (max 0 (min (k : Int) xs.length) - 0 + 1 - 1) / 1 else 0).toNat = min k xs.length := by
      rw [Int.ediv_one]; split <;> omega
    rw [this]
    refine List.map_congr_left fun j _ => ?_
    omega
  first
    | rw [e]
    | (simp only [Int.zero_add] at e ⊢; rw [e])
  rw [fm_range, List.drop_zero]
  rcases Nat.le_total k xs.length with h | h
  · rw [Nat.min_eq_left h]
  · rw [Nat.min_eq_right h, List.take_length, List.take_of_length_le h]
theorem pick_drop {α : Type} (xs : List α) (k : Nat) : pickI xs (some (k : Int)) none none = xs.drop k := by
  unfold pickI
  have h1 : ¬ ((k : Int) < 0) := by omega
  simp only [sliceBounds, sliceRange, Option.getD_none, h1, if_false, show (1 : Int) > 0 by decide, if_true]
  have e : (List.map (fun (j : Nat) => (max 0 (min (k : Int) xs.length) + 1 * (j : Int)).toNat) (List.range (if (xs.length : Int) > max 0 (min (k : Int) xs.length) then ((xs.length : Int) - max 0 (min (k : Int) xs.length) + 1 - 1) / 1 else 0).toNat)) = (List.range (xs.length - k)).map fun j => min k xs.length + j := by
    have : (if (xs.length : Int) > max 0 (min (k : Int) xs.length) then ((xs.length : Int) - max 0 (min (k : Int) xs.length) + 1 - 1) / 1 else 0).toNat = xs.length - k := by
      rw [Int.ediv_one]; split <;> omega
    rw [this]
    refine List.map_congr_left fun j _ => ?_
    omega
  rw [e, fm_range]
  rcases Nat.le_total k xs.length with h | h
  · rw [Nat.min_eq_left h, List.take_of_length_le (by simp)]
  · rw [Nat.min_eq_right h, List.drop_of_length_le h]; simp
theorem pick_mapV (xs : List V) (lo hi st : Option Int) : pickL xs lo hi st = pickI xs lo hi st := rfl
theorem slice_take {σ : Hp} {Q : V → Hp → Prop} {a : Addr} {xs : List V} {k : Nat} (e : listAt σ a = some xs) (hb : xs.length ≤ BIG) (q : newL (xs.take k) Q σ) : opSlice (.ref a) .none (.int (k : Int)) .none Q σ := by
  refine ⟨_, e, ?_⟩
  show none ≠ some (0 : Int) ∧ newL (pickL xs none (some (k : Int)) none) _ σ
  refine ⟨by simp, ?_⟩
  rw [pick_mapV, pick_take]; exact q
theorem slice_drop {σ : Hp} {Q : V → Hp → Prop} {a : Addr} {xs : List V} {k : Nat} (e : listAt σ a = some xs) (hb : xs.length ≤ BIG) (q : newL (xs.drop k) Q σ) : opSlice (.ref a) (.int (k : Int)) .none .none Q σ := by
  refine ⟨_, e, ?_⟩
  show none ≠ some (0 : Int) ∧ newL (pickL xs (some (k : Int)) none none) _ σ
  refine ⟨by simp, ?_⟩
  rw [pick_mapV, pick_drop]; exact q
/-! Vc02 -/
/-! the walks of law 02: what stands beside the law -/
inductive kindC (args : List V) (Q : V → Hp → Prop) (σ : Hp) : Prop
  | mk (t : Th) (h1 : args = [t.v]) (q : Q (.str (Str.ofString t.kind)) σ) : kindC args Q σ
inductive wordsC (args : List V) (Q : V → Hp → Prop) (σ : Hp) : Prop
  | mk (l r : Th) (h1 : args = [l.v, r.v]) (q : Q (.str (refuse l r)) σ) : wordsC args Q σ
noncomputable def ps_kind : List PS := [.ret (.ite (.call .isinstance [(.var 0), .intT]) (.str (Str.ofString "int")) (.str (Str.ofString "str")))]
theorem kind_v (Φ : Fns) (args : List V) (Q : V → Hp → Prop) (σ : Hp) (F : Frm) (h : kindC args Q σ) (hF : F = args.map some ++ []) : vSs Φ ps_kind (retV Q) F σ := by
  obtain ⟨t, rfl, q⟩ := h
  subst hF
  unfold ps_kind
  ((first | with_reducible refine gx_of ?_ | with_reducible refine go_cons ?_); ((try simp only [e_table, e_intT, e_int, e_bool, e_none, e_str, e_var, e_bin, e_neg, n_int, e_not, e_cmp, e_and, e_or, e_ite, e_sub, e_slice, e_list, e_tuple, e_call, e_ucall, e_meth, e_comp, t_not, t_and, t_or, t_cmp, t_var, t_sub, t_call, t_ucall, s_expr, s_assign, s_setitem, s_aug, s_augi, s_ifs, s_while, s_for, s_ret, s_brk, s_cont, ss_nil, c_range1, c_range2, c_range3, i_rng, i_ref, i_tup, i_enm, i_rev, bt_name, bt_tup, look_zero, look_succ, r_next, r_ret, sa_nil, sa_cons, es_nil, es_cons, o_none, o_some, ts_nil, ts_cons, c_lt, c_le, c_gt, c_ge, c_eq, c_ne, b_add, b_sub, b_mul, b_div, b_mod, b_pow, b_shr, a_add, a_mul, t_bool, t_int, List.map, List.cons_append, List.nil_append, List.getElem?_cons_succ, List.getElem?_cons_zero, List.set_cons_succ, List.set_cons_zero, frOf]); (repeat (first | with_reducible refine qx_next ?_ | with_reducible refine qx_cont ?_ | with_reducible refine qx_brk ?_ | with_reducible refine qx_nil ?_ | with_reducible refine q_nextI ?_ | with_reducible refine q_retI ?_ | with_reducible refine q_contI ?_ | with_reducible refine q_brkI ?_ | with_reducible refine ss_nilI ?_ | rw [q_next] | rw [q_ret] | rw [q_cont] | rw [q_brk] | rw [ss_nil])); (try simp only [r_next, r_ret])))
  cases t with
  | i x =>
    refine isi_int ?_
    ((try simp only [e_table, e_intT, e_int, e_bool, e_none, e_str, e_var, e_bin, e_neg, n_int, e_not, e_cmp, e_and, e_or, e_ite, e_sub, e_slice, e_list, e_tuple, e_call, e_ucall, e_meth, e_comp, t_not, t_and, t_or, t_cmp, t_var, t_sub, t_call, t_ucall, s_expr, s_assign, s_setitem, s_aug, s_augi, s_ifs, s_while, s_for, s_ret, s_brk, s_cont, ss_nil, c_range1, c_range2, c_range3, i_rng, i_ref, i_tup, i_enm, i_rev, bt_name, bt_tup, look_zero, look_succ, r_next, r_ret, sa_nil, sa_cons, es_nil, es_cons, o_none, o_some, ts_nil, ts_cons, c_lt, c_le, c_gt, c_ge, c_eq, c_ne, b_add, b_sub, b_mul, b_div, b_mod, b_pow, b_shr, a_add, a_mul, t_bool, t_int, List.map, List.cons_append, List.nil_append, List.getElem?_cons_succ, List.getElem?_cons_zero, List.set_cons_succ, List.set_cons_zero, frOf]); (repeat (first | with_reducible refine qx_next ?_ | with_reducible refine qx_cont ?_ | with_reducible refine qx_brk ?_ | with_reducible refine qx_nil ?_ | with_reducible refine q_nextI ?_ | with_reducible refine q_retI ?_ | with_reducible refine q_contI ?_ | with_reducible refine q_brkI ?_ | with_reducible refine ss_nilI ?_ | rw [q_next] | rw [q_ret] | rw [q_cont] | rw [q_brk] | rw [ss_nil])); (try simp only [r_next, r_ret]))
    simp only [if_true]
    exact q
  | s x =>
    refine isi_str ?_
    ((try simp only [e_table, e_intT, e_int, e_bool, e_none, e_str, e_var, e_bin, e_neg, n_int, e_not, e_cmp, e_and, e_or, e_ite, e_sub, e_slice, e_list, e_tuple, e_call, e_ucall, e_meth, e_comp, t_not, t_and, t_or, t_cmp, t_var, t_sub, t_call, t_ucall, s_expr, s_assign, s_setitem, s_aug, s_augi, s_ifs, s_while, s_for, s_ret, s_brk, s_cont, ss_nil, c_range1, c_range2, c_range3, i_rng, i_ref, i_tup, i_enm, i_rev, bt_name, bt_tup, look_zero, look_succ, r_next, r_ret, sa_nil, sa_cons, es_nil, es_cons, o_none, o_some, ts_nil, ts_cons, c_lt, c_le, c_gt, c_ge, c_eq, c_ne, b_add, b_sub, b_mul, b_div, b_mod, b_pow, b_shr, a_add, a_mul, t_bool, t_int, List.map, List.cons_append, List.nil_append, List.getElem?_cons_succ, List.getElem?_cons_zero, List.set_cons_succ, List.set_cons_zero, frOf]); (repeat (first | with_reducible refine qx_next ?_ | with_reducible refine qx_cont ?_ | with_reducible refine qx_brk ?_ | with_reducible refine qx_nil ?_ | with_reducible refine q_nextI ?_ | with_reducible refine q_retI ?_ | with_reducible refine q_contI ?_ | with_reducible refine q_brkI ?_ | with_reducible refine ss_nilI ?_ | rw [q_next] | rw [q_ret] | rw [q_cont] | rw [q_brk] | rw [ss_nil])); (try simp only [r_next, r_ret]))
    simp only [Bool.false_eq_true, if_false]
    exact q
theorem words_eq (l r : Th) : Str.ofString "'<' not supported between instances of '" ++ Str.ofString l.kind ++ Str.ofString "' and '" ++ Str.ofString r.kind ++ Str.ofString "'" = refuse l r := by
  cases l <;> cases r
  · show Str.ofString "'<' not supported between instances of '" ++ Str.ofString "int" ++ Str.ofString "' and '" ++ Str.ofString "int" ++ Str.ofString "'" = ltWords "int" "int"; decide +kernel
  · show Str.ofString "'<' not supported between instances of '" ++ Str.ofString "int" ++ Str.ofString "' and '" ++ Str.ofString "str" ++ Str.ofString "'" = ltWords "int" "str"; decide +kernel
  · show Str.ofString "'<' not supported between instances of '" ++ Str.ofString "str" ++ Str.ofString "' and '" ++ Str.ofString "int" ++ Str.ofString "'" = ltWords "str" "int"; decide +kernel
  · show Str.ofString "'<' not supported between instances of '" ++ Str.ofString "str" ++ Str.ofString "' and '" ++ Str.ofString "str" ++ Str.ofString "'" = ltWords "str" "str"; decide +kernel
theorem str_len (a b : Str) : (a ++ b).length = a.length + b.length := by
  show (a.cps ++ b.cps).size = _
  rw [Array.size_append]; rfl
theorem kind_len (t : Th) : (Str.ofString t.kind).length = 3 := by cases t <;> rfl
noncomputable def ps_words : List PS := [.ret (.bin .Add (.bin .Add (.bin .Add (.bin .Add (.str (Str.ofString "'<' not supported between instances of '")) (.ucall 2 [(.var 0)])) (.str (Str.ofString "' and '"))) (.ucall 2 [(.var 1)])) (.str (Str.ofString "'")))]
theorem words_v (Φ : Fns) (h2 : ∀ args Q σ, kindC args Q σ → Φ 2 args Q σ) (args : List V) (Q : V → Hp → Prop) (σ : Hp) (F : Frm) (h : wordsC args Q σ) (hF : F = args.map some ++ []) : vSs Φ ps_words (retV Q) F σ := by
  obtain ⟨l, r, rfl, q⟩ := h
  subst hF
  have k1 := kind_len l
  have k2 := kind_len r
  have c1 : (Str.ofString "'<' not supported between instances of '").length = 40 := by decide +kernel
  have c2 : (Str.ofString "' and '").length = 7 := by decide +kernel
  have c3 : (Str.ofString "'").length = 1 := by decide +kernel
  unfold ps_words
  ((first | with_reducible refine gx_of ?_ | with_reducible refine go_cons ?_); ((try simp only [e_table, e_intT, e_int, e_bool, e_none, e_str, e_var, e_bin, e_neg, n_int, e_not, e_cmp, e_and, e_or, e_ite, e_sub, e_slice, e_list, e_tuple, e_call, e_ucall, e_meth, e_comp, t_not, t_and, t_or, t_cmp, t_var, t_sub, t_call, t_ucall, s_expr, s_assign, s_setitem, s_aug, s_augi, s_ifs, s_while, s_for, s_ret, s_brk, s_cont, ss_nil, c_range1, c_range2, c_range3, i_rng, i_ref, i_tup, i_enm, i_rev, bt_name, bt_tup, look_zero, look_succ, r_next, r_ret, sa_nil, sa_cons, es_nil, es_cons, o_none, o_some, ts_nil, ts_cons, c_lt, c_le, c_gt, c_ge, c_eq, c_ne, b_add, b_sub, b_mul, b_div, b_mod, b_pow, b_shr, a_add, a_mul, t_bool, t_int, List.map, List.cons_append, List.nil_append, List.getElem?_cons_succ, List.getElem?_cons_zero, List.set_cons_succ, List.set_cons_zero, frOf]); (repeat (first | with_reducible refine qx_next ?_ | with_reducible refine qx_cont ?_ | with_reducible refine qx_brk ?_ | with_reducible refine qx_nil ?_ | with_reducible refine q_nextI ?_ | with_reducible refine q_retI ?_ | with_reducible refine q_contI ?_ | with_reducible refine q_brkI ?_ | with_reducible refine ss_nilI ?_ | rw [q_next] | rw [q_ret] | rw [q_cont] | rw [q_brk] | rw [ss_nil])); (try simp only [r_next, r_ret])))
  refine h2 _ _ _ ⟨l, rfl, ?_⟩
  refine add_strs (by omega) ?_
  refine add_strs (by rw [str_len]; omega) ?_
  refine h2 _ _ _ ⟨r, rfl, ?_⟩
  refine add_strs (by rw [str_len, str_len]; omega) ?_
  refine add_strs (by rw [str_len, str_len, str_len]; omega) ?_
  rw [words_eq]
  ((try simp only [e_table, e_intT, e_int, e_bool, e_none, e_str, e_var, e_bin, e_neg, n_int, e_not, e_cmp, e_and, e_or, e_ite, e_sub, e_slice, e_list, e_tuple, e_call, e_ucall, e_meth, e_comp, t_not, t_and, t_or, t_cmp, t_var, t_sub, t_call, t_ucall, s_expr, s_assign, s_setitem, s_aug, s_augi, s_ifs, s_while, s_for, s_ret, s_brk, s_cont, ss_nil, c_range1, c_range2, c_range3, i_rng, i_ref, i_tup, i_enm, i_rev, bt_name, bt_tup, look_zero, look_succ, r_next, r_ret, sa_nil, sa_cons, es_nil, es_cons, o_none, o_some, ts_nil, ts_cons, c_lt, c_le, c_gt, c_ge, c_eq, c_ne, b_add, b_sub, b_mul, b_div, b_mod, b_pow, b_shr, a_add, a_mul, t_bool, t_int, List.map, List.cons_append, List.nil_append, List.getElem?_cons_succ, List.getElem?_cons_zero, List.set_cons_succ, List.set_cons_zero, frOf]); (repeat (first | with_reducible refine qx_next ?_ | with_reducible refine qx_cont ?_ | with_reducible refine qx_brk ?_ | with_reducible refine qx_nil ?_ | with_reducible refine q_nextI ?_ | with_reducible refine q_retI ?_ | with_reducible refine q_contI ?_ | with_reducible refine q_brkI ?_ | with_reducible refine ss_nilI ?_ | rw [q_next] | rw [q_ret] | rw [q_cont] | rw [q_brk] | rw [ss_nil])); (try simp only [r_next, r_ret]))
  exact q
/-! slices -/
theorem pick_last {α : Type} (r : List α) (y : α) : pickI (r ++ [y]) (some (-1)) none none = [y] := by
  unfold pickI
  have h1 : ((-1 : Int) < 0) := by decide
  simp only [sliceBounds, sliceRange, Option.getD_none, h1, if_true, show (1 : Int) > 0 by decide]
  have e : (List.map (fun (j : Nat) => (max 0 (min (-1 + (((r ++ [y]).length : Nat) : Int)) ((r ++ [y]).length : Nat)) + 1 * (j : Int)).toNat) (List.range (if (((r ++ [y]).length : Nat) : Int) > max 0 (min (-1 + (((r ++ [y]).length : Nat) : Int)) ((r ++ [y]).length : Nat)) then ((((r ++ [y]).length : Nat) : Int) - max 0 (min (-1 + (((r ++ [y]).length : Nat) : Int)) ((r ++ [y]).length : Nat)) + 1 - 1) / 1 else 0).toNat)) = [r.length] := by
    have hl : (((r ++ [y]).length : Nat) : Int) = r.length + 1 := by simp
    rw [hl]
    have : (if (r.length : Int) + 1 > max 0 (min (-1 + ((r.length : Int) + 1)) ((r.length : Int) + 1)) then ((r.length : Int) + 1 - max 0 (min (-1 + ((r.length : Int) + 1)) ((r.length : Int) + 1)) + 1 - 1) / 1 else 0).toNat = 1 := by
      rw [Int.ediv_one]; split <;> omega
    rw [this]
    simp
    omega
  first
    | rw [e]
    | (simp only [Int.add_comm] at e ⊢; rw [e])
  simp
theorem pick_mid {α : Type} (x : α) (t : List α) (k : Nat) (hk : k ≤ t.length) : pickI (x :: t) (some 1) (some ((k : Int) + 1)) none = t.take k := by
  unfold pickI
  have h1 : ¬ ((1 : Int) < 0) := by decide
  have h2 : ¬ ((k : Int) + 1 < 0) := by omega
  simp only [sliceBounds, sliceRange, Option.getD_none, h1, h2, if_false, show (1 : Int) > 0 by decide, if_true, List.length_cons]
  have a1 : max 0 (min (1 : Int) ((t.length + 1 : Nat) : Int)) = 1 := by omega
  have a2 : max 0 (min ((k : Int) + 1) ((t.length + 1 : Nat) : Int)) = k + 1 := by omega
  rw [a1, a2]
  have e : (List.map (fun (j : Nat) => ((1 : Int) + 1 * (j : Int)).toNat) (List.range (if (k : Int) + 1 > 1 then ((k : Int) + 1 - 1 + 1 - 1) / 1 else 0).toNat)) = (List.range k).map fun j => 1 + j := by
    have : (if (k : Int) + 1 > 1 then ((k : Int) + 1 - 1 + 1 - 1) / 1 else 0).toNat = k := by
      rw [Int.ediv_one]; split <;> omega
    rw [this]
    refine List.map_congr_left fun j _ => ?_
    omega
  rw [e, fm_range]; rfl
section
variable {σ : Hp} {Q : V → Hp → Prop} {a : Addr}
theorem slice_last {r : List Th} {y : Th} (e : listAt σ a = some ((r ++ [y]).map Th.v)) (q : newL ([y].map Th.v) Q σ) : opSlice (.ref a) (.int (-1)) .none .none Q σ := by
  refine ⟨_, e, ?_⟩
  show none ≠ some (0 : Int) ∧ newL (pickL _ (some (-1)) none none) _ σ
  refine ⟨by simp, ?_⟩
  rw [pick_map, pick_last]; exact q
theorem slice_mid {x : Th} {t : List Th} {k : Nat} (hk : k ≤ t.length) (e : listAt σ a = some ((x :: t).map Th.v)) (q : newL ((t.take k).map Th.v) Q σ) : opSlice (.ref a) (.int 1) (.int ((k : Int) + 1)) .none Q σ := by
  refine ⟨_, e, ?_⟩
  show none ≠ some (0 : Int) ∧ newL (pickL _ (some 1) (some ((k : Int) + 1)) none) _ σ
  refine ⟨by simp, ?_⟩
  rw [pick_map, pick_mid _ _ _ hk]; exact q
end

/-! Vc02b -/
/-! the walk of _law_left -/
noncomputable def wordsOf (w : Option Str) : Str := w.getD (Str.ofString "")
inductive leftC (args : List V) (Q : V → Hp → Prop) (σ : Hp) : Prop
  | mk (a : Addr) (r : List Th) (w : Option Str) (h1 : args = [.ref a, .str (wordsOf w)]) (h2 : listAt σ a = some (r.map Th.v)) (h3 : r.length ≤ 500) (h4 : r ≠ []) (h5 : ∀ s, w = some s → s ≠ Str.ofString "")
    (q : ∀ l d b σ', LeftR r w l d → Ext σ σ' → σ b = none → σ' b = some (.list (l.map Th.v)) → Q (.tup [.ref b, .str (wordsOf d)]) σ') : leftC args Q σ
noncomputable def ps_left1 : PS := .ifs (.cmp .NotEq (.var 1) (.str (Str.ofString ""))) [.ret (.tuple [(.bin .Add (.slice (.var 0) (some (.int 1)) none none) (.slice (.var 0) (some (.neg (.int 1))) none none)), (.var 1)])] []
noncomputable def ps_left2 : PS := .assign (.name 2) (.comp [none, none] (.ucall 2 [(.var 1)]) (.name 1) .plain (.var 0) [])
noncomputable def ps_left3 : PS := .assign (.name 3) (.call .max [(.bin .Add (.list [(.int 0)]) (.comp [none, none, some 2, some 0] (.var 1) (.name 1) .plain (.call .range [(.int 1), (.call .len [(.var 0)])]) [(.or (.cmp .NotEq (.sub (.var 2) (.var 1)) (.sub (.var 2) (.int 0))) (.not (.cmp .Lt (.sub (.var 3) (.var 1)) (.sub (.var 3) (.int 0)))))]))])
noncomputable def ps_left4 : List PS := [.assign (.name 4) (.slice (.var 0) (some (.bin .Add (.var 3) (.int 1))) none none),
  .ifs (.cmp .NotEq (.sub (.var 2) (.var 3)) (.sub (.var 2) (.int 0))) [.ret (.tuple [(.bin .Add (.bin .Add (.slice (.var 0) (some (.int 1)) (some (.bin .Add (.var 3) (.int 1))) none) (.or (.slice (.var 4) none (some (.int 1)) none) (.slice (.var 0) none (some (.int 1)) none))) (.var 4)), (.ucall 3 [(.sub (.var 0) (.var 3)), (.sub (.var 0) (.int 0))])])] [],
  .ret (.tuple [(.bin .Add (.bin .Add (.slice (.var 0) (some (.int 1)) (some (.bin .Add (.var 3) (.int 1))) none) (.slice (.var 0) none (some (.int 1)) none)) (.var 4)), (.str (Str.ofString ""))])]
noncomputable def ps_left : List PS := ps_left1 :: ps_left2 :: ps_left3 :: ps_left4
theorem listAt_off {σ : Hp} {a b : Addr} {o : AObj} {xs : List V} (h : listAt σ a = some xs) (n : a ≠ b) : listAt (upd σ b o) a = some xs := by
  unfold listAt at *; rw [upd_ne _ _ n]; exact h
noncomputable def kv (t : Th) : V := .str (Str.ofString t.kind)
theorem kind_ne (x y : Th) : (Str.ofString x.kind != Str.ofString y.kind) = (x.isI != y.isI) := by
  cases x <;> cases y <;> rfl
noncomputable def stopB (x : Th) (t : List Th) (k : Nat) : Bool := (((x :: t).getD k x).isI != x.isI) || !(((x :: t).getD k x).lt x)
theorem stops_iff (x : Th) (t : List Th) (k : Nat) : stops x t k ↔ (0 < k ∧ k ≤ t.length ∧ stopB x t k = true) := by
  unfold stops stopB
  refine and_congr_right fun _ => and_congr_right fun _ => ?_
  rw [Bool.or_eq_true, bne_iff_ne, Bool.not_eq_true']
theorem lt_th {σ : Hp} {Q : V → Hp → Prop} {x y : Th} (k : x.isI = y.isI) (q : Q (.bool (x.lt y)) σ) : opCmp .Lt x.v y.v Q σ := by
  cases x with
  | i x => cases y with
    | i y => exact q
    | s y => cases k
  | s x => cases y with
    | i y => cases k
    | s y => exact lt_strs q
theorem at_th {r : List Th} {k : Nat} (x : Th) (h : k < r.length) : (r.map Th.v)[k]? = some (r.getD k x).v := map_at x h
theorem sub_th {σ : Hp} {a : Addr} {r : List Th} {k : Nat} (x : Th) {Q : V → Hp → Prop} (e : listAt σ a = some (r.map Th.v)) (h : k < r.length) (q : Q (r.getD k x).v σ) : opSub (.ref a) (.int k) Q σ := by
  refine sub_list e (x := (r.getD k x).v) ?_ q
  unfold nth
  rw [if_pos (by omega)]
  exact at_th x h
theorem sub_kv {σ : Hp} {a : Addr} {r : List Th} {k : Nat} (x : Th) {Q : V → Hp → Prop} (e : listAt σ a = some (r.map kv)) (h : k < r.length) (q : Q (kv (r.getD k x)) σ) : opSub (.ref a) (.int k) Q σ := by
  refine sub_list e (x := kv (r.getD k x)) ?_ q
  unfold nth
  rw [if_pos (by omega)]
  exact map_at x h
noncomputable def gKind (v : V) : Option V := match v with
  | .int _ => some (.str (Str.ofString "int"))
  | .str _ => some (.str (Str.ofString "str"))
  | _ => none
theorem gKind_th (t : Th) : gKind t.v = some (kv t) := by cases t <;> rfl
theorem fm_kind (r : List Th) : (r.map Th.v).filterMap gKind = r.map kv := by
  rw [List.filterMap_map]
  exact fm_some _ fun t _ => gKind_th t
section
variable {Φ : Fns} {Q : V → Hp → Prop} {σ : Hp} {a : Addr} {r : List Th}
theorem left2_v (h2 : ∀ args Q σ, kindC args Q σ → Φ 2 args Q σ) {R : Fl → Frm → Hp → Prop} {w : V} (e : listAt σ a = some (r.map Th.v)) (hl : r.length ≤ 500)
    (q : ∀ b σ', Ext σ σ' → σ b = none → listAt σ' b = some (r.map kv) → R .next [some (.ref a), some w, some (.ref b), none, none] σ') : vS Φ ps_left2 R [some (.ref a), some w, none, none, none] σ := by
  unfold ps_left2
  ((try simp only [e_table, e_intT, e_int, e_bool, e_none, e_str, e_var, e_bin, e_neg, n_int, e_not, e_cmp, e_and, e_or, e_ite, e_sub, e_slice, e_list, e_tuple, e_call, e_ucall, e_meth, e_comp, t_not, t_and, t_or, t_cmp, t_var, t_sub, t_call, t_ucall, s_expr, s_assign, s_setitem, s_aug, s_augi, s_ifs, s_while, s_for, s_ret, s_brk, s_cont, ss_nil, c_range1, c_range2, c_range3, i_rng, i_ref, i_tup, i_enm, i_rev, bt_name, bt_tup, look_zero, look_succ, r_next, r_ret, sa_nil, sa_cons, es_nil, es_cons, o_none, o_some, ts_nil, ts_cons, c_lt, c_le, c_gt, c_ge, c_eq, c_ne, b_add, b_sub, b_mul, b_div, b_mod, b_pow, b_shr, a_add, a_mul, t_bool, t_int, List.map, List.cons_append, List.nil_append, List.getElem?_cons_succ, List.getElem?_cons_zero, List.set_cons_succ, List.set_cons_zero, frOf]); (repeat (first | with_reducible refine qx_next ?_ | with_reducible refine qx_cont ?_ | with_reducible refine qx_brk ?_ | with_reducible refine qx_nil ?_ | with_reducible refine q_nextI ?_ | with_reducible refine q_retI ?_ | with_reducible refine q_contI ?_ | with_reducible refine q_brkI ?_ | with_reducible refine ss_nilI ?_ | rw [q_next] | rw [q_ret] | rw [q_cont] | rw [q_brk] | rw [ss_nil])); (try simp only [r_next, r_ret]))
  refine ⟨⟨_, e⟩, ?_⟩
  refine comp_rule (xs := r.map Th.v) gKind (by rw [List.length_map]; exact big_of (by omega)) (yields_lst (fun τ h => h.listAt e) _ 0 rfl) ?_ ?_
  · intro x mx τ hE K N hK hN
    obtain ⟨t, _, rfl⟩ := List.mem_map.mp mx
    ((try simp only [e_table, e_intT, e_int, e_bool, e_none, e_str, e_var, e_bin, e_neg, n_int, e_not, e_cmp, e_and, e_or, e_ite, e_sub, e_slice, e_list, e_tuple, e_call, e_ucall, e_meth, e_comp, t_not, t_and, t_or, t_cmp, t_var, t_sub, t_call, t_ucall, s_expr, s_assign, s_setitem, s_aug, s_augi, s_ifs, s_while, s_for, s_ret, s_brk, s_cont, ss_nil, c_range1, c_range2, c_range3, i_rng, i_ref, i_tup, i_enm, i_rev, bt_name, bt_tup, look_zero, look_succ, r_next, r_ret, sa_nil, sa_cons, es_nil, es_cons, o_none, o_some, ts_nil, ts_cons, c_lt, c_le, c_gt, c_ge, c_eq, c_ne, b_add, b_sub, b_mul, b_div, b_mod, b_pow, b_shr, a_add, a_mul, t_bool, t_int, List.map, List.cons_append, List.nil_append, List.getElem?_cons_succ, List.getElem?_cons_zero, List.set_cons_succ, List.set_cons_zero, frOf]); (repeat (first | with_reducible refine qx_next ?_ | with_reducible refine qx_cont ?_ | with_reducible refine qx_brk ?_ | with_reducible refine qx_nil ?_ | with_reducible refine q_nextI ?_ | with_reducible refine q_retI ?_ | with_reducible refine q_contI ?_ | with_reducible refine q_brkI ?_ | with_reducible refine ss_nilI ?_ | rw [q_next] | rw [q_ret] | rw [q_cont] | rw [q_brk] | rw [ss_nil])); (try simp only [r_next, r_ret]))
    simp only [if_true]
    ((try simp only [e_table, e_intT, e_int, e_bool, e_none, e_str, e_var, e_bin, e_neg, n_int, e_not, e_cmp, e_and, e_or, e_ite, e_sub, e_slice, e_list, e_tuple, e_call, e_ucall, e_meth, e_comp, t_not, t_and, t_or, t_cmp, t_var, t_sub, t_call, t_ucall, s_expr, s_assign, s_setitem, s_aug, s_augi, s_ifs, s_while, s_for, s_ret, s_brk, s_cont, ss_nil, c_range1, c_range2, c_range3, i_rng, i_ref, i_tup, i_enm, i_rev, bt_name, bt_tup, look_zero, look_succ, r_next, r_ret, sa_nil, sa_cons, es_nil, es_cons, o_none, o_some, ts_nil, ts_cons, c_lt, c_le, c_gt, c_ge, c_eq, c_ne, b_add, b_sub, b_mul, b_div, b_mod, b_pow, b_shr, a_add, a_mul, t_bool, t_int, List.map, List.cons_append, List.nil_append, List.getElem?_cons_succ, List.getElem?_cons_zero, List.set_cons_succ, List.set_cons_zero, frOf]); (repeat (first | with_reducible refine qx_next ?_ | with_reducible refine qx_cont ?_ | with_reducible refine qx_brk ?_ | with_reducible refine qx_nil ?_ | with_reducible refine q_nextI ?_ | with_reducible refine q_retI ?_ | with_reducible refine q_contI ?_ | with_reducible refine q_brkI ?_ | with_reducible refine ss_nilI ?_ | rw [q_next] | rw [q_ret] | rw [q_cont] | rw [q_brk] | rw [ss_nil])); (try simp only [r_next, r_ret]))
    exact h2 _ _ _ ⟨t, rfl, hK _ _ (gKind_th t) .rfl⟩
  · intro τ hE b hb
    rw [fm_kind]
    ((try simp only [e_table, e_intT, e_int, e_bool, e_none, e_str, e_var, e_bin, e_neg, n_int, e_not, e_cmp, e_and, e_or, e_ite, e_sub, e_slice, e_list, e_tuple, e_call, e_ucall, e_meth, e_comp, t_not, t_and, t_or, t_cmp, t_var, t_sub, t_call, t_ucall, s_expr, s_assign, s_setitem, s_aug, s_augi, s_ifs, s_while, s_for, s_ret, s_brk, s_cont, ss_nil, c_range1, c_range2, c_range3, i_rng, i_ref, i_tup, i_enm, i_rev, bt_name, bt_tup, look_zero, look_succ, r_next, r_ret, sa_nil, sa_cons, es_nil, es_cons, o_none, o_some, ts_nil, ts_cons, c_lt, c_le, c_gt, c_ge, c_eq, c_ne, b_add, b_sub, b_mul, b_div, b_mod, b_pow, b_shr, a_add, a_mul, t_bool, t_int, List.map, List.cons_append, List.nil_append, List.getElem?_cons_succ, List.getElem?_cons_zero, List.set_cons_succ, List.set_cons_zero, frOf]); (repeat (first | with_reducible refine qx_next ?_ | with_reducible refine qx_cont ?_ | with_reducible refine qx_brk ?_ | with_reducible refine qx_nil ?_ | with_reducible refine q_nextI ?_ | with_reducible refine q_retI ?_ | with_reducible refine q_contI ?_ | with_reducible refine q_brkI ?_ | with_reducible refine ss_nilI ?_ | rw [q_next] | rw [q_ret] | rw [q_cont] | rw [q_brk] | rw [ss_nil])); (try simp only [r_next, r_ret]))
    exact q b _ (hE.trans (Ext.upd _ hb)) (hE.fresh hb) (listAt_list (upd_same _ _ _))
noncomputable def gStop (x : Th) (t : List Th) (v : V) : Option V := match v with
  | .int k => if stopB x t k.toNat then some v else none
  | _ => none
noncomputable def stopsL (x : Th) (t : List Th) : List Int := ((List.range t.length).map fun (i : Nat) => 1 + (i : Int) * 1).filter fun k => stopB x t k.toNat
theorem fm_stop (x : Th) (t : List Th) : ∀ l : List Nat, (l.map fun (i : Nat) => V.int (1 + (i : Int) * 1)).filterMap (gStop x t) = ((l.map fun (i : Nat) => 1 + (i : Int) * 1).filter fun k => stopB x t k.toNat).map V.int
  | [] => rfl
  | i :: l => by
    have ih := fm_stop x t l
    simp only [List.map_cons, List.filterMap_cons, List.filter_cons, gStop]
    cases stopB x t (1 + (i : Int) * 1).toNat with
    | true => simp only [if_true, List.map_cons]; rw [ih]
    | false => simp only [Bool.false_eq_true, if_false]; exact ih
theorem mem_stops {x : Th} {t : List Th} {m : Int} : m ∈ stopsL x t ↔ ∃ k : Nat, m = k ∧ stops x t k := by
  unfold stopsL
  rw [List.mem_filter, List.mem_map]
  constructor
  · rintro ⟨⟨i, hi, rfl⟩, hb⟩
    have hi : i < t.length := by simpa using hi
    have e : (1 + (i : Int) * 1).toNat = i + 1 := by omega
    rw [e] at hb
    exact ⟨i + 1, by omega, (stops_iff x t _).mpr ⟨by omega, by omega, hb⟩⟩
  · rintro ⟨k, rfl, h⟩
    obtain ⟨h1, h2, h3⟩ := (stops_iff x t k).mp h
    exact ⟨⟨k - 1, by simp; omega, by omega⟩, by simpa using h3⟩
theorem left3_v {R : Fl → Frm → Hp → Prop} {w : V} {x : Th} {t : List Th} {kd : Addr} (e : listAt σ a = some ((x :: t).map Th.v)) (ek : listAt σ kd = some ((x :: t).map kv)) (hl : t.length ≤ 500)
    (q : ∀ (s : Nat) σ', (s = 0 ∨ stops x t s) → (∀ j, s < j → ¬ stops x t j) → Ext σ σ' → R .next [some (.ref a), some w, some (.ref kd), some (.int s), none] σ') : vS Φ ps_left3 R [some (.ref a), some w, some (.ref kd), none, none] σ := by
  unfold ps_left3
  ((try simp only [e_table, e_intT, e_int, e_bool, e_none, e_str, e_var, e_bin, e_neg, n_int, e_not, e_cmp, e_and, e_or, e_ite, e_sub, e_slice, e_list, e_tuple, e_call, e_ucall, e_meth, e_comp, t_not, t_and, t_or, t_cmp, t_var, t_sub, t_call, t_ucall, s_expr, s_assign, s_setitem, s_aug, s_augi, s_ifs, s_while, s_for, s_ret, s_brk, s_cont, ss_nil, c_range1, c_range2, c_range3, i_rng, i_ref, i_tup, i_enm, i_rev, bt_name, bt_tup, look_zero, look_succ, r_next, r_ret, sa_nil, sa_cons, es_nil, es_cons, o_none, o_some, ts_nil, ts_cons, c_lt, c_le, c_gt, c_ge, c_eq, c_ne, b_add, b_sub, b_mul, b_div, b_mod, b_pow, b_shr, a_add, a_mul, t_bool, t_int, List.map, List.cons_append, List.nil_append, List.getElem?_cons_succ, List.getElem?_cons_zero, List.set_cons_succ, List.set_cons_zero, frOf]); (repeat (first | with_reducible refine qx_next ?_ | with_reducible refine qx_cont ?_ | with_reducible refine qx_brk ?_ | with_reducible refine qx_nil ?_ | with_reducible refine q_nextI ?_ | with_reducible refine q_retI ?_ | with_reducible refine q_contI ?_ | with_reducible refine q_brkI ?_ | with_reducible refine ss_nilI ?_ | rw [q_next] | rw [q_ret] | rw [q_cont] | rw [q_brk] | rw [ss_nil])); (try simp only [r_next, r_ret]))
  refine newL_of (big_of (n := 1) (by decide)) fun z τ x1 f1 g1 => ?_
  refine call_len (x1.listAt e) ?_
  rw [List.length_map]
  ((try simp only [e_table, e_intT, e_int, e_bool, e_none, e_str, e_var, e_bin, e_neg, n_int, e_not, e_cmp, e_and, e_or, e_ite, e_sub, e_slice, e_list, e_tuple, e_call, e_ucall, e_meth, e_comp, t_not, t_and, t_or, t_cmp, t_var, t_sub, t_call, t_ucall, s_expr, s_assign, s_setitem, s_aug, s_augi, s_ifs, s_while, s_for, s_ret, s_brk, s_cont, ss_nil, c_range1, c_range2, c_range3, i_rng, i_ref, i_tup, i_enm, i_rev, bt_name, bt_tup, look_zero, look_succ, r_next, r_ret, sa_nil, sa_cons, es_nil, es_cons, o_none, o_some, ts_nil, ts_cons, c_lt, c_le, c_gt, c_ge, c_eq, c_ne, b_add, b_sub, b_mul, b_div, b_mod, b_pow, b_shr, a_add, a_mul, t_bool, t_int, List.map, List.cons_append, List.nil_append, List.getElem?_cons_succ, List.getElem?_cons_zero, List.set_cons_succ, List.set_cons_zero, frOf]); (repeat (first | with_reducible refine qx_next ?_ | with_reducible refine qx_cont ?_ | with_reducible refine qx_brk ?_ | with_reducible refine qx_nil ?_ | with_reducible refine q_nextI ?_ | with_reducible refine q_retI ?_ | with_reducible refine q_contI ?_ | with_reducible refine q_brkI ?_ | with_reducible refine ss_nilI ?_ | rw [q_next] | rw [q_ret] | rw [q_cont] | rw [q_brk] | rw [ss_nil])); (try simp only [r_next, r_ret]))
  refine ⟨⟨.inl rfl, by omega, by simp; omega⟩, ?_⟩
  have rl : rlen 1 ((x :: t).length : Int) 1 = t.length := by unfold rlen; simp
  rw [rl]
  refine comp_rule (xs := (List.range t.length).map fun (i : Nat) => V.int (1 + (i : Int) * 1)) (gStop x t) (by rw [List.length_map, List.length_range]; exact big_of (by omega)) (yields_rng _ _ _ _) ?_ ?_
  · intro y my τ2 hE K N hK hN
    obtain ⟨i, mi, rfl⟩ := List.mem_map.mp my
    have hi : i < t.length := by simpa using mi
    have e0 : 1 + (i : Int) * 1 = ((i + 1 : Nat) : Int) := by omega
    rw [e0] at hK hN ⊢
    have e1 := hE.listAt (x1.listAt e)
    have e2 := hE.listAt (x1.listAt ek)
    ((try simp only [e_table, e_intT, e_int, e_bool, e_none, e_str, e_var, e_bin, e_neg, n_int, e_not, e_cmp, e_and, e_or, e_ite, e_sub, e_slice, e_list, e_tuple, e_call, e_ucall, e_meth, e_comp, t_not, t_and, t_or, t_cmp, t_var, t_sub, t_call, t_ucall, s_expr, s_assign, s_setitem, s_aug, s_augi, s_ifs, s_while, s_for, s_ret, s_brk, s_cont, ss_nil, c_range1, c_range2, c_range3, i_rng, i_ref, i_tup, i_enm, i_rev, bt_name, bt_tup, look_zero, look_succ, r_next, r_ret, sa_nil, sa_cons, es_nil, es_cons, o_none, o_some, ts_nil, ts_cons, c_lt, c_le, c_gt, c_ge, c_eq, c_ne, b_add, b_sub, b_mul, b_div, b_mod, b_pow, b_shr, a_add, a_mul, t_bool, t_int, List.map, List.cons_append, List.nil_append, List.getElem?_cons_succ, List.getElem?_cons_zero, List.set_cons_succ, List.set_cons_zero, frOf]); (repeat (first | with_reducible refine qx_next ?_ | with_reducible refine qx_cont ?_ | with_reducible refine qx_brk ?_ | with_reducible refine qx_nil ?_ | with_reducible refine q_nextI ?_ | with_reducible refine q_retI ?_ | with_reducible refine q_contI ?_ | with_reducible refine q_brkI ?_ | with_reducible refine ss_nilI ?_ | rw [q_next] | rw [q_ret] | rw [q_cont] | rw [q_brk] | rw [ss_nil])); (try simp only [r_next, r_ret]))
    refine sub_kv x e2 (show i + 1 < (x :: t).length by simp; omega) ?_
    refine sub_kv (k := 0) x e2 (by simp) ?_
    refine ne_strs ?_
    rw [kind_ne]
    ((try simp only [e_table, e_intT, e_int, e_bool, e_none, e_str, e_var, e_bin, e_neg, n_int, e_not, e_cmp, e_and, e_or, e_ite, e_sub, e_slice, e_list, e_tuple, e_call, e_ucall, e_meth, e_comp, t_not, t_and, t_or, t_cmp, t_var, t_sub, t_call, t_ucall, s_expr, s_assign, s_setitem, s_aug, s_augi, s_ifs, s_while, s_for, s_ret, s_brk, s_cont, ss_nil, c_range1, c_range2, c_range3, i_rng, i_ref, i_tup, i_enm, i_rev, bt_name, bt_tup, look_zero, look_succ, r_next, r_ret, sa_nil, sa_cons, es_nil, es_cons, o_none, o_some, ts_nil, ts_cons, c_lt, c_le, c_gt, c_ge, c_eq, c_ne, b_add, b_sub, b_mul, b_div, b_mod, b_pow, b_shr, a_add, a_mul, t_bool, t_int, List.map, List.cons_append, List.nil_append, List.getElem?_cons_succ, List.getElem?_cons_zero, List.set_cons_succ, List.set_cons_zero, frOf]); (repeat (first | with_reducible refine qx_next ?_ | with_reducible refine qx_cont ?_ | with_reducible refine qx_brk ?_ | with_reducible refine qx_nil ?_ | with_reducible refine q_nextI ?_ | with_reducible refine q_retI ?_ | with_reducible refine q_contI ?_ | with_reducible refine q_brkI ?_ | with_reducible refine ss_nilI ?_ | rw [q_next] | rw [q_ret] | rw [q_cont] | rw [q_brk] | rw [ss_nil])); (try simp only [r_next, r_ret]))
    have eg : gStop x t (.int ((i + 1 : Nat) : Int)) = if stopB x t (i + 1) then some (.int ((i + 1 : Nat) : Int)) else none := rfl
    cases hk : (((x :: t).getD (i + 1) x).isI != ((x :: t).getD 0 x).isI) with
    | true =>
      have sb : stopB x t (i + 1) = true := by unfold stopB; rw [show (((x :: t).getD (i + 1) x).isI != x.isI) = true from hk]; rfl
      simp only [if_true]
      exact hK _ _ (by rw [eg, sb]; rfl) .rfl
    | false =>
      have hk' : ((x :: t).getD (i + 1) x).isI = x.isI := by simpa using hk
      simp only [Bool.false_eq_true, if_false]
      refine sub_th x e1 (show i + 1 < (x :: t).length by simp; omega) ?_
      refine sub_th (k := 0) x e1 (by simp) ?_
      refine lt_th hk' ?_
      ((try simp only [e_table, e_intT, e_int, e_bool, e_none, e_str, e_var, e_bin, e_neg, n_int, e_not, e_cmp, e_and, e_or, e_ite, e_sub, e_slice, e_list, e_tuple, e_call, e_ucall, e_meth, e_comp, t_not, t_and, t_or, t_cmp, t_var, t_sub, t_call, t_ucall, s_expr, s_assign, s_setitem, s_aug, s_augi, s_ifs, s_while, s_for, s_ret, s_brk, s_cont, ss_nil, c_range1, c_range2, c_range3, i_rng, i_ref, i_tup, i_enm, i_rev, bt_name, bt_tup, look_zero, look_succ, r_next, r_ret, sa_nil, sa_cons, es_nil, es_cons, o_none, o_some, ts_nil, ts_cons, c_lt, c_le, c_gt, c_ge, c_eq, c_ne, b_add, b_sub, b_mul, b_div, b_mod, b_pow, b_shr, a_add, a_mul, t_bool, t_int, List.map, List.cons_append, List.nil_append, List.getElem?_cons_succ, List.getElem?_cons_zero, List.set_cons_succ, List.set_cons_zero, frOf]); (repeat (first | with_reducible refine qx_next ?_ | with_reducible refine qx_cont ?_ | with_reducible refine qx_brk ?_ | with_reducible refine qx_nil ?_ | with_reducible refine q_nextI ?_ | with_reducible refine q_retI ?_ | with_reducible refine q_contI ?_ | with_reducible refine q_brkI ?_ | with_reducible refine ss_nilI ?_ | rw [q_next] | rw [q_ret] | rw [q_cont] | rw [q_brk] | rw [ss_nil])); (try simp only [r_next, r_ret]))
      have sb : stopB x t (i + 1) = !(((x :: t).getD (i + 1) x).lt x) := by unfold stopB; rw [show (((x :: t).getD (i + 1) x).isI != x.isI) = false from hk]; rfl
      show if (!(((x :: t).getD (i + 1) x).lt x)) = true then _ else _
      rw [← sb]
      cases hb : stopB x t (i + 1) with
      | true => simp only [if_true]; exact hK _ _ (by rw [eg, hb]; rfl) .rfl
      | false => simp only [Bool.false_eq_true, if_false]; exact hN (by rw [eg, hb]; rfl) _ .rfl
  · intro τ2 hE b hb
    rw [fm_stop]
    have zb : z ≠ b := by rintro rfl; rw [hE _ _ g1] at hb; cases hb
    refine add_lists (listAt_off (listAt_list (hE _ _ g1)) zb) (listAt_list (upd_same _ _ _)) ?_
    have hsl : (stopsL x t).length ≤ 500 := by unfold stopsL; exact Nat.le_trans (List.length_filter_le _ _) (by rw [List.length_map, List.length_range]; exact hl)
    refine newL_of (xs := V.int 0 :: (stopsL x t).map V.int) (by rw [List.length_cons, List.length_map]; unfold BIG; omega) fun y τ3 x3 f3 g3 => ?_
    refine max_ints (ns := 0 :: stopsL x t) (listAt_list g3) (by simp) fun m mm hm => ?_
    have hx : ∀ j : Nat, stops x t j → (j : Int) ≤ m := fun j hj => hm _ (.tail _ (mem_stops.mpr ⟨j, rfl, hj⟩))
    ((try simp only [e_table, e_intT, e_int, e_bool, e_none, e_str, e_var, e_bin, e_neg, n_int, e_not, e_cmp, e_and, e_or, e_ite, e_sub, e_slice, e_list, e_tuple, e_call, e_ucall, e_meth, e_comp, t_not, t_and, t_or, t_cmp, t_var, t_sub, t_call, t_ucall, s_expr, s_assign, s_setitem, s_aug, s_augi, s_ifs, s_while, s_for, s_ret, s_brk, s_cont, ss_nil, c_range1, c_range2, c_range3, i_rng, i_ref, i_tup, i_enm, i_rev, bt_name, bt_tup, look_zero, look_succ, r_next, r_ret, sa_nil, sa_cons, es_nil, es_cons, o_none, o_some, ts_nil, ts_cons, c_lt, c_le, c_gt, c_ge, c_eq, c_ne, b_add, b_sub, b_mul, b_div, b_mod, b_pow, b_shr, a_add, a_mul, t_bool, t_int, List.map, List.cons_append, List.nil_append, List.getElem?_cons_succ, List.getElem?_cons_zero, List.set_cons_succ, List.set_cons_zero, frOf]); (repeat (first | with_reducible refine qx_next ?_ | with_reducible refine qx_cont ?_ | with_reducible refine qx_brk ?_ | with_reducible refine qx_nil ?_ | with_reducible refine q_nextI ?_ | with_reducible refine q_retI ?_ | with_reducible refine q_contI ?_ | with_reducible refine q_brkI ?_ | with_reducible refine ss_nilI ?_ | rw [q_next] | rw [q_ret] | rw [q_cont] | rw [q_brk] | rw [ss_nil])); (try simp only [r_next, r_ret]))
    obtain ⟨s, rfl, hs⟩ : ∃ s : Nat, m = s ∧ (s = 0 ∨ stops x t s) := by
      rcases List.mem_cons.mp mm with rfl | mm
      · exact ⟨0, rfl, .inl rfl⟩
      · obtain ⟨k, rfl, hk⟩ := mem_stops.mp mm
        exact ⟨k, rfl, .inr hk⟩
    exact q s _ hs (fun j hj hst => by have := hx j hst; omega) (((x1.trans hE).trans (Ext.upd _ hb)).trans x3)
theorem leftT_same {x : Th} {t : List Th} {s : Nat} (c : ((x :: t).getD s x).isI = x.isI) : leftT x t s = (t.take s ++ x :: t.drop s, none) := by unfold leftT; rw [if_pos c]
theorem leftT_other {x : Th} {t : List Th} {s : Nat} (c : ((x :: t).getD s x).isI ≠ x.isI) : leftT x t s = (t.take s ++ ((t.drop s).headD x) :: t.drop s, some (refuse ((x :: t).getD s x) x)) := by unfold leftT; rw [if_neg c]
theorem or_slices {g : Addr} {x : Th} {t u : List Th} {K : V → Hp → Prop} (hg : listAt σ g = some (u.map Th.v)) (ha : listAt σ a = some ((x :: t).map Th.v)) (hu : u.length ≤ 500) (hl : t.length ≤ 500) (q : ∀ c τ, Ext σ τ → listAt τ c = some ([u.headD x].map Th.v) → K (.ref c) τ) :
    opSlice (.ref g) .none (.int 1) .none (fun y σ => truth y (fun b σ => if b = true then K y σ else opSlice (.ref a) .none (.int 1) .none K σ) σ) σ := by
  refine slice_take (k := 1) hg (by rw [List.length_map]; exact big_of (by omega)) ?_
  rw [← List.map_take]
  refine newL_of (by rw [List.length_map, List.length_take]; exact big_of (by omega)) fun b2 τ3 x3 f3 g3 => ?_
  refine ⟨_, listAt_list g3, ?_⟩
  cases u with
  | nil =>
    simp only [List.take_nil, List.map_nil, List.isEmpty_nil, Bool.not_true, Bool.false_eq_true, if_false]
    refine slice_take (k := 1) (x3.listAt ha) (by rw [List.length_map]; exact big_of (by simp; omega)) ?_
    rw [← List.map_take]
    refine newL_of (by rw [List.length_map, List.length_take]; exact big_of (by omega)) fun b4 τ4 x4 f4 g4 => ?_
    exact q b4 τ4 (x3.trans x4) (listAt_list g4)
  | cons y u =>
    simp only [List.take_succ_cons, List.take_zero, List.map_cons, List.map_nil, List.isEmpty_cons, Bool.not_false, if_true]
    exact q b2 τ3 x3 (listAt_list g3)
theorem left4_v (h3 : ∀ args Q σ, wordsC args Q σ → Φ 3 args Q σ) {w : V} {x : Th} {t : List Th} {kd : Addr} {s : Nat} (e : listAt σ a = some ((x :: t).map Th.v)) (ek : listAt σ kd = some ((x :: t).map kv)) (hl : t.length ≤ 500) (hs : s ≤ t.length)
    (q : ∀ b σ', Ext σ σ' → σ b = none → σ' b = some (.list ((leftT x t s).1.map Th.v)) → Q (.tup [.ref b, .str (wordsOf (leftT x t s).2)]) σ') : vSs Φ ps_left4 (retV Q) [some (.ref a), some w, some (.ref kd), some (.int s), none] σ := by
  unfold ps_left4
  have bl : ∀ l : List Th, l.length ≤ 501 → (l.map Th.v).length ≤ BIG := fun l h => by rw [List.length_map]; unfold BIG; omega
  have lx : (x :: t).length ≤ 501 := by simp; omega
  ((first | with_reducible refine gx_of ?_ | with_reducible refine go_cons ?_); ((try simp only [e_table, e_intT, e_int, e_bool, e_none, e_str, e_var, e_bin, e_neg, n_int, e_not, e_cmp, e_and, e_or, e_ite, e_sub, e_slice, e_list, e_tuple, e_call, e_ucall, e_meth, e_comp, t_not, t_and, t_or, t_cmp, t_var, t_sub, t_call, t_ucall, s_expr, s_assign, s_setitem, s_aug, s_augi, s_ifs, s_while, s_for, s_ret, s_brk, s_cont, ss_nil, c_range1, c_range2, c_range3, i_rng, i_ref, i_tup, i_enm, i_rev, bt_name, bt_tup, look_zero, look_succ, r_next, r_ret, sa_nil, sa_cons, es_nil, es_cons, o_none, o_some, ts_nil, ts_cons, c_lt, c_le, c_gt, c_ge, c_eq, c_ne, b_add, b_sub, b_mul, b_div, b_mod, b_pow, b_shr, a_add, a_mul, t_bool, t_int, List.map, List.cons_append, List.nil_append, List.getElem?_cons_succ, List.getElem?_cons_zero, List.set_cons_succ, List.set_cons_zero, frOf]); (repeat (first | with_reducible refine qx_next ?_ | with_reducible refine qx_cont ?_ | with_reducible refine qx_brk ?_ | with_reducible refine qx_nil ?_ | with_reducible refine q_nextI ?_ | with_reducible refine q_retI ?_ | with_reducible refine q_contI ?_ | with_reducible refine q_brkI ?_ | with_reducible refine ss_nilI ?_ | rw [q_next] | rw [q_ret] | rw [q_cont] | rw [q_brk] | rw [ss_nil])); (try simp only [r_next, r_ret])))
  refine slice_drop (k := s + 1) e (bl _ lx) ?_
  rw [← List.map_drop, List.drop_succ_cons]
  refine newL_of (bl _ (by rw [List.length_drop]; omega)) fun g τ1 x1 f1 g1 => ?_
  have e1 := x1.listAt e
  have ek1 := x1.listAt ek
  ((try simp only [e_table, e_intT, e_int, e_bool, e_none, e_str, e_var, e_bin, e_neg, n_int, e_not, e_cmp, e_and, e_or, e_ite, e_sub, e_slice, e_list, e_tuple, e_call, e_ucall, e_meth, e_comp, t_not, t_and, t_or, t_cmp, t_var, t_sub, t_call, t_ucall, s_expr, s_assign, s_setitem, s_aug, s_augi, s_ifs, s_while, s_for, s_ret, s_brk, s_cont, ss_nil, c_range1, c_range2, c_range3, i_rng, i_ref, i_tup, i_enm, i_rev, bt_name, bt_tup, look_zero, look_succ, r_next, r_ret, sa_nil, sa_cons, es_nil, es_cons, o_none, o_some, ts_nil, ts_cons, c_lt, c_le, c_gt, c_ge, c_eq, c_ne, b_add, b_sub, b_mul, b_div, b_mod, b_pow, b_shr, a_add, a_mul, t_bool, t_int, List.map, List.cons_append, List.nil_append, List.getElem?_cons_succ, List.getElem?_cons_zero, List.set_cons_succ, List.set_cons_zero, frOf]); (repeat (first | with_reducible refine qx_next ?_ | with_reducible refine qx_cont ?_ | with_reducible refine qx_brk ?_ | with_reducible refine qx_nil ?_ | with_reducible refine q_nextI ?_ | with_reducible refine q_retI ?_ | with_reducible refine q_contI ?_ | with_reducible refine q_brkI ?_ | with_reducible refine ss_nilI ?_ | rw [q_next] | rw [q_ret] | rw [q_cont] | rw [q_brk] | rw [ss_nil])); (try simp only [r_next, r_ret]))
  ((first | with_reducible refine gx_of ?_ | with_reducible refine go_cons ?_); ((try simp only [e_table, e_intT, e_int, e_bool, e_none, e_str, e_var, e_bin, e_neg, n_int, e_not, e_cmp, e_and, e_or, e_ite, e_sub, e_slice, e_list, e_tuple, e_call, e_ucall, e_meth, e_comp, t_not, t_and, t_or, t_cmp, t_var, t_sub, t_call, t_ucall, s_expr, s_assign, s_setitem, s_aug, s_augi, s_ifs, s_while, s_for, s_ret, s_brk, s_cont, ss_nil, c_range1, c_range2, c_range3, i_rng, i_ref, i_tup, i_enm, i_rev, bt_name, bt_tup, look_zero, look_succ, r_next, r_ret, sa_nil, sa_cons, es_nil, es_cons, o_none, o_some, ts_nil, ts_cons, c_lt, c_le, c_gt, c_ge, c_eq, c_ne, b_add, b_sub, b_mul, b_div, b_mod, b_pow, b_shr, a_add, a_mul, t_bool, t_int, List.map, List.cons_append, List.nil_append, List.getElem?_cons_succ, List.getElem?_cons_zero, List.set_cons_succ, List.set_cons_zero, frOf]); (repeat (first | with_reducible refine qx_next ?_ | with_reducible refine qx_cont ?_ | with_reducible refine qx_brk ?_ | with_reducible refine qx_nil ?_ | with_reducible refine q_nextI ?_ | with_reducible refine q_retI ?_ | with_reducible refine q_contI ?_ | with_reducible refine q_brkI ?_ | with_reducible refine ss_nilI ?_ | rw [q_next] | rw [q_ret] | rw [q_cont] | rw [q_brk] | rw [ss_nil])); (try simp only [r_next, r_ret])))
  refine sub_kv x ek1 (show s < (x :: t).length by simp; omega) ?_
  refine sub_kv (k := 0) x ek1 (by simp) ?_
  refine ne_strs ?_
  rw [kind_ne]
  ((try simp only [e_table, e_intT, e_int, e_bool, e_none, e_str, e_var, e_bin, e_neg, n_int, e_not, e_cmp, e_and, e_or, e_ite, e_sub, e_slice, e_list, e_tuple, e_call, e_ucall, e_meth, e_comp, t_not, t_and, t_or, t_cmp, t_var, t_sub, t_call, t_ucall, s_expr, s_assign, s_setitem, s_aug, s_augi, s_ifs, s_while, s_for, s_ret, s_brk, s_cont, ss_nil, c_range1, c_range2, c_range3, i_rng, i_ref, i_tup, i_enm, i_rev, bt_name, bt_tup, look_zero, look_succ, r_next, r_ret, sa_nil, sa_cons, es_nil, es_cons, o_none, o_some, ts_nil, ts_cons, c_lt, c_le, c_gt, c_ge, c_eq, c_ne, b_add, b_sub, b_mul, b_div, b_mod, b_pow, b_shr, a_add, a_mul, t_bool, t_int, List.map, List.cons_append, List.nil_append, List.getElem?_cons_succ, List.getElem?_cons_zero, List.set_cons_succ, List.set_cons_zero, frOf]); (repeat (first | with_reducible refine qx_next ?_ | with_reducible refine qx_cont ?_ | with_reducible refine qx_brk ?_ | with_reducible refine qx_nil ?_ | with_reducible refine q_nextI ?_ | with_reducible refine q_retI ?_ | with_reducible refine q_contI ?_ | with_reducible refine q_brkI ?_ | with_reducible refine ss_nilI ?_ | rw [q_next] | rw [q_ret] | rw [q_cont] | rw [q_brk] | rw [ss_nil])); (try simp only [r_next, r_ret]))
  show if (((x :: t).getD s x).isI != x.isI) = true then _ else _
  cases hk : (((x :: t).getD s x).isI != x.isI) with
  | true =>
    simp only [if_true]
    have c : ((x :: t).getD s x).isI ≠ x.isI := by simpa using hk
    rw [leftT_other c] at q
    ((first | with_reducible refine gx_of ?_ | with_reducible refine go_cons ?_); ((try simp only [e_table, e_intT, e_int, e_bool, e_none, e_str, e_var, e_bin, e_neg, n_int, e_not, e_cmp, e_and, e_or, e_ite, e_sub, e_slice, e_list, e_tuple, e_call, e_ucall, e_meth, e_comp, t_not, t_and, t_or, t_cmp, t_var, t_sub, t_call, t_ucall, s_expr, s_assign, s_setitem, s_aug, s_augi, s_ifs, s_while, s_for, s_ret, s_brk, s_cont, ss_nil, c_range1, c_range2, c_range3, i_rng, i_ref, i_tup, i_enm, i_rev, bt_name, bt_tup, look_zero, look_succ, r_next, r_ret, sa_nil, sa_cons, es_nil, es_cons, o_none, o_some, ts_nil, ts_cons, c_lt, c_le, c_gt, c_ge, c_eq, c_ne, b_add, b_sub, b_mul, b_div, b_mod, b_pow, b_shr, a_add, a_mul, t_bool, t_int, List.map, List.cons_append, List.nil_append, List.getElem?_cons_succ, List.getElem?_cons_zero, List.set_cons_succ, List.set_cons_zero, frOf]); (repeat (first | with_reducible refine qx_next ?_ | with_reducible refine qx_cont ?_ | with_reducible refine qx_brk ?_ | with_reducible refine qx_nil ?_ | with_reducible refine q_nextI ?_ | with_reducible refine q_retI ?_ | with_reducible refine q_contI ?_ | with_reducible refine q_brkI ?_ | with_reducible refine ss_nilI ?_ | rw [q_next] | rw [q_ret] | rw [q_cont] | rw [q_brk] | rw [ss_nil])); (try simp only [r_next, r_ret])))
    refine slice_mid hs e1 ?_
    refine newL_of (bl _ (by rw [List.length_take]; omega)) fun b1 τ2 x2 f2 g2 => ?_
    have gt := x2.listAt (listAt_list g1)
    have e2 := x2.listAt e1
    refine or_slices gt e2 (by rw [List.length_drop]; omega) hl fun b2 τ3 x3 g3 => ?_
    refine add_lists (x3.listAt (listAt_list g2)) g3 ?_
    rw [← List.map_append]
    refine newL_of (bl _ (by rw [List.length_append, List.length_take]; simp; omega)) fun b5 τ5 x5 f5 g5 => ?_
    refine add_lists (listAt_list g5) (x5.listAt (x3.listAt gt)) ?_
    rw [← List.map_append]
    refine newL_of (bl _ (by rw [List.length_append, List.length_append, List.length_take, List.length_drop]; simp; omega)) fun b6 τ6 x6 f6 g6 => ?_
    have e6 := x6.listAt (x5.listAt (x3.listAt e2))
    refine sub_th x e6 (show s < (x :: t).length by simp; omega) ?_
    refine sub_th (k := 0) x e6 (by simp) ?_
    refine h3 _ _ _ ⟨_, _, rfl, ?_⟩
    have xx := x1.trans (x2.trans (x3.trans (x5.trans x6)))
    have ff := (x1.trans (x2.trans (x3.trans x5))).fresh f6
    refine ⟨big_of (n := 2) (by decide), ?_⟩
    ((try simp only [e_table, e_intT, e_int, e_bool, e_none, e_str, e_var, e_bin, e_neg, n_int, e_not, e_cmp, e_and, e_or, e_ite, e_sub, e_slice, e_list, e_tuple, e_call, e_ucall, e_meth, e_comp, t_not, t_and, t_or, t_cmp, t_var, t_sub, t_call, t_ucall, s_expr, s_assign, s_setitem, s_aug, s_augi, s_ifs, s_while, s_for, s_ret, s_brk, s_cont, ss_nil, c_range1, c_range2, c_range3, i_rng, i_ref, i_tup, i_enm, i_rev, bt_name, bt_tup, look_zero, look_succ, r_next, r_ret, sa_nil, sa_cons, es_nil, es_cons, o_none, o_some, ts_nil, ts_cons, c_lt, c_le, c_gt, c_ge, c_eq, c_ne, b_add, b_sub, b_mul, b_div, b_mod, b_pow, b_shr, a_add, a_mul, t_bool, t_int, List.map, List.cons_append, List.nil_append, List.getElem?_cons_succ, List.getElem?_cons_zero, List.set_cons_succ, List.set_cons_zero, frOf]); (repeat (first | with_reducible refine qx_next ?_ | with_reducible refine qx_cont ?_ | with_reducible refine qx_brk ?_ | with_reducible refine qx_nil ?_ | with_reducible refine q_nextI ?_ | with_reducible refine q_retI ?_ | with_reducible refine q_contI ?_ | with_reducible refine q_brkI ?_ | with_reducible refine ss_nilI ?_ | rw [q_next] | rw [q_ret] | rw [q_cont] | rw [q_brk] | rw [ss_nil])); (try simp only [r_next, r_ret]))
    refine q b6 _ xx ff ?_
    rw [g6, List.append_assoc]; rfl
  | false =>
    simp only [Bool.false_eq_true, if_false]
    have c : ((x :: t).getD s x).isI = x.isI := by simpa using hk
    rw [leftT_same c] at q
    ((try simp only [e_table, e_intT, e_int, e_bool, e_none, e_str, e_var, e_bin, e_neg, n_int, e_not, e_cmp, e_and, e_or, e_ite, e_sub, e_slice, e_list, e_tuple, e_call, e_ucall, e_meth, e_comp, t_not, t_and, t_or, t_cmp, t_var, t_sub, t_call, t_ucall, s_expr, s_assign, s_setitem, s_aug, s_augi, s_ifs, s_while, s_for, s_ret, s_brk, s_cont, ss_nil, c_range1, c_range2, c_range3, i_rng, i_ref, i_tup, i_enm, i_rev, bt_name, bt_tup, look_zero, look_succ, r_next, r_ret, sa_nil, sa_cons, es_nil, es_cons, o_none, o_some, ts_nil, ts_cons, c_lt, c_le, c_gt, c_ge, c_eq, c_ne, b_add, b_sub, b_mul, b_div, b_mod, b_pow, b_shr, a_add, a_mul, t_bool, t_int, List.map, List.cons_append, List.nil_append, List.getElem?_cons_succ, List.getElem?_cons_zero, List.set_cons_succ, List.set_cons_zero, frOf]); (repeat (first | with_reducible refine qx_next ?_ | with_reducible refine qx_cont ?_ | with_reducible refine qx_brk ?_ | with_reducible refine qx_nil ?_ | with_reducible refine q_nextI ?_ | with_reducible refine q_retI ?_ | with_reducible refine q_contI ?_ | with_reducible refine q_brkI ?_ | with_reducible refine ss_nilI ?_ | rw [q_next] | rw [q_ret] | rw [q_cont] | rw [q_brk] | rw [ss_nil])); (try simp only [r_next, r_ret]))
    ((first | with_reducible refine gx_of ?_ | with_reducible refine go_cons ?_); ((try simp only [e_table, e_intT, e_int, e_bool, e_none, e_str, e_var, e_bin, e_neg, n_int, e_not, e_cmp, e_and, e_or, e_ite, e_sub, e_slice, e_list, e_tuple, e_call, e_ucall, e_meth, e_comp, t_not, t_and, t_or, t_cmp, t_var, t_sub, t_call, t_ucall, s_expr, s_assign, s_setitem, s_aug, s_augi, s_ifs, s_while, s_for, s_ret, s_brk, s_cont, ss_nil, c_range1, c_range2, c_range3, i_rng, i_ref, i_tup, i_enm, i_rev, bt_name, bt_tup, look_zero, look_succ, r_next, r_ret, sa_nil, sa_cons, es_nil, es_cons, o_none, o_some, ts_nil, ts_cons, c_lt, c_le, c_gt, c_ge, c_eq, c_ne, b_add, b_sub, b_mul, b_div, b_mod, b_pow, b_shr, a_add, a_mul, t_bool, t_int, List.map, List.cons_append, List.nil_append, List.getElem?_cons_succ, List.getElem?_cons_zero, List.set_cons_succ, List.set_cons_zero, frOf]); (repeat (first | with_reducible refine qx_next ?_ | with_reducible refine qx_cont ?_ | with_reducible refine qx_brk ?_ | with_reducible refine qx_nil ?_ | with_reducible refine q_nextI ?_ | with_reducible refine q_retI ?_ | with_reducible refine q_contI ?_ | with_reducible refine q_brkI ?_ | with_reducible refine ss_nilI ?_ | rw [q_next] | rw [q_ret] | rw [q_cont] | rw [q_brk] | rw [ss_nil])); (try simp only [r_next, r_ret])))
    refine slice_mid hs e1 ?_
    refine newL_of (bl _ (by rw [List.length_take]; omega)) fun b1 τ2 x2 f2 g2 => ?_
    have gt := x2.listAt (listAt_list g1)
    have e2 := x2.listAt e1
    refine slice_take (k := 1) e2 (bl _ lx) ?_
    rw [← List.map_take]
    refine newL_of (bl _ (by rw [List.length_take]; omega)) fun b2 τ3 x3 f3 g3 => ?_
    refine add_lists (x3.listAt (listAt_list g2)) (listAt_list g3) ?_
    rw [← List.map_append]
    refine newL_of (bl _ (by rw [List.length_append, List.length_take]; simp; omega)) fun b5 τ5 x5 f5 g5 => ?_
    refine add_lists (listAt_list g5) (x5.listAt (x3.listAt gt)) ?_
    rw [← List.map_append]
    refine newL_of (bl _ (by rw [List.length_append, List.length_append, List.length_take, List.length_drop]; simp; omega)) fun b6 τ6 x6 f6 g6 => ?_
    have xx := x1.trans (x2.trans (x3.trans (x5.trans x6)))
    have ff := (x1.trans (x2.trans (x3.trans x5))).fresh f6
    refine ⟨big_of (n := 2) (by decide), ?_⟩
    ((try simp only [e_table, e_intT, e_int, e_bool, e_none, e_str, e_var, e_bin, e_neg, n_int, e_not, e_cmp, e_and, e_or, e_ite, e_sub, e_slice, e_list, e_tuple, e_call, e_ucall, e_meth, e_comp, t_not, t_and, t_or, t_cmp, t_var, t_sub, t_call, t_ucall, s_expr, s_assign, s_setitem, s_aug, s_augi, s_ifs, s_while, s_for, s_ret, s_brk, s_cont, ss_nil, c_range1, c_range2, c_range3, i_rng, i_ref, i_tup, i_enm, i_rev, bt_name, bt_tup, look_zero, look_succ, r_next, r_ret, sa_nil, sa_cons, es_nil, es_cons, o_none, o_some, ts_nil, ts_cons, c_lt, c_le, c_gt, c_ge, c_eq, c_ne, b_add, b_sub, b_mul, b_div, b_mod, b_pow, b_shr, a_add, a_mul, t_bool, t_int, List.map, List.cons_append, List.nil_append, List.getElem?_cons_succ, List.getElem?_cons_zero, List.set_cons_succ, List.set_cons_zero, frOf]); (repeat (first | with_reducible refine qx_next ?_ | with_reducible refine qx_cont ?_ | with_reducible refine qx_brk ?_ | with_reducible refine qx_nil ?_ | with_reducible refine q_nextI ?_ | with_reducible refine q_retI ?_ | with_reducible refine q_contI ?_ | with_reducible refine q_brkI ?_ | with_reducible refine ss_nilI ?_ | rw [q_next] | rw [q_ret] | rw [q_cont] | rw [q_brk] | rw [ss_nil])); (try simp only [r_next, r_ret]))
    refine q b6 _ xx ff ?_
    rw [g6, List.append_assoc]; rfl
theorem left_v (Φ : Fns) (h2 : ∀ args Q σ, kindC args Q σ → Φ 2 args Q σ) (h3 : ∀ args Q σ, wordsC args Q σ → Φ 3 args Q σ) (args : List V) (Q : V → Hp → Prop) (σ : Hp) (F : Frm) (h : leftC args Q σ) (hF : F = args.map some ++ [none, none, none]) : vSs Φ ps_left (retV Q) F σ := by
  obtain ⟨a, r, w, rfl, e, hl, hr, hw, q⟩ := h
  subst hF
  unfold ps_left
  refine go_cons ?_
  unfold ps_left1
  ((try simp only [e_table, e_intT, e_int, e_bool, e_none, e_str, e_var, e_bin, e_neg, n_int, e_not, e_cmp, e_and, e_or, e_ite, e_sub, e_slice, e_list, e_tuple, e_call, e_ucall, e_meth, e_comp, t_not, t_and, t_or, t_cmp, t_var, t_sub, t_call, t_ucall, s_expr, s_assign, s_setitem, s_aug, s_augi, s_ifs, s_while, s_for, s_ret, s_brk, s_cont, ss_nil, c_range1, c_range2, c_range3, i_rng, i_ref, i_tup, i_enm, i_rev, bt_name, bt_tup, look_zero, look_succ, r_next, r_ret, sa_nil, sa_cons, es_nil, es_cons, o_none, o_some, ts_nil, ts_cons, c_lt, c_le, c_gt, c_ge, c_eq, c_ne, b_add, b_sub, b_mul, b_div, b_mod, b_pow, b_shr, a_add, a_mul, t_bool, t_int, List.map, List.cons_append, List.nil_append, List.getElem?_cons_succ, List.getElem?_cons_zero, List.set_cons_succ, List.set_cons_zero, frOf]); (repeat (first | with_reducible refine qx_next ?_ | with_reducible refine qx_cont ?_ | with_reducible refine qx_brk ?_ | with_reducible refine qx_nil ?_ | with_reducible refine q_nextI ?_ | with_reducible refine q_retI ?_ | with_reducible refine q_contI ?_ | with_reducible refine q_brkI ?_ | with_reducible refine ss_nilI ?_ | rw [q_next] | rw [q_ret] | rw [q_cont] | rw [q_brk] | rw [ss_nil])); (try simp only [r_next, r_ret]))
  refine ne_strs ?_
  ((try simp only [e_table, e_intT, e_int, e_bool, e_none, e_str, e_var, e_bin, e_neg, n_int, e_not, e_cmp, e_and, e_or, e_ite, e_sub, e_slice, e_list, e_tuple, e_call, e_ucall, e_meth, e_comp, t_not, t_and, t_or, t_cmp, t_var, t_sub, t_call, t_ucall, s_expr, s_assign, s_setitem, s_aug, s_augi, s_ifs, s_while, s_for, s_ret, s_brk, s_cont, ss_nil, c_range1, c_range2, c_range3, i_rng, i_ref, i_tup, i_enm, i_rev, bt_name, bt_tup, look_zero, look_succ, r_next, r_ret, sa_nil, sa_cons, es_nil, es_cons, o_none, o_some, ts_nil, ts_cons, c_lt, c_le, c_gt, c_ge, c_eq, c_ne, b_add, b_sub, b_mul, b_div, b_mod, b_pow, b_shr, a_add, a_mul, t_bool, t_int, List.map, List.cons_append, List.nil_append, List.getElem?_cons_succ, List.getElem?_cons_zero, List.set_cons_succ, List.set_cons_zero, frOf]); (repeat (first | with_reducible refine qx_next ?_ | with_reducible refine qx_cont ?_ | with_reducible refine qx_brk ?_ | with_reducible refine qx_nil ?_ | with_reducible refine q_nextI ?_ | with_reducible refine q_retI ?_ | with_reducible refine q_contI ?_ | with_reducible refine q_brkI ?_ | with_reducible refine ss_nilI ?_ | rw [q_next] | rw [q_ret] | rw [q_cont] | rw [q_brk] | rw [ss_nil])); (try simp only [r_next, r_ret]))
  cases w with
  | some w =>
    have hne : (wordsOf (some w) != Str.ofString "") = true := by
      rw [bne_iff_ne]; exact hw w rfl
    rw [hne]
    simp only [if_true]
    obtain ⟨r, y, rfl⟩ : ∃ r0 y, r = r0 ++ [y] := ⟨_, _, (List.dropLast_concat_getLast hr).symm⟩
    ((first | with_reducible refine gx_of ?_ | with_reducible refine go_cons ?_); ((try simp only [e_table, e_intT, e_int, e_bool, e_none, e_str, e_var, e_bin, e_neg, n_int, e_not, e_cmp, e_and, e_or, e_ite, e_sub, e_slice, e_list, e_tuple, e_call, e_ucall, e_meth, e_comp, t_not, t_and, t_or, t_cmp, t_var, t_sub, t_call, t_ucall, s_expr, s_assign, s_setitem, s_aug, s_augi, s_ifs, s_while, s_for, s_ret, s_brk, s_cont, ss_nil, c_range1, c_range2, c_range3, i_rng, i_ref, i_tup, i_enm, i_rev, bt_name, bt_tup, look_zero, look_succ, r_next, r_ret, sa_nil, sa_cons, es_nil, es_cons, o_none, o_some, ts_nil, ts_cons, c_lt, c_le, c_gt, c_ge, c_eq, c_ne, b_add, b_sub, b_mul, b_div, b_mod, b_pow, b_shr, a_add, a_mul, t_bool, t_int, List.map, List.cons_append, List.nil_append, List.getElem?_cons_succ, List.getElem?_cons_zero, List.set_cons_succ, List.set_cons_zero, frOf]); (repeat (first | with_reducible refine qx_next ?_ | with_reducible refine qx_cont ?_ | with_reducible refine qx_brk ?_ | with_reducible refine qx_nil ?_ | with_reducible refine q_nextI ?_ | with_reducible refine q_retI ?_ | with_reducible refine q_contI ?_ | with_reducible refine q_brkI ?_ | with_reducible refine ss_nilI ?_ | rw [q_next] | rw [q_ret] | rw [q_cont] | rw [q_brk] | rw [ss_nil])); (try simp only [r_next, r_ret])))
    have bl : ∀ l : List Th, l.length ≤ 501 → (l.map Th.v).length ≤ BIG := fun l h => by rw [List.length_map]; unfold BIG; omega
    refine slice_drop (k := 1) e (bl _ (by omega)) ?_
    rw [← List.map_drop, List.drop_one]
    refine newL_of (bl _ (by rw [List.length_tail]; omega)) fun b1 τ1 x1 f1 g1 => ?_
    refine slice_last (x1.listAt e) ?_
    refine newL_of (bl _ (by simp)) fun b2 τ2 x2 f2 g2 => ?_
    refine add_lists (x2.listAt (listAt_list g1)) (listAt_list g2) ?_
    rw [← List.map_append]
    refine newL_of (bl _ (by rw [List.length_append, List.length_tail]; simp at hl ⊢; omega)) fun b3 τ3 x3 f3 g3 => ?_
    refine ⟨big_of (n := 2) (by decide), ?_⟩
    ((try simp only [e_table, e_intT, e_int, e_bool, e_none, e_str, e_var, e_bin, e_neg, n_int, e_not, e_cmp, e_and, e_or, e_ite, e_sub, e_slice, e_list, e_tuple, e_call, e_ucall, e_meth, e_comp, t_not, t_and, t_or, t_cmp, t_var, t_sub, t_call, t_ucall, s_expr, s_assign, s_setitem, s_aug, s_augi, s_ifs, s_while, s_for, s_ret, s_brk, s_cont, ss_nil, c_range1, c_range2, c_range3, i_rng, i_ref, i_tup, i_enm, i_rev, bt_name, bt_tup, look_zero, look_succ, r_next, r_ret, sa_nil, sa_cons, es_nil, es_cons, o_none, o_some, ts_nil, ts_cons, c_lt, c_le, c_gt, c_ge, c_eq, c_ne, b_add, b_sub, b_mul, b_div, b_mod, b_pow, b_shr, a_add, a_mul, t_bool, t_int, List.map, List.cons_append, List.nil_append, List.getElem?_cons_succ, List.getElem?_cons_zero, List.set_cons_succ, List.set_cons_zero, frOf]); (repeat (first | with_reducible refine qx_next ?_ | with_reducible refine qx_cont ?_ | with_reducible refine qx_brk ?_ | with_reducible refine qx_nil ?_ | with_reducible refine q_nextI ?_ | with_reducible refine q_retI ?_ | with_reducible refine q_contI ?_ | with_reducible refine q_brkI ?_ | with_reducible refine ss_nilI ?_ | rw [q_next] | rw [q_ret] | rw [q_cont] | rw [q_brk] | rw [ss_nil])); (try simp only [r_next, r_ret]))
    exact q _ (some w) b3 _ (.no r y w) ((x1.trans x2).trans x3) ((x1.trans x2).fresh f3) g3
  | none =>
    have hne : (wordsOf none != Str.ofString "") = false := rfl
    rw [hne]
    simp only [Bool.false_eq_true, if_false]
    ((try simp only [e_table, e_intT, e_int, e_bool, e_none, e_str, e_var, e_bin, e_neg, n_int, e_not, e_cmp, e_and, e_or, e_ite, e_sub, e_slice, e_list, e_tuple, e_call, e_ucall, e_meth, e_comp, t_not, t_and, t_or, t_cmp, t_var, t_sub, t_call, t_ucall, s_expr, s_assign, s_setitem, s_aug, s_augi, s_ifs, s_while, s_for, s_ret, s_brk, s_cont, ss_nil, c_range1, c_range2, c_range3, i_rng, i_ref, i_tup, i_enm, i_rev, bt_name, bt_tup, look_zero, look_succ, r_next, r_ret, sa_nil, sa_cons, es_nil, es_cons, o_none, o_some, ts_nil, ts_cons, c_lt, c_le, c_gt, c_ge, c_eq, c_ne, b_add, b_sub, b_mul, b_div, b_mod, b_pow, b_shr, a_add, a_mul, t_bool, t_int, List.map, List.cons_append, List.nil_append, List.getElem?_cons_succ, List.getElem?_cons_zero, List.set_cons_succ, List.set_cons_zero, frOf]); (repeat (first | with_reducible refine qx_next ?_ | with_reducible refine qx_cont ?_ | with_reducible refine qx_brk ?_ | with_reducible refine qx_nil ?_ | with_reducible refine q_nextI ?_ | with_reducible refine q_retI ?_ | with_reducible refine q_contI ?_ | with_reducible refine q_brkI ?_ | with_reducible refine ss_nilI ?_ | rw [q_next] | rw [q_ret] | rw [q_cont] | rw [q_brk] | rw [ss_nil])); (try simp only [r_next, r_ret]))
    refine go_cons (left2_v h2 e hl fun kd τ1 x1 f1 g1 => q_nextI (go_cons ?_))
    obtain ⟨x, t, rfl⟩ : ∃ x t, r = x :: t := by cases r with | nil => exact absurd rfl hr | cons x t => exact ⟨x, t, rfl⟩
    have hlt : t.length ≤ 500 := by simp at hl; omega
    refine left3_v (x1.listAt e) g1 hlt fun s τ2 hs hj x2 => q_nextI ?_
    have hst : s ≤ t.length := by rcases hs with h | h; omega; exact h.2.1
    refine left4_v h3 (x2.listAt (x1.listAt e)) (x2.listAt g1) hlt hst fun b τ3 x3 f3 g3 => ?_
    exact q _ _ b τ3 (.go x t s hs hj) ((x1.trans x2).trans x3) ((x1.trans x2).fresh f3) g3
end

/-! Vc02c -/
/-! the walk of _law_ways -/
theorem lex_total : ∀ xs ys : List Nat, xs ≠ ys → ¬ xs < ys → ys < xs
  | [], [], h, _ => absurd rfl h
  | [], y :: ys, _, h => absurd (List.nil_lt_cons y ys) h
  | x :: xs, [], _, _ => List.nil_lt_cons x xs
  | x :: xs, y :: ys, h, g => by
    rw [List.cons_lt_cons_iff] at g ⊢
    by_cases e : x = y
    · subst e
      refine .inr ⟨rfl, lex_total xs ys (fun q => h (by rw [q])) fun q => g (.inr ⟨rfl, q⟩)⟩
    · exact .inl (by have := fun q => g (.inl q); omega)
theorem lex_irrefl : ∀ xs : List Nat, ¬ xs < xs
  | [] => by simp
  | x :: xs => by rw [List.cons_lt_cons_iff]; rintro (h | ⟨_, h⟩); omega; exact lex_irrefl xs h
theorem lex_asym : ∀ xs ys : List Nat, xs < ys → ¬ ys < xs
  | [], [], h => by simp at h
  | [], y :: ys, _ => by simp
  | x :: xs, [], h => by simp at h
  | x :: xs, y :: ys, h => by
    rw [List.cons_lt_cons_iff] at h ⊢
    rintro (g | ⟨g, g2⟩)
    · rcases h with h | ⟨h, h2⟩ <;> omega
    · rcases h with h | ⟨h, h2⟩
      · omega
      · exact lex_asym xs ys h2 g2
/-- of one kind: not less is alike or greater -/
theorem th_not_lt {x y : Th} (k : x.isI = y.isI) : x.lt y = false ↔ (x = y ∨ y.lt x = true) := by
  cases x with
  | i x => cases y with
    | i y => simp only [Th.lt, decide_eq_false_iff_not, decide_eq_true_eq, th_i]; omega
    | s y => cases k
  | s x => cases y with
    | i y => cases k
    | s y =>
      simp only [Th.lt, decide_eq_false_iff_not, decide_eq_true_eq, th_s]
      constructor
      · intro h
        by_cases e : x = y
        · exact .inl e
        · refine .inr (lex_total _ _ (fun q => e ?_) h)
          obtain ⟨⟨x⟩⟩ := x; obtain ⟨⟨y⟩⟩ := y
          simp at q; rw [q]
      · rintro (rfl | h)
        · exact lex_irrefl _
        · exact lex_asym _ _ h
noncomputable def natV (k : Nat) : V := .int k
structure WayAt (xs : List Th) (τ : Hp) (m : Int → Option V) (p : Nat) : Prop where
  go : ∃ c, m p = some (.tup [.ref c, .str (wordsOf (wayP xs p).2)]) ∧ listAt τ c = some ((wayP xs p).1.map natV)
inductive waysC (args : List V) (Q : V → Hp → Prop) (σ : Hp) : Prop
  | mk (a : Addr) (xs : List Th) (h1 : args = [.ref a]) (h2 : listAt σ a = some (xs.map Th.v)) (h3 : xs.length ≤ 500)
    (q : ∀ d σ' m n, Ext σ σ' → σ d = none → σ' d = some (.imap m n) → (∀ p, p < xs.length → WayAt xs σ' m p) → Q (.ref d) σ') : waysC args Q σ
noncomputable def ps_waysB : List PS := [.assign (.name 3) (.comp [none, none, some 0] (.var 1) (.name 1) .plain (.tuple [(.bin .Add (.bin .Mult (.int 2) (.var 2)) (.int 1)), (.bin .Add (.bin .Mult (.int 2) (.var 2)) (.int 2))]) [(.cmp .Lt (.var 1) (.call .len [(.var 2)]))]), .ifs (.cmp .Eq (.var 3) (.list [])) [.setitem (.var 1) (.var 2) (.tuple [(.list [(.var 2)]), (.str (Str.ofString ""))])] [.ifs (.cmp .NotEq (.ucall 2 [(.sub (.var 0) (.sub (.var 3) (.int 0)))]) (.ucall 2 [(.sub (.var 0) (.sub (.var 3) (.neg (.int 1))))])) [.setitem (.var 1) (.var 2) (.tuple [(.list [(.var 2)]), (.ucall 3 [(.sub (.var 0) (.sub (.var 3) (.int 1))), (.sub (.var 0) (.sub (.var 3) (.int 0)))])])] [.assign (.tup [4, 5]) (.sub (.var 1) (.sub (.call .max [(.comp [none, none, some 0] (.tuple [(.sub (.var 2) (.var 1)), (.var 1)]) (.name 1) .plain (.var 3) [])]) (.int 1))), .setitem (.var 1) (.var 2) (.tuple [(.bin .Add (.list [(.var 2)]) (.var 4)), (.var 5)])]]]
noncomputable def ps_ways : List PS := [.assign (.name 1) .table, .for (.name 2) .plain (.call .range [(.bin .Sub (.call .len [(.var 0)]) (.int 1)), (.neg (.int 1)), (.neg (.int 1))]) ps_waysB, .ret (.var 1)]
/-- the places below -/
noncomputable def belowL (n p : Nat) : List Nat := [2 * p + 1, 2 * p + 2].filter fun c => decide (c < n)
theorem below_nil {n p : Nat} (h : n ≤ 2 * p + 1) : belowL n p = [] := by
  unfold belowL; rw [List.filter_cons, List.filter_cons, decide_eq_false (by omega), decide_eq_false (by omega)]; rfl
theorem below_one {n p : Nat} (h : n = 2 * p + 2) : belowL n p = [2 * p + 1] := by
  unfold belowL; rw [List.filter_cons, List.filter_cons, decide_eq_true (by omega), decide_eq_false (by omega)]; rfl
theorem below_two {n p : Nat} (h : 2 * p + 2 < n) : belowL n p = [2 * p + 1, 2 * p + 2] := by
  unfold belowL; rw [List.filter_cons, List.filter_cons, decide_eq_true (by omega), decide_eq_true (by omega)]; rfl
section
variable {Φ : Fns} {Q : V → Hp → Prop} {σ : Hp} {a d : Addr} {xs : List Th} {p : Nat}
noncomputable def gLt (n : Nat) (v : V) : Option V := match v with
  | .int c => if c < (n : Int) then some v else none
  | _ => none
theorem fm_below (n p : Nat) : [natV (2 * p + 1), natV (2 * p + 2)].filterMap (gLt n) = (belowL n p).map natV := by
  unfold belowL gLt natV
  simp only [List.filterMap_cons, List.filterMap_nil, List.filter_cons, List.filter_nil]
  by_cases h1 : 2 * p + 1 < n <;> by_cases h2 : 2 * p + 2 < n
  · rw [if_pos (by omega), if_pos (by omega), if_pos (by simpa using h1), if_pos (by simpa using h2)]; rfl
  · rw [if_pos (by omega), if_neg (by omega), if_pos (by simpa using h1), if_neg (by simpa using h2)]; rfl
  · omega
  · rw [if_neg (by omega), if_neg (by omega), if_neg (by simpa using h1), if_neg (by simpa using h2)]; rfl
theorem Ext.again {σ τ : Hp} {b : Addr} (o : AObj) (h : Ext σ τ) (hb : σ b = none) : Ext σ (Mine.upd τ b o) := fun a p e => by
  by_cases q : a = b
  · subst q; rw [hb] at e; cases e
  · rw [upd_ne _ _ q]; exact h a p e
theorem off_map {m : Int → Option V} {n : Nat} {c : Addr} {ys : List V} (hd : σ d = some (.imap m n)) (hc : listAt σ c = some ys) : c ≠ d := by
  rintro rfl; unfold listAt at hc; rw [hd] at hc; cases hc
theorem WayAt.ext {τ τ' : Hp} {m : Int → Option V} (h : WayAt xs τ m p) (E : Ext τ τ') : WayAt xs τ' m p := by
  obtain ⟨c, e1, e2⟩ := h
  exact ⟨c, e1, E.listAt e2⟩
theorem put_way {m : Int → Option V} {n : Nat} {c : Addr} {P : Hp → Prop} (hd : σ d = some (.imap m n)) (hn : n < 1000) (hw : ∀ q, p < q → q < xs.length → WayAt xs σ m q) (hc : listAt σ c = some ((wayP xs p).1.map natV))
    (k : ∀ m', (∀ q, p ≤ q → q < xs.length → WayAt xs (upd σ d (.imap m' (n + 1))) m' q) → P (upd σ d (.imap m' (n + 1)))) : opSet (.ref d) (.int p) (.tup [.ref c, .str (wordsOf (wayP xs p).2)]) P σ := by
  refine map_set hd (by unfold BIG; omega) (k _ fun q h1 h2 => ?_)
  by_cases e : q = p
  · subst e
    exact ⟨c, if_pos rfl, listAt_off hc (off_map hd hc)⟩
  · obtain ⟨c', e1, e2⟩ := hw q (by omega) h2
    exact ⟨c', (if_neg (by omega)).trans e1, listAt_off e2 (off_map hd e2)⟩
/-- the greater one of the two below, as the law draws it -/
noncomputable def gPair (xs : List Th) (v : V) : Option V := match v with
  | .int c => some (pairV (xs.getD c.toNat (.i 0), c.toNat))
  | _ => none
theorem fm_pair (xs : List Th) (ks : List Nat) : (ks.map natV).filterMap (gPair xs) = (ks.map fun k => (xs.getD k (.i 0), k)).map pairV := by
  rw [List.filterMap_map, List.map_map]
  exact fm_some _ fun k _ => rfl
theorem max_kid (e : listAt σ a = some (((belowL xs.length p).map fun k => (xs.getD k (.i 0), k)).map pairV)) (hc : 2 * p + 1 < xs.length) (na : ¬ apart xs p) (q : Q (pairV (xs.getD (kidX xs p) (.i 0), kidX xs p)) σ) : opCall .max [.ref a] Q σ := by
  by_cases h2 : 2 * p + 2 < xs.length
  · have ek : (xs.getD (2 * p + 2) (.i 0)).isI = (xs.getD (2 * p + 1) (.i 0)).isI := by
      rcases Decidable.em ((xs.getD (2 * p + 2) (.i 0)).isI = (xs.getD (2 * p + 1) (.i 0)).isI) with h | h
      · exact h
      · exact absurd ⟨h2, h⟩ na
    rw [below_two h2] at e
    have key : kidX xs p = if gtP (xs.getD (2 * p + 2) (.i 0), 2 * p + 2) (xs.getD (2 * p + 1) (.i 0), 2 * p + 1) = true then 2 * p + 2 else 2 * p + 1 := by
      unfold kidX gtP
      dsimp only
      by_cases c : xs.getD (2 * p + 2) (.i 0) = xs.getD (2 * p + 1) (.i 0)
      · rw [if_pos c, if_pos ⟨h2, (th_not_lt ek).mpr (.inl c)⟩, decide_eq_true (by omega), if_pos rfl]
      · rw [if_neg c]
        by_cases l : (xs.getD (2 * p + 1) (.i 0)).lt (xs.getD (2 * p + 2) (.i 0)) = true
        · rw [if_pos ⟨h2, (th_not_lt ek).mpr (.inr l)⟩, if_pos l]
        · rw [if_neg l, if_neg]
          rintro ⟨_, h⟩
          rcases (th_not_lt ek).mp h with h | h
          · exact c h
          · exact l h
    refine max_pairs e (by simp) (fun u hu v hv => ?_) (x := (xs.getD (kidX xs p) (.i 0), kidX xs p)) ?_ q
    · simp only [List.map_cons, List.map_nil, List.mem_cons, List.not_mem_nil, or_false] at hu hv
      rcases hu with rfl | rfl <;> rcases hv with rfl | rfl <;> first | rfl | exact ek | exact ek.symm
    · rw [key]
      show [(xs.getD (2 * p + 1) (.i 0), 2 * p + 1), (xs.getD (2 * p + 2) (.i 0), 2 * p + 2)][if gtP (xs.getD (2 * p + 2) (.i 0), 2 * p + 2) (xs.getD (2 * p + 1) (.i 0), 2 * p + 1) = true then 1 else 0]? = _
      split <;> rfl
  · rw [below_one (by omega)] at e
    have key : kidX xs p = 2 * p + 1 := by unfold kidX; rw [if_neg fun h => h2 h.1]
    refine max_pairs e (by simp) (fun u hu v hv => ?_) (x := (xs.getD (kidX xs p) (.i 0), kidX xs p)) ?_ q
    · simp only [List.map_cons, List.map_nil, List.mem_singleton] at hu hv
      rw [hu, hv]
    · rw [key]; rfl
noncomputable def ps_waysB1 : PS := .assign (.name 3) (.comp [none, none, some 0] (.var 1) (.name 1) .plain (.tuple [(.bin .Add (.bin .Mult (.int 2) (.var 2)) (.int 1)), (.bin .Add (.bin .Mult (.int 2) (.var 2)) (.int 2))]) [(.cmp .Lt (.var 1) (.call .len [(.var 2)]))])
theorem waysB1_v {R : Fl → Frm → Hp → Prop} {e3 e4 e5 : Option V} (e : listAt σ a = some (xs.map Th.v)) (hx : xs.length ≤ 500) (hp : p < xs.length)
    (q : ∀ b σ', Ext σ σ' → listAt σ' b = some ((belowL xs.length p).map natV) → R .next [some (.ref a), some (.ref d), some (.int p), some (.ref b), e4, e5] σ') : vS Φ ps_waysB1 R [some (.ref a), some (.ref d), some (.int p), e3, e4, e5] σ := by
  unfold ps_waysB1
  ((try simp only [e_table, e_intT, e_int, e_bool, e_none, e_str, e_var, e_bin, e_neg, n_int, e_not, e_cmp, e_and, e_or, e_ite, e_sub, e_slice, e_list, e_tuple, e_call, e_ucall, e_meth, e_comp, t_not, t_and, t_or, t_cmp, t_var, t_sub, t_call, t_ucall, s_expr, s_assign, s_setitem, s_aug, s_augi, s_ifs, s_while, s_for, s_ret, s_brk, s_cont, ss_nil, c_range1, c_range2, c_range3, i_rng, i_ref, i_tup, i_enm, i_rev, bt_name, bt_tup, look_zero, look_succ, r_next, r_ret, sa_nil, sa_cons, es_nil, es_cons, o_none, o_some, ts_nil, ts_cons, c_lt, c_le, c_gt, c_ge, c_eq, c_ne, b_add, b_sub, b_mul, b_div, b_mod, b_pow, b_shr, a_add, a_mul, t_bool, t_int, List.map, List.cons_append, List.nil_append, List.getElem?_cons_succ, List.getElem?_cons_zero, List.set_cons_succ, List.set_cons_zero, frOf]); (repeat (first | with_reducible refine qx_next ?_ | with_reducible refine qx_cont ?_ | with_reducible refine qx_brk ?_ | with_reducible refine qx_nil ?_ | with_reducible refine q_nextI ?_ | with_reducible refine q_retI ?_ | with_reducible refine q_contI ?_ | with_reducible refine q_brkI ?_ | with_reducible refine ss_nilI ?_ | rw [q_next] | rw [q_ret] | rw [q_cont] | rw [q_brk] | rw [ss_nil])); (try simp only [r_next, r_ret]))
  refine ⟨mul_l, mul_l, big_of (n := 2) (by decide), ?_⟩
  ((try simp only [e_table, e_intT, e_int, e_bool, e_none, e_str, e_var, e_bin, e_neg, n_int, e_not, e_cmp, e_and, e_or, e_ite, e_sub, e_slice, e_list, e_tuple, e_call, e_ucall, e_meth, e_comp, t_not, t_and, t_or, t_cmp, t_var, t_sub, t_call, t_ucall, s_expr, s_assign, s_setitem, s_aug, s_augi, s_ifs, s_while, s_for, s_ret, s_brk, s_cont, ss_nil, c_range1, c_range2, c_range3, i_rng, i_ref, i_tup, i_enm, i_rev, bt_name, bt_tup, look_zero, look_succ, r_next, r_ret, sa_nil, sa_cons, es_nil, es_cons, o_none, o_some, ts_nil, ts_cons, c_lt, c_le, c_gt, c_ge, c_eq, c_ne, b_add, b_sub, b_mul, b_div, b_mod, b_pow, b_shr, a_add, a_mul, t_bool, t_int, List.map, List.cons_append, List.nil_append, List.getElem?_cons_succ, List.getElem?_cons_zero, List.set_cons_succ, List.set_cons_zero, frOf]); (repeat (first | with_reducible refine qx_next ?_ | with_reducible refine qx_cont ?_ | with_reducible refine qx_brk ?_ | with_reducible refine qx_nil ?_ | with_reducible refine q_nextI ?_ | with_reducible refine q_retI ?_ | with_reducible refine q_contI ?_ | with_reducible refine q_brkI ?_ | with_reducible refine ss_nilI ?_ | rw [q_next] | rw [q_ret] | rw [q_cont] | rw [q_brk] | rw [ss_nil])); (try simp only [r_next, r_ret]))
  refine comp_rule (xs := [natV (2 * p + 1), natV (2 * p + 2)]) (gLt xs.length) (big_of (n := 2) (by decide)) (yields_vals _ _) ?_ ?_
  · intro x mx τ hE K N hK hN
    obtain ⟨c, rfl⟩ : ∃ c : Nat, x = natV c := by simp at mx; rcases mx with rfl | rfl <;> exact ⟨_, rfl⟩
    unfold natV at *
    ((try simp only [e_table, e_intT, e_int, e_bool, e_none, e_str, e_var, e_bin, e_neg, n_int, e_not, e_cmp, e_and, e_or, e_ite, e_sub, e_slice, e_list, e_tuple, e_call, e_ucall, e_meth, e_comp, t_not, t_and, t_or, t_cmp, t_var, t_sub, t_call, t_ucall, s_expr, s_assign, s_setitem, s_aug, s_augi, s_ifs, s_while, s_for, s_ret, s_brk, s_cont, ss_nil, c_range1, c_range2, c_range3, i_rng, i_ref, i_tup, i_enm, i_rev, bt_name, bt_tup, look_zero, look_succ, r_next, r_ret, sa_nil, sa_cons, es_nil, es_cons, o_none, o_some, ts_nil, ts_cons, c_lt, c_le, c_gt, c_ge, c_eq, c_ne, b_add, b_sub, b_mul, b_div, b_mod, b_pow, b_shr, a_add, a_mul, t_bool, t_int, List.map, List.cons_append, List.nil_append, List.getElem?_cons_succ, List.getElem?_cons_zero, List.set_cons_succ, List.set_cons_zero, frOf]); (repeat (first | with_reducible refine qx_next ?_ | with_reducible refine qx_cont ?_ | with_reducible refine qx_brk ?_ | with_reducible refine qx_nil ?_ | with_reducible refine q_nextI ?_ | with_reducible refine q_retI ?_ | with_reducible refine q_contI ?_ | with_reducible refine q_brkI ?_ | with_reducible refine ss_nilI ?_ | rw [q_next] | rw [q_ret] | rw [q_cont] | rw [q_brk] | rw [ss_nil])); (try simp only [r_next, r_ret]))
    refine call_len (hE.listAt e) ?_
    rw [List.length_map]
    ((try simp only [e_table, e_intT, e_int, e_bool, e_none, e_str, e_var, e_bin, e_neg, n_int, e_not, e_cmp, e_and, e_or, e_ite, e_sub, e_slice, e_list, e_tuple, e_call, e_ucall, e_meth, e_comp, t_not, t_and, t_or, t_cmp, t_var, t_sub, t_call, t_ucall, s_expr, s_assign, s_setitem, s_aug, s_augi, s_ifs, s_while, s_for, s_ret, s_brk, s_cont, ss_nil, c_range1, c_range2, c_range3, i_rng, i_ref, i_tup, i_enm, i_rev, bt_name, bt_tup, look_zero, look_succ, r_next, r_ret, sa_nil, sa_cons, es_nil, es_cons, o_none, o_some, ts_nil, ts_cons, c_lt, c_le, c_gt, c_ge, c_eq, c_ne, b_add, b_sub, b_mul, b_div, b_mod, b_pow, b_shr, a_add, a_mul, t_bool, t_int, List.map, List.cons_append, List.nil_append, List.getElem?_cons_succ, List.getElem?_cons_zero, List.set_cons_succ, List.set_cons_zero, frOf]); (repeat (first | with_reducible refine qx_next ?_ | with_reducible refine qx_cont ?_ | with_reducible refine qx_brk ?_ | with_reducible refine qx_nil ?_ | with_reducible refine q_nextI ?_ | with_reducible refine q_retI ?_ | with_reducible refine q_contI ?_ | with_reducible refine q_brkI ?_ | with_reducible refine ss_nilI ?_ | rw [q_next] | rw [q_ret] | rw [q_cont] | rw [q_brk] | rw [ss_nil])); (try simp only [r_next, r_ret]))
    by_cases h : (c : Int) < xs.length
    · rw [decide_eq_true h]
      simp only [if_true]
      ((try simp only [e_table, e_intT, e_int, e_bool, e_none, e_str, e_var, e_bin, e_neg, n_int, e_not, e_cmp, e_and, e_or, e_ite, e_sub, e_slice, e_list, e_tuple, e_call, e_ucall, e_meth, e_comp, t_not, t_and, t_or, t_cmp, t_var, t_sub, t_call, t_ucall, s_expr, s_assign, s_setitem, s_aug, s_augi, s_ifs, s_while, s_for, s_ret, s_brk, s_cont, ss_nil, c_range1, c_range2, c_range3, i_rng, i_ref, i_tup, i_enm, i_rev, bt_name, bt_tup, look_zero, look_succ, r_next, r_ret, sa_nil, sa_cons, es_nil, es_cons, o_none, o_some, ts_nil, ts_cons, c_lt, c_le, c_gt, c_ge, c_eq, c_ne, b_add, b_sub, b_mul, b_div, b_mod, b_pow, b_shr, a_add, a_mul, t_bool, t_int, List.map, List.cons_append, List.nil_append, List.getElem?_cons_succ, List.getElem?_cons_zero, List.set_cons_succ, List.set_cons_zero, frOf]); (repeat (first | with_reducible refine qx_next ?_ | with_reducible refine qx_cont ?_ | with_reducible refine qx_brk ?_ | with_reducible refine qx_nil ?_ | with_reducible refine q_nextI ?_ | with_reducible refine q_retI ?_ | with_reducible refine q_contI ?_ | with_reducible refine q_brkI ?_ | with_reducible refine ss_nilI ?_ | rw [q_next] | rw [q_ret] | rw [q_cont] | rw [q_brk] | rw [ss_nil])); (try simp only [r_next, r_ret]))
      exact hK _ _ (if_pos h) .rfl
    · rw [decide_eq_false h]
      simp only [Bool.false_eq_true, if_false]
      exact hN (if_neg h) _ .rfl
  · intro τ hE b hb
    rw [fm_below]
    ((try simp only [e_table, e_intT, e_int, e_bool, e_none, e_str, e_var, e_bin, e_neg, n_int, e_not, e_cmp, e_and, e_or, e_ite, e_sub, e_slice, e_list, e_tuple, e_call, e_ucall, e_meth, e_comp, t_not, t_and, t_or, t_cmp, t_var, t_sub, t_call, t_ucall, s_expr, s_assign, s_setitem, s_aug, s_augi, s_ifs, s_while, s_for, s_ret, s_brk, s_cont, ss_nil, c_range1, c_range2, c_range3, i_rng, i_ref, i_tup, i_enm, i_rev, bt_name, bt_tup, look_zero, look_succ, r_next, r_ret, sa_nil, sa_cons, es_nil, es_cons, o_none, o_some, ts_nil, ts_cons, c_lt, c_le, c_gt, c_ge, c_eq, c_ne, b_add, b_sub, b_mul, b_div, b_mod, b_pow, b_shr, a_add, a_mul, t_bool, t_int, List.map, List.cons_append, List.nil_append, List.getElem?_cons_succ, List.getElem?_cons_zero, List.set_cons_succ, List.set_cons_zero, frOf]); (repeat (first | with_reducible refine qx_next ?_ | with_reducible refine qx_cont ?_ | with_reducible refine qx_brk ?_ | with_reducible refine qx_nil ?_ | with_reducible refine q_nextI ?_ | with_reducible refine q_retI ?_ | with_reducible refine q_contI ?_ | with_reducible refine q_brkI ?_ | with_reducible refine ss_nilI ?_ | rw [q_next] | rw [q_ret] | rw [q_cont] | rw [q_brk] | rw [ss_nil])); (try simp only [r_next, r_ret]))
    exact q b _ (hE.trans (Ext.upd _ hb)) (listAt_list (upd_same _ _ _))
end

/-! Vc02d -/
section
variable {Φ : Fns} {Q : V → Hp → Prop} {σ : Hp} {a d : Addr} {xs : List Th} {p : Nat}
theorem wayT_len (xs : List Th) : ∀ f p : Nat, (wayT xs f p).1.length ≤ f + 1
  | 0, p => by simp [wayT]
  | f + 1, p => by
    unfold wayT
    split
    · split
      · simp
      · have := wayT_len xs f (kidX xs p)
        simp; omega
    · simp
theorem wayP_len (xs : List Th) (p : Nat) : (wayP xs p).1.length ≤ xs.length + 1 := wayT_len xs _ p
theorem ps_waysB_eq : ps_waysB = ps_waysB1 :: [.ifs (.cmp .Eq (.var 3) (.list [])) [.setitem (.var 1) (.var 2) (.tuple [(.list [(.var 2)]), (.str (Str.ofString ""))])] [.ifs (.cmp .NotEq (.ucall 2 [(.sub (.var 0) (.sub (.var 3) (.int 0)))]) (.ucall 2 [(.sub (.var 0) (.sub (.var 3) (.neg (.int 1))))])) [.setitem (.var 1) (.var 2) (.tuple [(.list [(.var 2)]), (.ucall 3 [(.sub (.var 0) (.sub (.var 3) (.int 1))), (.sub (.var 0) (.sub (.var 3) (.int 0)))])])] [.assign (.tup [4, 5]) (.sub (.var 1) (.sub (.call .max [(.comp [none, none, some 0] (.tuple [(.sub (.var 2) (.var 1)), (.var 1)]) (.name 1) .plain (.var 3) [])]) (.int 1))), .setitem (.var 1) (.var 2) (.tuple [(.bin .Add (.list [(.var 2)]) (.var 4)), (.var 5)])]]] := rfl
theorem sub_nat {ks : List Nat} {k : Nat} {i : Int} {b : Addr} (e : listAt σ b = some (ks.map natV)) (h : nth (ks.map natV) i = some (natV k)) (q : Q (.int k) σ) : opSub (.ref b) (.int i) Q σ := sub_list e h q
theorem waysB_v (h2 : ∀ args Q σ, kindC args Q σ → Φ 2 args Q σ) (h3 : ∀ args Q σ, wordsC args Q σ → Φ 3 args Q σ) {R : Fl → Frm → Hp → Prop} {e3 e4 e5 : Option V} {m : Int → Option V} {n : Nat} (e : listAt σ a = some (xs.map Th.v)) (hx : xs.length ≤ 500) (hp : p < xs.length) (hd : σ d = some (.imap m n)) (hn : n < 1000)
    (hw : ∀ q, p < q → q < xs.length → WayAt xs σ m q)
    (k : ∀ m' σ' e3 e4 e5, σ' d = some (.imap m' (n + 1)) → (∀ q, p ≤ q → q < xs.length → WayAt xs σ' m' q) → (∀ σ₀, Ext σ₀ σ → σ₀ d = none → Ext σ₀ σ') → R .next [some (.ref a), some (.ref d), some (.int p), e3, e4, e5] σ') :
    vSs Φ ps_waysB R [some (.ref a), some (.ref d), some (.int p), e3, e4, e5] σ := by
  rw [ps_waysB_eq]
  refine go_cons (waysB1_v e hx hp fun b σ1 x1 g1 => q_nextI ?_)
  have hd1 := x1 _ _ hd
  have ea1 := x1.listAt e
  have fin : ∀ (c : Addr) (τ : Hp) (P : Hp → Prop), Ext σ1 τ → listAt τ c = some ((wayP xs p).1.map natV) → (∀ τ', (∀ e3 e4 e5, R .next [some (.ref a), some (.ref d), some (.int p), e3, e4, e5] τ') → P τ') → opSet (.ref d) (.int p) (.tup [.ref c, .str (wordsOf (wayP xs p).2)]) P τ := fun c τ P xt hc hP =>
    put_way (xt _ _ hd1) hn (fun q h1 h2 => ((hw q h1 h2).ext x1).ext xt) hc fun m' w' => hP _ fun _ _ _ => (k m' _ _ _ _ (upd_same _ _ _) w' fun σ₀ x0 f0 => Ext.again _ ((x0.trans x1).trans xt) f0)
  ((first | with_reducible refine gx_of ?_ | with_reducible refine go_cons ?_); ((try simp only [e_table, e_intT, e_int, e_bool, e_none, e_str, e_var, e_bin, e_neg, n_int, e_not, e_cmp, e_and, e_or, e_ite, e_sub, e_slice, e_list, e_tuple, e_call, e_ucall, e_meth, e_comp, t_not, t_and, t_or, t_cmp, t_var, t_sub, t_call, t_ucall, s_expr, s_assign, s_setitem, s_aug, s_augi, s_ifs, s_while, s_for, s_ret, s_brk, s_cont, ss_nil, c_range1, c_range2, c_range3, i_rng, i_ref, i_tup, i_enm, i_rev, bt_name, bt_tup, look_zero, look_succ, r_next, r_ret, sa_nil, sa_cons, es_nil, es_cons, o_none, o_some, ts_nil, ts_cons, c_lt, c_le, c_gt, c_ge, c_eq, c_ne, b_add, b_sub, b_mul, b_div, b_mod, b_pow, b_shr, a_add, a_mul, t_bool, t_int, List.map, List.cons_append, List.nil_append, List.getElem?_cons_succ, List.getElem?_cons_zero, List.set_cons_succ, List.set_cons_zero, frOf]); (repeat (first | with_reducible refine qx_next ?_ | with_reducible refine qx_cont ?_ | with_reducible refine qx_brk ?_ | with_reducible refine qx_nil ?_ | with_reducible refine q_nextI ?_ | with_reducible refine q_retI ?_ | with_reducible refine q_contI ?_ | with_reducible refine q_brkI ?_ | with_reducible refine ss_nilI ?_ | rw [q_next] | rw [q_ret] | rw [q_cont] | rw [q_brk] | rw [ss_nil])); (try simp only [r_next, r_ret])))
  refine newL_of (big_of (n := 0) (by decide)) fun z τ1 y1 f1 z1 => ?_
  refine eq_nil (y1.listAt g1) (listAt_list z1) ?_
  ((try simp only [e_table, e_intT, e_int, e_bool, e_none, e_str, e_var, e_bin, e_neg, n_int, e_not, e_cmp, e_and, e_or, e_ite, e_sub, e_slice, e_list, e_tuple, e_call, e_ucall, e_meth, e_comp, t_not, t_and, t_or, t_cmp, t_var, t_sub, t_call, t_ucall, s_expr, s_assign, s_setitem, s_aug, s_augi, s_ifs, s_while, s_for, s_ret, s_brk, s_cont, ss_nil, c_range1, c_range2, c_range3, i_rng, i_ref, i_tup, i_enm, i_rev, bt_name, bt_tup, look_zero, look_succ, r_next, r_ret, sa_nil, sa_cons, es_nil, es_cons, o_none, o_some, ts_nil, ts_cons, c_lt, c_le, c_gt, c_ge, c_eq, c_ne, b_add, b_sub, b_mul, b_div, b_mod, b_pow, b_shr, a_add, a_mul, t_bool, t_int, List.map, List.cons_append, List.nil_append, List.getElem?_cons_succ, List.getElem?_cons_zero, List.set_cons_succ, List.set_cons_zero, frOf]); (repeat (first | with_reducible refine qx_next ?_ | with_reducible refine qx_cont ?_ | with_reducible refine qx_brk ?_ | with_reducible refine qx_nil ?_ | with_reducible refine q_nextI ?_ | with_reducible refine q_retI ?_ | with_reducible refine q_contI ?_ | with_reducible refine q_brkI ?_ | with_reducible refine ss_nilI ?_ | rw [q_next] | rw [q_ret] | rw [q_cont] | rw [q_brk] | rw [ss_nil])); (try simp only [r_next, r_ret]))
  have zt := y1.listAt g1
  have et := y1.listAt ea1
  by_cases hc : 2 * p + 1 < xs.length
  · have hne : ((belowL xs.length p).map natV).isEmpty = false := by
      by_cases h2 : 2 * p + 2 < xs.length
      · rw [below_two h2]; rfl
      · rw [below_one (by omega)]; rfl
    have n0 : nth ((belowL xs.length p).map natV) 0 = some (natV (2 * p + 1)) := by
      by_cases h2 : 2 * p + 2 < xs.length
      · rw [below_two h2]; rfl
      · rw [below_one (by omega)]; rfl
    obtain ⟨kl, nl, hkl, hap⟩ : ∃ kl, nth ((belowL xs.length p).map natV) (-1) = some (natV kl) ∧ kl < xs.length ∧ ((xs.getD (2 * p + 1) (.i 0)).isI != (xs.getD kl (.i 0)).isI) = decide (apart xs p) := by
      by_cases h2 : 2 * p + 2 < xs.length
      · rw [below_two h2]
        refine ⟨2 * p + 2, rfl, h2, ?_⟩
        by_cases c : (xs.getD (2 * p + 2) (.i 0)).isI = (xs.getD (2 * p + 1) (.i 0)).isI
        · rw [decide_eq_false (fun h => h.2 c), c, bne_self_eq_false]
        · rw [decide_eq_true ⟨h2, c⟩, bne_iff_ne]; exact fun h => c h.symm
      · rw [below_one (by omega)]
        refine ⟨2 * p + 1, rfl, hc, ?_⟩
        rw [decide_eq_false (fun h => h2 h.1), bne_self_eq_false]
    rw [hne]
    simp only [Bool.false_eq_true, if_false]
    ((first | with_reducible refine gx_of ?_ | with_reducible refine go_cons ?_); ((try simp only [e_table, e_intT, e_int, e_bool, e_none, e_str, e_var, e_bin, e_neg, n_int, e_not, e_cmp, e_and, e_or, e_ite, e_sub, e_slice, e_list, e_tuple, e_call, e_ucall, e_meth, e_comp, t_not, t_and, t_or, t_cmp, t_var, t_sub, t_call, t_ucall, s_expr, s_assign, s_setitem, s_aug, s_augi, s_ifs, s_while, s_for, s_ret, s_brk, s_cont, ss_nil, c_range1, c_range2, c_range3, i_rng, i_ref, i_tup, i_enm, i_rev, bt_name, bt_tup, look_zero, look_succ, r_next, r_ret, sa_nil, sa_cons, es_nil, es_cons, o_none, o_some, ts_nil, ts_cons, c_lt, c_le, c_gt, c_ge, c_eq, c_ne, b_add, b_sub, b_mul, b_div, b_mod, b_pow, b_shr, a_add, a_mul, t_bool, t_int, List.map, List.cons_append, List.nil_append, List.getElem?_cons_succ, List.getElem?_cons_zero, List.set_cons_succ, List.set_cons_zero, frOf]); (repeat (first | with_reducible refine qx_next ?_ | with_reducible refine qx_cont ?_ | with_reducible refine qx_brk ?_ | with_reducible refine qx_nil ?_ | with_reducible refine q_nextI ?_ | with_reducible refine q_retI ?_ | with_reducible refine q_contI ?_ | with_reducible refine q_brkI ?_ | with_reducible refine ss_nilI ?_ | rw [q_next] | rw [q_ret] | rw [q_cont] | rw [q_brk] | rw [ss_nil])); (try simp only [r_next, r_ret])))
    refine sub_nat zt n0 ?_
    refine sub_th (.i 0) et hc ?_
    refine h2 _ _ _ ⟨_, rfl, ?_⟩
    refine sub_nat zt nl ?_
    refine sub_th (.i 0) et hkl ?_
    refine h2 _ _ _ ⟨_, rfl, ?_⟩
    refine ne_strs ?_
    rw [kind_ne, hap]
    ((try simp only [e_table, e_intT, e_int, e_bool, e_none, e_str, e_var, e_bin, e_neg, n_int, e_not, e_cmp, e_and, e_or, e_ite, e_sub, e_slice, e_list, e_tuple, e_call, e_ucall, e_meth, e_comp, t_not, t_and, t_or, t_cmp, t_var, t_sub, t_call, t_ucall, s_expr, s_assign, s_setitem, s_aug, s_augi, s_ifs, s_while, s_for, s_ret, s_brk, s_cont, ss_nil, c_range1, c_range2, c_range3, i_rng, i_ref, i_tup, i_enm, i_rev, bt_name, bt_tup, look_zero, look_succ, r_next, r_ret, sa_nil, sa_cons, es_nil, es_cons, o_none, o_some, ts_nil, ts_cons, c_lt, c_le, c_gt, c_ge, c_eq, c_ne, b_add, b_sub, b_mul, b_div, b_mod, b_pow, b_shr, a_add, a_mul, t_bool, t_int, List.map, List.cons_append, List.nil_append, List.getElem?_cons_succ, List.getElem?_cons_zero, List.set_cons_succ, List.set_cons_zero, frOf]); (repeat (first | with_reducible refine qx_next ?_ | with_reducible refine qx_cont ?_ | with_reducible refine qx_brk ?_ | with_reducible refine qx_nil ?_ | with_reducible refine q_nextI ?_ | with_reducible refine q_retI ?_ | with_reducible refine q_contI ?_ | with_reducible refine q_brkI ?_ | with_reducible refine ss_nilI ?_ | rw [q_next] | rw [q_ret] | rw [q_cont] | rw [q_brk] | rw [ss_nil])); (try simp only [r_next, r_ret]))
    by_cases ap : apart xs p
    · rw [decide_eq_true ap]
      simp only [if_true]
      ((first | with_reducible refine gx_of ?_ | with_reducible refine go_cons ?_); ((try simp only [e_table, e_intT, e_int, e_bool, e_none, e_str, e_var, e_bin, e_neg, n_int, e_not, e_cmp, e_and, e_or, e_ite, e_sub, e_slice, e_list, e_tuple, e_call, e_ucall, e_meth, e_comp, t_not, t_and, t_or, t_cmp, t_var, t_sub, t_call, t_ucall, s_expr, s_assign, s_setitem, s_aug, s_augi, s_ifs, s_while, s_for, s_ret, s_brk, s_cont, ss_nil, c_range1, c_range2, c_range3, i_rng, i_ref, i_tup, i_enm, i_rev, bt_name, bt_tup, look_zero, look_succ, r_next, r_ret, sa_nil, sa_cons, es_nil, es_cons, o_none, o_some, ts_nil, ts_cons, c_lt, c_le, c_gt, c_ge, c_eq, c_ne, b_add, b_sub, b_mul, b_div, b_mod, b_pow, b_shr, a_add, a_mul, t_bool, t_int, List.map, List.cons_append, List.nil_append, List.getElem?_cons_succ, List.getElem?_cons_zero, List.set_cons_succ, List.set_cons_zero, frOf]); (repeat (first | with_reducible refine qx_next ?_ | with_reducible refine qx_cont ?_ | with_reducible refine qx_brk ?_ | with_reducible refine qx_nil ?_ | with_reducible refine q_nextI ?_ | with_reducible refine q_retI ?_ | with_reducible refine q_contI ?_ | with_reducible refine q_brkI ?_ | with_reducible refine ss_nilI ?_ | rw [q_next] | rw [q_ret] | rw [q_cont] | rw [q_brk] | rw [ss_nil])); (try simp only [r_next, r_ret])))
      refine newL_of (big_of (n := 1) (by decide)) fun c τ2 y2 f2 g2 => ?_
      have n1 : nth ((belowL xs.length p).map natV) 1 = some (natV (2 * p + 2)) := by rw [below_two ap.1]; rfl
      refine sub_nat (y2.listAt zt) n1 ?_
      refine sub_th (.i 0) (y2.listAt et) ap.1 ?_
      refine sub_nat (y2.listAt zt) n0 ?_
      refine sub_th (.i 0) (y2.listAt et) hc ?_
      refine h3 _ _ _ ⟨_, _, rfl, ?_⟩
      refine ⟨big_of (n := 2) (by decide), ?_⟩
      ((try simp only [e_table, e_intT, e_int, e_bool, e_none, e_str, e_var, e_bin, e_neg, n_int, e_not, e_cmp, e_and, e_or, e_ite, e_sub, e_slice, e_list, e_tuple, e_call, e_ucall, e_meth, e_comp, t_not, t_and, t_or, t_cmp, t_var, t_sub, t_call, t_ucall, s_expr, s_assign, s_setitem, s_aug, s_augi, s_ifs, s_while, s_for, s_ret, s_brk, s_cont, ss_nil, c_range1, c_range2, c_range3, i_rng, i_ref, i_tup, i_enm, i_rev, bt_name, bt_tup, look_zero, look_succ, r_next, r_ret, sa_nil, sa_cons, es_nil, es_cons, o_none, o_some, ts_nil, ts_cons, c_lt, c_le, c_gt, c_ge, c_eq, c_ne, b_add, b_sub, b_mul, b_div, b_mod, b_pow, b_shr, a_add, a_mul, t_bool, t_int, List.map, List.cons_append, List.nil_append, List.getElem?_cons_succ, List.getElem?_cons_zero, List.set_cons_succ, List.set_cons_zero, frOf]); (repeat (first | with_reducible refine qx_next ?_ | with_reducible refine qx_cont ?_ | with_reducible refine qx_brk ?_ | with_reducible refine qx_nil ?_ | with_reducible refine q_nextI ?_ | with_reducible refine q_retI ?_ | with_reducible refine q_contI ?_ | with_reducible refine q_brkI ?_ | with_reducible refine ss_nilI ?_ | rw [q_next] | rw [q_ret] | rw [q_cont] | rw [q_brk] | rw [ss_nil])); (try simp only [r_next, r_ret]))
      rw [show refuse (xs.getD (2 * p + 2) (.i 0)) (xs.getD (2 * p + 1) (.i 0)) = wordsOf (wayP xs p).2 by rw [wayP_apart hc ap]; rfl]
      refine fin c τ2 _ (y1.trans y2) (by rw [wayP_apart hc ap, listAt_list g2]; rfl) fun τ' h => ?_
      ((try simp only [e_table, e_intT, e_int, e_bool, e_none, e_str, e_var, e_bin, e_neg, n_int, e_not, e_cmp, e_and, e_or, e_ite, e_sub, e_slice, e_list, e_tuple, e_call, e_ucall, e_meth, e_comp, t_not, t_and, t_or, t_cmp, t_var, t_sub, t_call, t_ucall, s_expr, s_assign, s_setitem, s_aug, s_augi, s_ifs, s_while, s_for, s_ret, s_brk, s_cont, ss_nil, c_range1, c_range2, c_range3, i_rng, i_ref, i_tup, i_enm, i_rev, bt_name, bt_tup, look_zero, look_succ, r_next, r_ret, sa_nil, sa_cons, es_nil, es_cons, o_none, o_some, ts_nil, ts_cons, c_lt, c_le, c_gt, c_ge, c_eq, c_ne, b_add, b_sub, b_mul, b_div, b_mod, b_pow, b_shr, a_add, a_mul, t_bool, t_int, List.map, List.cons_append, List.nil_append, List.getElem?_cons_succ, List.getElem?_cons_zero, List.set_cons_succ, List.set_cons_zero, frOf]); (repeat (first | with_reducible refine qx_next ?_ | with_reducible refine qx_cont ?_ | with_reducible refine qx_brk ?_ | with_reducible refine qx_nil ?_ | with_reducible refine q_nextI ?_ | with_reducible refine q_retI ?_ | with_reducible refine q_contI ?_ | with_reducible refine q_brkI ?_ | with_reducible refine ss_nilI ?_ | rw [q_next] | rw [q_ret] | rw [q_cont] | rw [q_brk] | rw [ss_nil])); (try simp only [r_next, r_ret]))
      exact h _ _ _
    · rw [decide_eq_false ap]
      simp only [Bool.false_eq_true, if_false]
      ((first | with_reducible refine gx_of ?_ | with_reducible refine go_cons ?_); ((try simp only [e_table, e_intT, e_int, e_bool, e_none, e_str, e_var, e_bin, e_neg, n_int, e_not, e_cmp, e_and, e_or, e_ite, e_sub, e_slice, e_list, e_tuple, e_call, e_ucall, e_meth, e_comp, t_not, t_and, t_or, t_cmp, t_var, t_sub, t_call, t_ucall, s_expr, s_assign, s_setitem, s_aug, s_augi, s_ifs, s_while, s_for, s_ret, s_brk, s_cont, ss_nil, c_range1, c_range2, c_range3, i_rng, i_ref, i_tup, i_enm, i_rev, bt_name, bt_tup, look_zero, look_succ, r_next, r_ret, sa_nil, sa_cons, es_nil, es_cons, o_none, o_some, ts_nil, ts_cons, c_lt, c_le, c_gt, c_ge, c_eq, c_ne, b_add, b_sub, b_mul, b_div, b_mod, b_pow, b_shr, a_add, a_mul, t_bool, t_int, List.map, List.cons_append, List.nil_append, List.getElem?_cons_succ, List.getElem?_cons_zero, List.set_cons_succ, List.set_cons_zero, frOf]); (repeat (first | with_reducible refine qx_next ?_ | with_reducible refine qx_cont ?_ | with_reducible refine qx_brk ?_ | with_reducible refine qx_nil ?_ | with_reducible refine q_nextI ?_ | with_reducible refine q_retI ?_ | with_reducible refine q_contI ?_ | with_reducible refine q_brkI ?_ | with_reducible refine ss_nilI ?_ | rw [q_next] | rw [q_ret] | rw [q_cont] | rw [q_brk] | rw [ss_nil])); (try simp only [r_next, r_ret])))
      have bt := zt
      refine ⟨⟨_, bt⟩, ?_⟩
      refine comp_rule (xs := (belowL xs.length p).map natV) (gPair xs) (by rw [List.length_map]; exact big_of (Nat.le_trans (List.length_filter_le _ _) (show 2 ≤ 1000 by omega))) (yields_lst (fun τ h => h.listAt bt) _ 0 rfl) ?_ ?_
      · intro y my τ hE K N hK hN
        obtain ⟨c, mc, rfl⟩ := List.mem_map.mp my
        have hcl : c < xs.length := by unfold belowL at mc; have := (List.mem_filter.mp mc).2; simpa using this
        unfold natV at *
        ((try simp only [e_table, e_intT, e_int, e_bool, e_none, e_str, e_var, e_bin, e_neg, n_int, e_not, e_cmp, e_and, e_or, e_ite, e_sub, e_slice, e_list, e_tuple, e_call, e_ucall, e_meth, e_comp, t_not, t_and, t_or, t_cmp, t_var, t_sub, t_call, t_ucall, s_expr, s_assign, s_setitem, s_aug, s_augi, s_ifs, s_while, s_for, s_ret, s_brk, s_cont, ss_nil, c_range1, c_range2, c_range3, i_rng, i_ref, i_tup, i_enm, i_rev, bt_name, bt_tup, look_zero, look_succ, r_next, r_ret, sa_nil, sa_cons, es_nil, es_cons, o_none, o_some, ts_nil, ts_cons, c_lt, c_le, c_gt, c_ge, c_eq, c_ne, b_add, b_sub, b_mul, b_div, b_mod, b_pow, b_shr, a_add, a_mul, t_bool, t_int, List.map, List.cons_append, List.nil_append, List.getElem?_cons_succ, List.getElem?_cons_zero, List.set_cons_succ, List.set_cons_zero, frOf]); (repeat (first | with_reducible refine qx_next ?_ | with_reducible refine qx_cont ?_ | with_reducible refine qx_brk ?_ | with_reducible refine qx_nil ?_ | with_reducible refine q_nextI ?_ | with_reducible refine q_retI ?_ | with_reducible refine q_contI ?_ | with_reducible refine q_brkI ?_ | with_reducible refine ss_nilI ?_ | rw [q_next] | rw [q_ret] | rw [q_cont] | rw [q_brk] | rw [ss_nil])); (try simp only [r_next, r_ret]))
        simp only [if_true]
        refine sub_th (.i 0) (hE.listAt et) hcl ?_
        ((try simp only [e_table, e_intT, e_int, e_bool, e_none, e_str, e_var, e_bin, e_neg, n_int, e_not, e_cmp, e_and, e_or, e_ite, e_sub, e_slice, e_list, e_tuple, e_call, e_ucall, e_meth, e_comp, t_not, t_and, t_or, t_cmp, t_var, t_sub, t_call, t_ucall, s_expr, s_assign, s_setitem, s_aug, s_augi, s_ifs, s_while, s_for, s_ret, s_brk, s_cont, ss_nil, c_range1, c_range2, c_range3, i_rng, i_ref, i_tup, i_enm, i_rev, bt_name, bt_tup, look_zero, look_succ, r_next, r_ret, sa_nil, sa_cons, es_nil, es_cons, o_none, o_some, ts_nil, ts_cons, c_lt, c_le, c_gt, c_ge, c_eq, c_ne, b_add, b_sub, b_mul, b_div, b_mod, b_pow, b_shr, a_add, a_mul, t_bool, t_int, List.map, List.cons_append, List.nil_append, List.getElem?_cons_succ, List.getElem?_cons_zero, List.set_cons_succ, List.set_cons_zero, frOf]); (repeat (first | with_reducible refine qx_next ?_ | with_reducible refine qx_cont ?_ | with_reducible refine qx_brk ?_ | with_reducible refine qx_nil ?_ | with_reducible refine q_nextI ?_ | with_reducible refine q_retI ?_ | with_reducible refine q_contI ?_ | with_reducible refine q_brkI ?_ | with_reducible refine ss_nilI ?_ | rw [q_next] | rw [q_ret] | rw [q_cont] | rw [q_brk] | rw [ss_nil])); (try simp only [r_next, r_ret]))
        exact ⟨big_of (n := 2) (by decide), hK _ _ rfl .rfl⟩
      · intro τ2 y2 b2 hb2
        rw [fm_pair]
        refine max_kid (listAt_list (upd_same _ _ _)) hc ap ?_
        have y3 := y2.trans (Ext.upd (.list ((List.map (fun k => (xs.getD k (.i 0), k)) (belowL xs.length p)).map pairV)) hb2)
        generalize upd τ2 b2 _ = τ3 at y3
        unfold pairV
        refine sub_tup (xs := [(xs.getD (kidX xs p) (.i 0)).v, .int (kidX xs p : Nat)]) (big_of (n := 2) (by decide)) (x := .int (kidX xs p : Nat)) rfl ?_
        obtain ⟨c, e1, e2⟩ := hw (kidX xs p) (kidX_gt xs p) (kidX_lt xs p hc)
        refine map_at' (y3 _ _ (y1 _ _ hd1)) e1 ?_
        ((try simp only [e_table, e_intT, e_int, e_bool, e_none, e_str, e_var, e_bin, e_neg, n_int, e_not, e_cmp, e_and, e_or, e_ite, e_sub, e_slice, e_list, e_tuple, e_call, e_ucall, e_meth, e_comp, t_not, t_and, t_or, t_cmp, t_var, t_sub, t_call, t_ucall, s_expr, s_assign, s_setitem, s_aug, s_augi, s_ifs, s_while, s_for, s_ret, s_brk, s_cont, ss_nil, c_range1, c_range2, c_range3, i_rng, i_ref, i_tup, i_enm, i_rev, bt_name, bt_tup, look_zero, look_succ, r_next, r_ret, sa_nil, sa_cons, es_nil, es_cons, o_none, o_some, ts_nil, ts_cons, c_lt, c_le, c_gt, c_ge, c_eq, c_ne, b_add, b_sub, b_mul, b_div, b_mod, b_pow, b_shr, a_add, a_mul, t_bool, t_int, List.map, List.cons_append, List.nil_append, List.getElem?_cons_succ, List.getElem?_cons_zero, List.set_cons_succ, List.set_cons_zero, frOf]); (repeat (first | with_reducible refine qx_next ?_ | with_reducible refine qx_cont ?_ | with_reducible refine qx_brk ?_ | with_reducible refine qx_nil ?_ | with_reducible refine q_nextI ?_ | with_reducible refine q_retI ?_ | with_reducible refine q_contI ?_ | with_reducible refine q_brkI ?_ | with_reducible refine ss_nilI ?_ | rw [q_next] | rw [q_ret] | rw [q_cont] | rw [q_brk] | rw [ss_nil])); (try simp only [r_next, r_ret]))
        refine ⟨rfl, ?_⟩
        ((try simp only [e_table, e_intT, e_int, e_bool, e_none, e_str, e_var, e_bin, e_neg, n_int, e_not, e_cmp, e_and, e_or, e_ite, e_sub, e_slice, e_list, e_tuple, e_call, e_ucall, e_meth, e_comp, t_not, t_and, t_or, t_cmp, t_var, t_sub, t_call, t_ucall, s_expr, s_assign, s_setitem, s_aug, s_augi, s_ifs, s_while, s_for, s_ret, s_brk, s_cont, ss_nil, c_range1, c_range2, c_range3, i_rng, i_ref, i_tup, i_enm, i_rev, bt_name, bt_tup, look_zero, look_succ, r_next, r_ret, sa_nil, sa_cons, es_nil, es_cons, o_none, o_some, ts_nil, ts_cons, c_lt, c_le, c_gt, c_ge, c_eq, c_ne, b_add, b_sub, b_mul, b_div, b_mod, b_pow, b_shr, a_add, a_mul, t_bool, t_int, List.map, List.cons_append, List.nil_append, List.getElem?_cons_succ, List.getElem?_cons_zero, List.set_cons_succ, List.set_cons_zero, frOf]); (repeat (first | with_reducible refine qx_next ?_ | with_reducible refine qx_cont ?_ | with_reducible refine qx_brk ?_ | with_reducible refine qx_nil ?_ | with_reducible refine q_nextI ?_ | with_reducible refine q_retI ?_ | with_reducible refine q_contI ?_ | with_reducible refine q_brkI ?_ | with_reducible refine ss_nilI ?_ | rw [q_next] | rw [q_ret] | rw [q_cont] | rw [q_brk] | rw [ss_nil])); (try simp only [r_next, r_ret]))
        ((first | with_reducible refine gx_of ?_ | with_reducible refine go_cons ?_); ((try simp only [e_table, e_intT, e_int, e_bool, e_none, e_str, e_var, e_bin, e_neg, n_int, e_not, e_cmp, e_and, e_or, e_ite, e_sub, e_slice, e_list, e_tuple, e_call, e_ucall, e_meth, e_comp, t_not, t_and, t_or, t_cmp, t_var, t_sub, t_call, t_ucall, s_expr, s_assign, s_setitem, s_aug, s_augi, s_ifs, s_while, s_for, s_ret, s_brk, s_cont, ss_nil, c_range1, c_range2, c_range3, i_rng, i_ref, i_tup, i_enm, i_rev, bt_name, bt_tup, look_zero, look_succ, r_next, r_ret, sa_nil, sa_cons, es_nil, es_cons, o_none, o_some, ts_nil, ts_cons, c_lt, c_le, c_gt, c_ge, c_eq, c_ne, b_add, b_sub, b_mul, b_div, b_mod, b_pow, b_shr, a_add, a_mul, t_bool, t_int, List.map, List.cons_append, List.nil_append, List.getElem?_cons_succ, List.getElem?_cons_zero, List.set_cons_succ, List.set_cons_zero, frOf]); (repeat (first | with_reducible refine qx_next ?_ | with_reducible refine qx_cont ?_ | with_reducible refine qx_brk ?_ | with_reducible refine qx_nil ?_ | with_reducible refine q_nextI ?_ | with_reducible refine q_retI ?_ | with_reducible refine q_contI ?_ | with_reducible refine q_brkI ?_ | with_reducible refine ss_nilI ?_ | rw [q_next] | rw [q_ret] | rw [q_cont] | rw [q_brk] | rw [ss_nil])); (try simp only [r_next, r_ret])))
        refine newL_of (big_of (n := 1) (by decide)) fun c1 τ4 y4 f4 g4 => ?_
        have e4' := y4.listAt (y3.listAt (y1.listAt (x1.listAt e2)))
        refine add_lists (listAt_list g4) e4' ?_
        refine newL_of (by have := wayP_len xs (kidX xs p); simp only [List.cons_append, List.nil_append, List.length_cons, List.length_map]; unfold BIG; omega) fun c2 τ5 y5 f5 g5 => ?_
        refine ⟨big_of (n := 2) (by decide), ?_⟩
        ((try simp only [e_table, e_intT, e_int, e_bool, e_none, e_str, e_var, e_bin, e_neg, n_int, e_not, e_cmp, e_and, e_or, e_ite, e_sub, e_slice, e_list, e_tuple, e_call, e_ucall, e_meth, e_comp, t_not, t_and, t_or, t_cmp, t_var, t_sub, t_call, t_ucall, s_expr, s_assign, s_setitem, s_aug, s_augi, s_ifs, s_while, s_for, s_ret, s_brk, s_cont, ss_nil, c_range1, c_range2, c_range3, i_rng, i_ref, i_tup, i_enm, i_rev, bt_name, bt_tup, look_zero, look_succ, r_next, r_ret, sa_nil, sa_cons, es_nil, es_cons, o_none, o_some, ts_nil, ts_cons, c_lt, c_le, c_gt, c_ge, c_eq, c_ne, b_add, b_sub, b_mul, b_div, b_mod, b_pow, b_shr, a_add, a_mul, t_bool, t_int, List.map, List.cons_append, List.nil_append, List.getElem?_cons_succ, List.getElem?_cons_zero, List.set_cons_succ, List.set_cons_zero, frOf]); (repeat (first | with_reducible refine qx_next ?_ | with_reducible refine qx_cont ?_ | with_reducible refine qx_brk ?_ | with_reducible refine qx_nil ?_ | with_reducible refine q_nextI ?_ | with_reducible refine q_retI ?_ | with_reducible refine q_contI ?_ | with_reducible refine q_brkI ?_ | with_reducible refine ss_nilI ?_ | rw [q_next] | rw [q_ret] | rw [q_cont] | rw [q_brk] | rw [ss_nil])); (try simp only [r_next, r_ret]))
        rw [show wordsOf (wayP xs (kidX xs p)).2 = wordsOf (wayP xs p).2 by rw [wayP_on hc ap]]
        refine fin c2 τ5 _ (y1.trans (y3.trans (y4.trans y5))) (by rw [wayP_on hc ap, listAt_list g5]; rfl) fun τ' h => ?_
        ((try simp only [e_table, e_intT, e_int, e_bool, e_none, e_str, e_var, e_bin, e_neg, n_int, e_not, e_cmp, e_and, e_or, e_ite, e_sub, e_slice, e_list, e_tuple, e_call, e_ucall, e_meth, e_comp, t_not, t_and, t_or, t_cmp, t_var, t_sub, t_call, t_ucall, s_expr, s_assign, s_setitem, s_aug, s_augi, s_ifs, s_while, s_for, s_ret, s_brk, s_cont, ss_nil, c_range1, c_range2, c_range3, i_rng, i_ref, i_tup, i_enm, i_rev, bt_name, bt_tup, look_zero, look_succ, r_next, r_ret, sa_nil, sa_cons, es_nil, es_cons, o_none, o_some, ts_nil, ts_cons, c_lt, c_le, c_gt, c_ge, c_eq, c_ne, b_add, b_sub, b_mul, b_div, b_mod, b_pow, b_shr, a_add, a_mul, t_bool, t_int, List.map, List.cons_append, List.nil_append, List.getElem?_cons_succ, List.getElem?_cons_zero, List.set_cons_succ, List.set_cons_zero, frOf]); (repeat (first | with_reducible refine qx_next ?_ | with_reducible refine qx_cont ?_ | with_reducible refine qx_brk ?_ | with_reducible refine qx_nil ?_ | with_reducible refine q_nextI ?_ | with_reducible refine q_retI ?_ | with_reducible refine q_contI ?_ | with_reducible refine q_brkI ?_ | with_reducible refine ss_nilI ?_ | rw [q_next] | rw [q_ret] | rw [q_cont] | rw [q_brk] | rw [ss_nil])); (try simp only [r_next, r_ret]))
        exact h _ _ _
  · have hb := below_nil (n := xs.length) (p := p) (by omega)
    rw [hb]
    simp only [List.map_nil, List.isEmpty_nil, if_true]
    ((first | with_reducible refine gx_of ?_ | with_reducible refine go_cons ?_); ((try simp only [e_table, e_intT, e_int, e_bool, e_none, e_str, e_var, e_bin, e_neg, n_int, e_not, e_cmp, e_and, e_or, e_ite, e_sub, e_slice, e_list, e_tuple, e_call, e_ucall, e_meth, e_comp, t_not, t_and, t_or, t_cmp, t_var, t_sub, t_call, t_ucall, s_expr, s_assign, s_setitem, s_aug, s_augi, s_ifs, s_while, s_for, s_ret, s_brk, s_cont, ss_nil, c_range1, c_range2, c_range3, i_rng, i_ref, i_tup, i_enm, i_rev, bt_name, bt_tup, look_zero, look_succ, r_next, r_ret, sa_nil, sa_cons, es_nil, es_cons, o_none, o_some, ts_nil, ts_cons, c_lt, c_le, c_gt, c_ge, c_eq, c_ne, b_add, b_sub, b_mul, b_div, b_mod, b_pow, b_shr, a_add, a_mul, t_bool, t_int, List.map, List.cons_append, List.nil_append, List.getElem?_cons_succ, List.getElem?_cons_zero, List.set_cons_succ, List.set_cons_zero, frOf]); (repeat (first | with_reducible refine qx_next ?_ | with_reducible refine qx_cont ?_ | with_reducible refine qx_brk ?_ | with_reducible refine qx_nil ?_ | with_reducible refine q_nextI ?_ | with_reducible refine q_retI ?_ | with_reducible refine q_contI ?_ | with_reducible refine q_brkI ?_ | with_reducible refine ss_nilI ?_ | rw [q_next] | rw [q_ret] | rw [q_cont] | rw [q_brk] | rw [ss_nil])); (try simp only [r_next, r_ret])))
    refine newL_of (big_of (n := 1) (by decide)) fun c τ2 y2 f2 g2 => ?_
    refine ⟨big_of (n := 2) (by decide), ?_⟩
    ((try simp only [e_table, e_intT, e_int, e_bool, e_none, e_str, e_var, e_bin, e_neg, n_int, e_not, e_cmp, e_and, e_or, e_ite, e_sub, e_slice, e_list, e_tuple, e_call, e_ucall, e_meth, e_comp, t_not, t_and, t_or, t_cmp, t_var, t_sub, t_call, t_ucall, s_expr, s_assign, s_setitem, s_aug, s_augi, s_ifs, s_while, s_for, s_ret, s_brk, s_cont, ss_nil, c_range1, c_range2, c_range3, i_rng, i_ref, i_tup, i_enm, i_rev, bt_name, bt_tup, look_zero, look_succ, r_next, r_ret, sa_nil, sa_cons, es_nil, es_cons, o_none, o_some, ts_nil, ts_cons, c_lt, c_le, c_gt, c_ge, c_eq, c_ne, b_add, b_sub, b_mul, b_div, b_mod, b_pow, b_shr, a_add, a_mul, t_bool, t_int, List.map, List.cons_append, List.nil_append, List.getElem?_cons_succ, List.getElem?_cons_zero, List.set_cons_succ, List.set_cons_zero, frOf]); (repeat (first | with_reducible refine qx_next ?_ | with_reducible refine qx_cont ?_ | with_reducible refine qx_brk ?_ | with_reducible refine qx_nil ?_ | with_reducible refine q_nextI ?_ | with_reducible refine q_retI ?_ | with_reducible refine q_contI ?_ | with_reducible refine q_brkI ?_ | with_reducible refine ss_nilI ?_ | rw [q_next] | rw [q_ret] | rw [q_cont] | rw [q_brk] | rw [ss_nil])); (try simp only [r_next, r_ret]))
    rw [show Str.ofString "" = wordsOf (wayP xs p).2 by rw [wayP_leaf (by omega)]; rfl]
    refine fin c τ2 _ (y1.trans y2) (by rw [wayP_leaf (by omega), listAt_list g2]; rfl) fun τ' h => ?_
    ((try simp only [e_table, e_intT, e_int, e_bool, e_none, e_str, e_var, e_bin, e_neg, n_int, e_not, e_cmp, e_and, e_or, e_ite, e_sub, e_slice, e_list, e_tuple, e_call, e_ucall, e_meth, e_comp, t_not, t_and, t_or, t_cmp, t_var, t_sub, t_call, t_ucall, s_expr, s_assign, s_setitem, s_aug, s_augi, s_ifs, s_while, s_for, s_ret, s_brk, s_cont, ss_nil, c_range1, c_range2, c_range3, i_rng, i_ref, i_tup, i_enm, i_rev, bt_name, bt_tup, look_zero, look_succ, r_next, r_ret, sa_nil, sa_cons, es_nil, es_cons, o_none, o_some, ts_nil, ts_cons, c_lt, c_le, c_gt, c_ge, c_eq, c_ne, b_add, b_sub, b_mul, b_div, b_mod, b_pow, b_shr, a_add, a_mul, t_bool, t_int, List.map, List.cons_append, List.nil_append, List.getElem?_cons_succ, List.getElem?_cons_zero, List.set_cons_succ, List.set_cons_zero, frOf]); (repeat (first | with_reducible refine qx_next ?_ | with_reducible refine qx_cont ?_ | with_reducible refine qx_brk ?_ | with_reducible refine qx_nil ?_ | with_reducible refine q_nextI ?_ | with_reducible refine q_retI ?_ | with_reducible refine q_contI ?_ | with_reducible refine q_brkI ?_ | with_reducible refine ss_nilI ?_ | rw [q_next] | rw [q_ret] | rw [q_cont] | rw [q_brk] | rw [ss_nil])); (try simp only [r_next, r_ret]))
    exact h _ _ _
end
theorem ways_v (Φ : Fns) (h2 : ∀ args Q σ, kindC args Q σ → Φ 2 args Q σ) (h3 : ∀ args Q σ, wordsC args Q σ → Φ 3 args Q σ) (args : List V) (Q : V → Hp → Prop) (σ : Hp) (F : Frm) (h : waysC args Q σ) (hF : F = args.map some ++ [none, none, none, none, none]) : vSs Φ ps_ways (retV Q) F σ := by
  obtain ⟨a, xs, rfl, e, hx, q⟩ := h
  subst hF
  unfold ps_ways
  ((first | with_reducible refine gx_of ?_ | with_reducible refine go_cons ?_); ((try simp only [e_table, e_intT, e_int, e_bool, e_none, e_str, e_var, e_bin, e_neg, n_int, e_not, e_cmp, e_and, e_or, e_ite, e_sub, e_slice, e_list, e_tuple, e_call, e_ucall, e_meth, e_comp, t_not, t_and, t_or, t_cmp, t_var, t_sub, t_call, t_ucall, s_expr, s_assign, s_setitem, s_aug, s_augi, s_ifs, s_while, s_for, s_ret, s_brk, s_cont, ss_nil, c_range1, c_range2, c_range3, i_rng, i_ref, i_tup, i_enm, i_rev, bt_name, bt_tup, look_zero, look_succ, r_next, r_ret, sa_nil, sa_cons, es_nil, es_cons, o_none, o_some, ts_nil, ts_cons, c_lt, c_le, c_gt, c_ge, c_eq, c_ne, b_add, b_sub, b_mul, b_div, b_mod, b_pow, b_shr, a_add, a_mul, t_bool, t_int, List.map, List.cons_append, List.nil_append, List.getElem?_cons_succ, List.getElem?_cons_zero, List.set_cons_succ, List.set_cons_zero, frOf]); (repeat (first | with_reducible refine qx_next ?_ | with_reducible refine qx_cont ?_ | with_reducible refine qx_brk ?_ | with_reducible refine qx_nil ?_ | with_reducible refine q_nextI ?_ | with_reducible refine q_retI ?_ | with_reducible refine q_contI ?_ | with_reducible refine q_brkI ?_ | with_reducible refine ss_nilI ?_ | rw [q_next] | rw [q_ret] | rw [q_cont] | rw [q_brk] | rw [ss_nil])); (try simp only [r_next, r_ret])))
  intro d hd
  ((try simp only [e_table, e_intT, e_int, e_bool, e_none, e_str, e_var, e_bin, e_neg, n_int, e_not, e_cmp, e_and, e_or, e_ite, e_sub, e_slice, e_list, e_tuple, e_call, e_ucall, e_meth, e_comp, t_not, t_and, t_or, t_cmp, t_var, t_sub, t_call, t_ucall, s_expr, s_assign, s_setitem, s_aug, s_augi, s_ifs, s_while, s_for, s_ret, s_brk, s_cont, ss_nil, c_range1, c_range2, c_range3, i_rng, i_ref, i_tup, i_enm, i_rev, bt_name, bt_tup, look_zero, look_succ, r_next, r_ret, sa_nil, sa_cons, es_nil, es_cons, o_none, o_some, ts_nil, ts_cons, c_lt, c_le, c_gt, c_ge, c_eq, c_ne, b_add, b_sub, b_mul, b_div, b_mod, b_pow, b_shr, a_add, a_mul, t_bool, t_int, List.map, List.cons_append, List.nil_append, List.getElem?_cons_succ, List.getElem?_cons_zero, List.set_cons_succ, List.set_cons_zero, frOf]); (repeat (first | with_reducible refine qx_next ?_ | with_reducible refine qx_cont ?_ | with_reducible refine qx_brk ?_ | with_reducible refine qx_nil ?_ | with_reducible refine q_nextI ?_ | with_reducible refine q_retI ?_ | with_reducible refine q_contI ?_ | with_reducible refine q_brkI ?_ | with_reducible refine ss_nilI ?_ | rw [q_next] | rw [q_ret] | rw [q_cont] | rw [q_brk] | rw [ss_nil])); (try simp only [r_next, r_ret]))
  have hE0 := Ext.upd (.imap noMap 0) hd
  have hd0 : upd σ d (.imap noMap 0) d = some (.imap noMap 0) := upd_same _ _ _
  generalize upd σ d (.imap noMap 0) = σ0 at hE0 hd0
  ((first | with_reducible refine gx_of ?_ | with_reducible refine go_cons ?_); ((try simp only [e_table, e_intT, e_int, e_bool, e_none, e_str, e_var, e_bin, e_neg, n_int, e_not, e_cmp, e_and, e_or, e_ite, e_sub, e_slice, e_list, e_tuple, e_call, e_ucall, e_meth, e_comp, t_not, t_and, t_or, t_cmp, t_var, t_sub, t_call, t_ucall, s_expr, s_assign, s_setitem, s_aug, s_augi, s_ifs, s_while, s_for, s_ret, s_brk, s_cont, ss_nil, c_range1, c_range2, c_range3, i_rng, i_ref, i_tup, i_enm, i_rev, bt_name, bt_tup, look_zero, look_succ, r_next, r_ret, sa_nil, sa_cons, es_nil, es_cons, o_none, o_some, ts_nil, ts_cons, c_lt, c_le, c_gt, c_ge, c_eq, c_ne, b_add, b_sub, b_mul, b_div, b_mod, b_pow, b_shr, a_add, a_mul, t_bool, t_int, List.map, List.cons_append, List.nil_append, List.getElem?_cons_succ, List.getElem?_cons_zero, List.set_cons_succ, List.set_cons_zero, frOf]); (repeat (first | with_reducible refine qx_next ?_ | with_reducible refine qx_cont ?_ | with_reducible refine qx_brk ?_ | with_reducible refine qx_nil ?_ | with_reducible refine q_nextI ?_ | with_reducible refine q_retI ?_ | with_reducible refine q_contI ?_ | with_reducible refine q_brkI ?_ | with_reducible refine ss_nilI ?_ | rw [q_next] | rw [q_ret] | rw [q_cont] | rw [q_brk] | rw [ss_nil])); (try simp only [r_next, r_ret])))
  refine call_len (hE0.listAt e) ?_
  rw [List.length_map]
  ((try simp only [e_table, e_intT, e_int, e_bool, e_none, e_str, e_var, e_bin, e_neg, n_int, e_not, e_cmp, e_and, e_or, e_ite, e_sub, e_slice, e_list, e_tuple, e_call, e_ucall, e_meth, e_comp, t_not, t_and, t_or, t_cmp, t_var, t_sub, t_call, t_ucall, s_expr, s_assign, s_setitem, s_aug, s_augi, s_ifs, s_while, s_for, s_ret, s_brk, s_cont, ss_nil, c_range1, c_range2, c_range3, i_rng, i_ref, i_tup, i_enm, i_rev, bt_name, bt_tup, look_zero, look_succ, r_next, r_ret, sa_nil, sa_cons, es_nil, es_cons, o_none, o_some, ts_nil, ts_cons, c_lt, c_le, c_gt, c_ge, c_eq, c_ne, b_add, b_sub, b_mul, b_div, b_mod, b_pow, b_shr, a_add, a_mul, t_bool, t_int, List.map, List.cons_append, List.nil_append, List.getElem?_cons_succ, List.getElem?_cons_zero, List.set_cons_succ, List.set_cons_zero, frOf]); (repeat (first | with_reducible refine qx_next ?_ | with_reducible refine qx_cont ?_ | with_reducible refine qx_brk ?_ | with_reducible refine qx_nil ?_ | with_reducible refine q_nextI ?_ | with_reducible refine q_retI ?_ | with_reducible refine q_contI ?_ | with_reducible refine q_brkI ?_ | with_reducible refine ss_nilI ?_ | rw [q_next] | rw [q_ret] | rw [q_cont] | rw [q_brk] | rw [ss_nil])); (try simp only [r_next, r_ret]))
  refine ⟨by decide, ⟨.inr rfl, by omega, by decide⟩, ?_⟩
  have rl : rlen ((xs.length : Int) - 1) (-1) (-1) = xs.length := by unfold rlen; rw [if_neg (by decide)]; omega
  rw [rl]
  refine for_rule (xs := (List.range xs.length).map fun (i : Nat) => V.int ((xs.length : Int) - 1 + (i : Int) * (-1))) (fun k F τ => k ≤ xs.length ∧ ∃ m e2 e3 e4 e5, F = [some (.ref a), some (.ref d), e2, e3, e4, e5] ∧ Ext σ τ ∧ τ d = some (.imap m k) ∧ ∀ q, xs.length - k ≤ q → q < xs.length → WayAt xs τ m q) (yields_rng _ _ _ _) ?_ ?_ ?_
  · exact ⟨Nat.zero_le _, noMap, none, none, none, none, rfl, hE0, hd0, fun q h1 h2 => by omega⟩
  · rintro k x F τ hx' ⟨hk0, m, e2, e3, e4, e5, rfl, hE, hdm, hw⟩ K k1 k2 k3 k4
    have hk : k < xs.length := by have := lt_of_some hx'; simpa using this
    have hx2 : x = .int ((xs.length - 1 - k : Nat) : Int) := by simp [hk] at hx'; rw [← hx']; congr 1; omega
    subst hx2
    ((try simp only [e_table, e_intT, e_int, e_bool, e_none, e_str, e_var, e_bin, e_neg, n_int, e_not, e_cmp, e_and, e_or, e_ite, e_sub, e_slice, e_list, e_tuple, e_call, e_ucall, e_meth, e_comp, t_not, t_and, t_or, t_cmp, t_var, t_sub, t_call, t_ucall, s_expr, s_assign, s_setitem, s_aug, s_augi, s_ifs, s_while, s_for, s_ret, s_brk, s_cont, ss_nil, c_range1, c_range2, c_range3, i_rng, i_ref, i_tup, i_enm, i_rev, bt_name, bt_tup, look_zero, look_succ, r_next, r_ret, sa_nil, sa_cons, es_nil, es_cons, o_none, o_some, ts_nil, ts_cons, c_lt, c_le, c_gt, c_ge, c_eq, c_ne, b_add, b_sub, b_mul, b_div, b_mod, b_pow, b_shr, a_add, a_mul, t_bool, t_int, List.map, List.cons_append, List.nil_append, List.getElem?_cons_succ, List.getElem?_cons_zero, List.set_cons_succ, List.set_cons_zero, frOf]); (repeat (first | with_reducible refine qx_next ?_ | with_reducible refine qx_cont ?_ | with_reducible refine qx_brk ?_ | with_reducible refine qx_nil ?_ | with_reducible refine q_nextI ?_ | with_reducible refine q_retI ?_ | with_reducible refine q_contI ?_ | with_reducible refine q_brkI ?_ | with_reducible refine ss_nilI ?_ | rw [q_next] | rw [q_ret] | rw [q_cont] | rw [q_brk] | rw [ss_nil])); (try simp only [r_next, r_ret]))
    refine waysB_v h2 h3 (hE.listAt e) hx (by omega) hdm (by omega) (fun q h1 h2 => hw q (by omega) h2) fun m' σ' e3 e4 e5 hd' hw' hx' => ?_
    refine k1 _ _ ⟨by omega, m', _, _, _, _, rfl, hx' σ hE hd, hd', fun q h1 h2 => hw' q (by omega) h2⟩
  · rintro F τ ⟨hk0, m, e2, e3, e4, e5, rfl, hE, hdm, hw⟩
    rw [List.length_map, List.length_range] at hw hdm
    ((try simp only [e_table, e_intT, e_int, e_bool, e_none, e_str, e_var, e_bin, e_neg, n_int, e_not, e_cmp, e_and, e_or, e_ite, e_sub, e_slice, e_list, e_tuple, e_call, e_ucall, e_meth, e_comp, t_not, t_and, t_or, t_cmp, t_var, t_sub, t_call, t_ucall, s_expr, s_assign, s_setitem, s_aug, s_augi, s_ifs, s_while, s_for, s_ret, s_brk, s_cont, ss_nil, c_range1, c_range2, c_range3, i_rng, i_ref, i_tup, i_enm, i_rev, bt_name, bt_tup, look_zero, look_succ, r_next, r_ret, sa_nil, sa_cons, es_nil, es_cons, o_none, o_some, ts_nil, ts_cons, c_lt, c_le, c_gt, c_ge, c_eq, c_ne, b_add, b_sub, b_mul, b_div, b_mod, b_pow, b_shr, a_add, a_mul, t_bool, t_int, List.map, List.cons_append, List.nil_append, List.getElem?_cons_succ, List.getElem?_cons_zero, List.set_cons_succ, List.set_cons_zero, frOf]); (repeat (first | with_reducible refine qx_next ?_ | with_reducible refine qx_cont ?_ | with_reducible refine qx_brk ?_ | with_reducible refine qx_nil ?_ | with_reducible refine q_nextI ?_ | with_reducible refine q_retI ?_ | with_reducible refine q_contI ?_ | with_reducible refine q_brkI ?_ | with_reducible refine ss_nilI ?_ | rw [q_next] | rw [q_ret] | rw [q_cont] | rw [q_brk] | rw [ss_nil])); (try simp only [r_next, r_ret]))
    ((first | with_reducible refine gx_of ?_ | with_reducible refine go_cons ?_); ((try simp only [e_table, e_intT, e_int, e_bool, e_none, e_str, e_var, e_bin, e_neg, n_int, e_not, e_cmp, e_and, e_or, e_ite, e_sub, e_slice, e_list, e_tuple, e_call, e_ucall, e_meth, e_comp, t_not, t_and, t_or, t_cmp, t_var, t_sub, t_call, t_ucall, s_expr, s_assign, s_setitem, s_aug, s_augi, s_ifs, s_while, s_for, s_ret, s_brk, s_cont, ss_nil, c_range1, c_range2, c_range3, i_rng, i_ref, i_tup, i_enm, i_rev, bt_name, bt_tup, look_zero, look_succ, r_next, r_ret, sa_nil, sa_cons, es_nil, es_cons, o_none, o_some, ts_nil, ts_cons, c_lt, c_le, c_gt, c_ge, c_eq, c_ne, b_add, b_sub, b_mul, b_div, b_mod, b_pow, b_shr, a_add, a_mul, t_bool, t_int, List.map, List.cons_append, List.nil_append, List.getElem?_cons_succ, List.getElem?_cons_zero, List.set_cons_succ, List.set_cons_zero, frOf]); (repeat (first | with_reducible refine qx_next ?_ | with_reducible refine qx_cont ?_ | with_reducible refine qx_brk ?_ | with_reducible refine qx_nil ?_ | with_reducible refine q_nextI ?_ | with_reducible refine q_retI ?_ | with_reducible refine q_contI ?_ | with_reducible refine q_brkI ?_ | with_reducible refine ss_nilI ?_ | rw [q_next] | rw [q_ret] | rw [q_cont] | rw [q_brk] | rw [ss_nil])); (try simp only [r_next, r_ret])))
    exact q d τ m _ hE hd hdm fun p hp => hw p (by omega) hp

/-! Vc02e -/
/-! the walk of law 02 -/
noncomputable def letter (k : Nat) : Str := ⟨#[97 + k]⟩
noncomputable def itemT (x : Int) : Th := if x.fmod 6 = 5 then .s (letter ((x.fdiv 6).fmod 3).toNat) else .i (if x.fmod 6 = 4 then (x.fdiv 6).fmod 3 else x.fdiv 6)
noncomputable def okT (t : Th) : Prop := match t with | .i _ => True | .s w => PyData.strOk w = true
theorem fmod3 (x : Int) : ∃ k : Nat, x.fmod 3 = k ∧ k < 3 := by
  have a := Int.fmod_nonneg_of_pos x (show (0:Int) < 3 by decide)
  have b := Int.fmod_lt_of_pos x (show (0:Int) < 3 by decide)
  exact ⟨(x.fmod 3).toNat, by omega, by omega⟩
theorem okT_item (x : Int) : okT (itemT x) := by
  unfold itemT
  split
  · obtain ⟨k, e, h⟩ := fmod3 (x.fdiv 6)
    rw [e]
    have : k = 0 ∨ k = 1 ∨ k = 2 := by omega
    rcases this with rfl | rfl | rfl
    · exact (show PyData.strOk (letter 0) = true by decide +kernel)
    · exact (show PyData.strOk (letter 1) = true by decide +kernel)
    · exact (show PyData.strOk (letter 2) = true by decide +kernel)
  · trivial
theorem abc_at {σ : Hp} {Q : V → Hp → Prop} {k : Nat} (h : k < 3) (q : Q (.str (letter k)) σ) : opSub (.str (Str.ofString "abc")) (.int k) Q σ := by
  refine str_at (c := 97 + k) (by omega) ?_ q
  have : k = 0 ∨ k = 1 ∨ k = 2 := by omega
  rcases this with rfl | rfl | rfl <;> decide
noncomputable def datT (t : Th) : PyData := match t with | .i x => .int x | .s w => .str w
theorem dats_th {σ : Hp} : ∀ {xs : List Th}, (∀ t ∈ xs, okT t) → Dats σ (xs.map Th.v) (xs.map datT)
  | [], _ => .nil
  | t :: xs, h => by
    have := dats_th (σ := σ) (xs := xs) fun t m => h t (.tail _ m)
    have h0 := h t (.head _)
    cases t with
    | i x => exact .cons (.int x) this
    | s w => exact .cons (.str w h0) this
theorem depth_th : ∀ xs : List Th, PyData.depthAll (xs.map datT) ≤ 40
  | [] => by simp [PyData.depthAll]
  | t :: xs => by
    have := depth_th xs
    cases t <;> simp [PyData.depthAll, PyData.depth, datT] <;> omega
theorem dat_th {σ : Hp} {a : Addr} {xs : List Th} (h : ∀ t ∈ xs, okT t) (e : listAt σ a = some (xs.map Th.v)) : Dat σ (.ref a) (.list (xs.map datT)) := .list e (dats_th h)
theorem ne_th {σ : Hp} {a b : Addr} {xs : List Th} {Q : V → Hp → Prop} (h : ∀ t ∈ xs, okT t) (ha : listAt σ a = some (xs.map Th.v)) (hb : listAt σ b = some (xs.map Th.v)) (q : Q (.bool false) σ) : opCmp .NotEq (.ref a) (.ref b) Q σ := by
  refine ne_dat (dat_th h ha) (dat_th h hb) (by have := depth_th xs; simp only [PyData.depth]; omega) ?_
  rw [PySem.SeqAt.eqv_refl _ (Dat.lay (dat_th h ha))]; exact q
theorem okT_layT : ∀ (ps : List Nat) (ts xs : List Th), (∀ t ∈ ts, okT t) → (∀ t ∈ xs, okT t) → ∀ t ∈ layT xs ps ts, okT t
  | [], ts, xs, _, h => by simpa [layT] using h
  | p :: ps, [], xs, _, h => by simpa [layT] using h
  | p :: ps, u :: ts, xs, h1, h2 => by
    unfold layT
    refine okT_layT ps ts _ (fun t m => h1 t (.tail _ m)) fun t m => ?_
    rcases List.mem_or_eq_of_mem_set m with m | rfl
    · exact h2 t m
    · exact h1 _ (.head _)
theorem okT_left {r l : List Th} {w d : Option Str} (h : LeftR r w l d) (hr : ∀ t ∈ r, okT t) : ∀ t ∈ l, okT t := by
  cases h with
  | no r y w =>
    intro t m
    rcases List.mem_append.mp m with m | m
    · exact hr t (List.mem_of_mem_tail m)
    · obtain rfl := List.mem_singleton.mp m; exact hr _ (by simp)
  | go x t s h h2 =>
    intro u m
    have hx := hr x (.head _)
    have ht : ∀ u ∈ t, okT u := fun u m => hr u (.tail _ m)
    unfold leftT at m
    split at m
    · rcases List.mem_append.mp m with m | m
      · exact ht u (List.mem_of_mem_take m)
      · rcases List.mem_cons.mp m with rfl | m
        · exact hx
        · exact ht u (List.mem_of_mem_drop m)
    · rcases List.mem_append.mp m with m | m
      · exact ht u (List.mem_of_mem_take m)
      · rcases List.mem_cons.mp m with rfl | m
        · cases hd : t.drop s with
          | nil => exact hx
          | cons y us => exact ht _ (List.mem_of_mem_drop (by rw [hd]; exact .head _))
        · exact ht u (List.mem_of_mem_drop m)
theorem okT_row {xs : List Th} (h : ∀ t ∈ xs, okT t) (way : List Nat) : ∀ t ∈ rowT xs way, okT t := by
  intro t m
  obtain ⟨p, _, rfl⟩ := List.mem_map.mp m
  rcases Nat.lt_or_ge p xs.length with hp | hp
  · rw [List.getD_eq_getElem?_getD, List.getElem?_eq_getElem hp]; exact h _ (List.getElem_mem hp)
  · rw [List.getD_eq_getElem?_getD, List.getElem?_eq_none hp]; exact trivial
theorem wayT_words (xs : List Th) : ∀ (f p : Nat) (s : Str), (wayT xs f p).2 = some s → s ≠ Str.ofString ""
  | 0, p, s, h => by simp [wayT] at h
  | f + 1, p, s, h => by
    unfold wayT at h
    split at h
    · split at h
      · cases h; exact refuse_ne _ _
      · exact wayT_words xs f _ s h
    · cases h
/-! first the items -/
noncomputable def ps02a : PS := .for (.name 2) .plain (.bin .Add (.comp [none, none, some 0] (.call .sum [(.slice (.var 2) (some (.var 1)) none (some (.int 30)))]) (.name 1) .plain (.call .range [(.call .min [(.int 30), (.call .len [(.var 0)])])]) []) (.list [(.int 30), (.int 17), (.int 11), (.int 24), (.int 5), (.int 16)])) [.ifs (.cmp .Eq (.bin .Mod (.var 2) (.int 6)) (.int 5)) [.expr (.meth .append (.var 1) [(.sub (.str (Str.ofString "abc")) (.bin .Mod (.bin .FloorDiv (.var 2) (.int 6)) (.int 3)))])] [.expr (.meth .append (.var 1) [(.ite (.cmp .Eq (.bin .Mod (.var 2) (.int 6)) (.int 4)) (.bin .Mod (.bin .FloorDiv (.var 2) (.int 6)) (.int 3)) (.bin .FloorDiv (.var 2) (.int 6)))])]]
abbrev Fr02 (l : Addr) (it : Addr) (e2 e3 e4 e5 e6 e7 e8 e9 e10 e11 e12 e13 : Option V) : Frm := [some (.ref l), some (.ref it), e2, e3, e4, e5, e6, e7, e8, e9, e10, e11, e12, e13]
theorem items_v {Φ : Fns} {R : Fl → Frm → Hp → Prop} {l it : Addr} {ns : List Int} {σ : Hp} (hns : ns.length ≤ 63) (hl : listAt σ l = some (ns.map .int)) (hi : σ it = some (.list []))
    (q : ∀ e2 (xs : List Th) τ, 6 ≤ xs.length → xs.length ≤ 36 → (∀ t ∈ xs, okT t) → τ it = some (.list (xs.map Th.v)) → R .next (Fr02 l it e2 none none none none none none none none none none none) τ) :
    vS Φ ps02a R (Fr02 l it none none none none none none none none none none none none) σ := by
  have hbn : ns.length ≤ BIG := big_of (by omega)
  unfold ps02a
  ((try simp only [e_table, e_intT, e_int, e_bool, e_none, e_str, e_var, e_bin, e_neg, n_int, e_not, e_cmp, e_and, e_or, e_ite, e_sub, e_slice, e_list, e_tuple, e_call, e_ucall, e_meth, e_comp, t_not, t_and, t_or, t_cmp, t_var, t_sub, t_call, t_ucall, s_expr, s_assign, s_setitem, s_aug, s_augi, s_ifs, s_while, s_for, s_ret, s_brk, s_cont, ss_nil, c_range1, c_range2, c_range3, i_rng, i_ref, i_tup, i_enm, i_rev, bt_name, bt_tup, look_zero, look_succ, r_next, r_ret, sa_nil, sa_cons, es_nil, es_cons, o_none, o_some, ts_nil, ts_cons, c_lt, c_le, c_gt, c_ge, c_eq, c_ne, b_add, b_sub, b_mul, b_div, b_mod, b_pow, b_shr, a_add, a_mul, t_bool, t_int, List.map, List.cons_append, List.nil_append, List.getElem?_cons_succ, List.getElem?_cons_zero, List.set_cons_succ, List.set_cons_zero, frOf]); (repeat (first | with_reducible refine qx_next ?_ | with_reducible refine qx_cont ?_ | with_reducible refine qx_brk ?_ | with_reducible refine qx_nil ?_ | with_reducible refine q_nextI ?_ | with_reducible refine q_retI ?_ | with_reducible refine q_contI ?_ | with_reducible refine q_brkI ?_ | with_reducible refine ss_nilI ?_ | rw [q_next] | rw [q_ret] | rw [q_cont] | rw [q_brk] | rw [ss_nil])); (try simp only [r_next, r_ret]))
  refine call_len hl ?_
  rw [List.length_map]
  refine call_min ?_
  generalize hm : (if (ns.length : Int) < 30 then (ns.length : Int) else 30) = m
  have hm1 : 0 ≤ m ∧ m ≤ 30 := by subst hm; split <;> omega
  ((try simp only [e_table, e_intT, e_int, e_bool, e_none, e_str, e_var, e_bin, e_neg, n_int, e_not, e_cmp, e_and, e_or, e_ite, e_sub, e_slice, e_list, e_tuple, e_call, e_ucall, e_meth, e_comp, t_not, t_and, t_or, t_cmp, t_var, t_sub, t_call, t_ucall, s_expr, s_assign, s_setitem, s_aug, s_augi, s_ifs, s_while, s_for, s_ret, s_brk, s_cont, ss_nil, c_range1, c_range2, c_range3, i_rng, i_ref, i_tup, i_enm, i_rev, bt_name, bt_tup, look_zero, look_succ, r_next, r_ret, sa_nil, sa_cons, es_nil, es_cons, o_none, o_some, ts_nil, ts_cons, c_lt, c_le, c_gt, c_ge, c_eq, c_ne, b_add, b_sub, b_mul, b_div, b_mod, b_pow, b_shr, a_add, a_mul, t_bool, t_int, List.map, List.cons_append, List.nil_append, List.getElem?_cons_succ, List.getElem?_cons_zero, List.set_cons_succ, List.set_cons_zero, frOf]); (repeat (first | with_reducible refine qx_next ?_ | with_reducible refine qx_cont ?_ | with_reducible refine qx_brk ?_ | with_reducible refine qx_nil ?_ | with_reducible refine q_nextI ?_ | with_reducible refine q_retI ?_ | with_reducible refine q_contI ?_ | with_reducible refine q_brkI ?_ | with_reducible refine ss_nilI ?_ | rw [q_next] | rw [q_ret] | rw [q_cont] | rw [q_brk] | rw [ss_nil])); (try simp only [r_next, r_ret]))
  refine ⟨rok_of (by omega) (by omega) (by omega) (by omega), ?_⟩
  have rl : rlen 0 m 1 = m.toNat := by unfold rlen; simp
  rw [rl]
  refine comp_rule (xs := (List.range m.toNat).map fun (i : Nat) => V.int (0 + (i : Int) * 1)) (fun v => match v with | .int i => some (.int (pickI ns (some i) none (some 30)).sum) | _ => none) (big_of (by simp; omega)) (yields_rng _ _ _ _) ?_ ?_
  · intro y my τ hE K N hK hN
    obtain ⟨i, mi, rfl⟩ := List.mem_map.mp my
    ((try simp only [e_table, e_intT, e_int, e_bool, e_none, e_str, e_var, e_bin, e_neg, n_int, e_not, e_cmp, e_and, e_or, e_ite, e_sub, e_slice, e_list, e_tuple, e_call, e_ucall, e_meth, e_comp, t_not, t_and, t_or, t_cmp, t_var, t_sub, t_call, t_ucall, s_expr, s_assign, s_setitem, s_aug, s_augi, s_ifs, s_while, s_for, s_ret, s_brk, s_cont, ss_nil, c_range1, c_range2, c_range3, i_rng, i_ref, i_tup, i_enm, i_rev, bt_name, bt_tup, look_zero, look_succ, r_next, r_ret, sa_nil, sa_cons, es_nil, es_cons, o_none, o_some, ts_nil, ts_cons, c_lt, c_le, c_gt, c_ge, c_eq, c_ne, b_add, b_sub, b_mul, b_div, b_mod, b_pow, b_shr, a_add, a_mul, t_bool, t_int, List.map, List.cons_append, List.nil_append, List.getElem?_cons_succ, List.getElem?_cons_zero, List.set_cons_succ, List.set_cons_zero, frOf]); (repeat (first | with_reducible refine qx_next ?_ | with_reducible refine qx_cont ?_ | with_reducible refine qx_brk ?_ | with_reducible refine qx_nil ?_ | with_reducible refine q_nextI ?_ | with_reducible refine q_retI ?_ | with_reducible refine q_contI ?_ | with_reducible refine q_brkI ?_ | with_reducible refine ss_nilI ?_ | rw [q_next] | rw [q_ret] | rw [q_cont] | rw [q_brk] | rw [ss_nil])); (try simp only [r_next, r_ret]))
    simp only [if_true]
    refine slice_sum (hE.listAt hl) hbn (by omega) (by omega) fun τ' x' => ?_
    exact hK _ _ rfl x'
  · intro τ hE c hc
    have e1 : ((List.range m.toNat).map fun (i : Nat) => V.int (0 + (i : Int) * 1)).filterMap (fun v => match v with | .int i => some (V.int (pickI ns (some i) none (some 30)).sum) | _ => none) = ((List.range m.toNat).map fun (i : Nat) => (pickI ns (some (0 + (i : Int) * 1)) none (some 30)).sum).map V.int := by
      rw [List.filterMap_map, List.map_map]
      exact fm_some _ fun t _ => rfl
    rw [e1]
    generalize hss : ((List.range m.toNat).map fun (i : Nat) => (pickI ns (some (0 + (i : Int) * 1)) none (some 30)).sum) = ss
    have hsl : ss.length ≤ 30 := by subst hss; simp; omega
    have hE1 := hE.trans (Ext.upd (.list (ss.map V.int)) hc)
    have hc1 : listAt (upd τ c (.list (ss.map V.int))) c = some (ss.map V.int) := listAt_list (upd_same _ _ _)
    generalize upd τ c (.list (ss.map V.int)) = τ1 at hE1 hc1
    ((try simp only [e_table, e_intT, e_int, e_bool, e_none, e_str, e_var, e_bin, e_neg, n_int, e_not, e_cmp, e_and, e_or, e_ite, e_sub, e_slice, e_list, e_tuple, e_call, e_ucall, e_meth, e_comp, t_not, t_and, t_or, t_cmp, t_var, t_sub, t_call, t_ucall, s_expr, s_assign, s_setitem, s_aug, s_augi, s_ifs, s_while, s_for, s_ret, s_brk, s_cont, ss_nil, c_range1, c_range2, c_range3, i_rng, i_ref, i_tup, i_enm, i_rev, bt_name, bt_tup, look_zero, look_succ, r_next, r_ret, sa_nil, sa_cons, es_nil, es_cons, o_none, o_some, ts_nil, ts_cons, c_lt, c_le, c_gt, c_ge, c_eq, c_ne, b_add, b_sub, b_mul, b_div, b_mod, b_pow, b_shr, a_add, a_mul, t_bool, t_int, List.map, List.cons_append, List.nil_append, List.getElem?_cons_succ, List.getElem?_cons_zero, List.set_cons_succ, List.set_cons_zero, frOf]); (repeat (first | with_reducible refine qx_next ?_ | with_reducible refine qx_cont ?_ | with_reducible refine qx_brk ?_ | with_reducible refine qx_nil ?_ | with_reducible refine q_nextI ?_ | with_reducible refine q_retI ?_ | with_reducible refine q_contI ?_ | with_reducible refine q_brkI ?_ | with_reducible refine ss_nilI ?_ | rw [q_next] | rw [q_ret] | rw [q_cont] | rw [q_brk] | rw [ss_nil])); (try simp only [r_next, r_ret]))
    refine newL_of (xs := ([30, 17, 11, 24, 5, 16] : List Int).map V.int) (big_of (n := 6) (by decide)) fun b τ2 x2 f2 g2 => ?_
    refine add_lists (x2.listAt hc1) (listAt_list g2) ?_
    rw [← List.map_append]
    refine newL_of (by rw [List.length_map, List.length_append]; exact big_of (by simp; omega)) fun nl τ3 x3 f3 g3 => ?_
    have h6 : 6 ≤ (ss ++ [30, 17, 11, 24, 5, 16]).length ∧ (ss ++ [30, 17, 11, 24, 5, 16]).length ≤ 36 := by simp; omega
    generalize ss ++ [30, 17, 11, 24, 5, 16] = zs at g3 h6
    have hi3 := ((hE1.trans x2).trans x3) _ _ hi
    have nn : nl ≠ it := by rintro rfl; have := (hE1.trans x2) _ _ hi; rw [this] at f3; cases f3
    ((try simp only [e_table, e_intT, e_int, e_bool, e_none, e_str, e_var, e_bin, e_neg, n_int, e_not, e_cmp, e_and, e_or, e_ite, e_sub, e_slice, e_list, e_tuple, e_call, e_ucall, e_meth, e_comp, t_not, t_and, t_or, t_cmp, t_var, t_sub, t_call, t_ucall, s_expr, s_assign, s_setitem, s_aug, s_augi, s_ifs, s_while, s_for, s_ret, s_brk, s_cont, ss_nil, c_range1, c_range2, c_range3, i_rng, i_ref, i_tup, i_enm, i_rev, bt_name, bt_tup, look_zero, look_succ, r_next, r_ret, sa_nil, sa_cons, es_nil, es_cons, o_none, o_some, ts_nil, ts_cons, c_lt, c_le, c_gt, c_ge, c_eq, c_ne, b_add, b_sub, b_mul, b_div, b_mod, b_pow, b_shr, a_add, a_mul, t_bool, t_int, List.map, List.cons_append, List.nil_append, List.getElem?_cons_succ, List.getElem?_cons_zero, List.set_cons_succ, List.set_cons_zero, frOf]); (repeat (first | with_reducible refine qx_next ?_ | with_reducible refine qx_cont ?_ | with_reducible refine qx_brk ?_ | with_reducible refine qx_nil ?_ | with_reducible refine q_nextI ?_ | with_reducible refine q_retI ?_ | with_reducible refine q_contI ?_ | with_reducible refine q_brkI ?_ | with_reducible refine ss_nilI ?_ | rw [q_next] | rw [q_ret] | rw [q_cont] | rw [q_brk] | rw [ss_nil])); (try simp only [r_next, r_ret]))
    refine ⟨⟨_, listAt_list g3⟩, ?_⟩
    refine for_rule (xs := zs.map V.int) (fun k F τ => k ≤ zs.length ∧ ∃ e2, F = Fr02 l it e2 none none none none none none none none none none none ∧ τ it = some (.list (((zs.take k).map itemT).map Th.v)) ∧ listAt τ nl = some (zs.map V.int)) (yields_lst (fun τ h => by obtain ⟨_, _, _, _, _, _, h⟩ := h; exact h) _ 0 rfl) ?_ ?_ ?_
    · exact ⟨Nat.zero_le _, none, rfl, hi3, listAt_list g3⟩
    · rintro k x F τ hx ⟨hk0, e2, rfl, hit, hnl⟩ K k1 k2 k3 k4
      have hk : k < zs.length := by have := lt_of_some hx; simpa using this
      obtain ⟨z, ez, rfl⟩ : ∃ z, zs[k]? = some z ∧ x = .int z := by
        rw [List.getElem?_map, List.getElem?_eq_getElem hk] at hx
        cases hx; exact ⟨_, List.getElem?_eq_getElem hk, rfl⟩
      have nxt : ((zs.take k).map itemT).map Th.v ++ [(itemT z).v] = ((zs.take (k + 1)).map itemT).map Th.v := by
        rw [List.take_add_one, ez]; simp
      have hlen : (((zs.take k).map itemT).map Th.v).length < BIG := by rw [List.length_map, List.length_map, List.length_take]; unfold BIG; omega
      have fin : ∀ t, itemT z = t → ∀ P : V → Hp → Prop, (∀ τ, K .next (Fr02 l it (some (.int z)) none none none none none none none none none none none) τ → P .none τ) → opMeth .append (.ref it) [t.v] P τ := fun t et P hP => by
        refine m_append hit hlen (hP _ ?_)
        rw [← et, nxt]
        exact k1 _ _ ⟨by omega, _, rfl, upd_same _ _ _, listAt_off hnl nn⟩
      unfold Fr02 at *
      ((try simp only [e_table, e_intT, e_int, e_bool, e_none, e_str, e_var, e_bin, e_neg, n_int, e_not, e_cmp, e_and, e_or, e_ite, e_sub, e_slice, e_list, e_tuple, e_call, e_ucall, e_meth, e_comp, t_not, t_and, t_or, t_cmp, t_var, t_sub, t_call, t_ucall, s_expr, s_assign, s_setitem, s_aug, s_augi, s_ifs, s_while, s_for, s_ret, s_brk, s_cont, ss_nil, c_range1, c_range2, c_range3, i_rng, i_ref, i_tup, i_enm, i_rev, bt_name, bt_tup, look_zero, look_succ, r_next, r_ret, sa_nil, sa_cons, es_nil, es_cons, o_none, o_some, ts_nil, ts_cons, c_lt, c_le, c_gt, c_ge, c_eq, c_ne, b_add, b_sub, b_mul, b_div, b_mod, b_pow, b_shr, a_add, a_mul, t_bool, t_int, List.map, List.cons_append, List.nil_append, List.getElem?_cons_succ, List.getElem?_cons_zero, List.set_cons_succ, List.set_cons_zero, frOf]); (repeat (first | with_reducible refine qx_next ?_ | with_reducible refine qx_cont ?_ | with_reducible refine qx_brk ?_ | with_reducible refine qx_nil ?_ | with_reducible refine q_nextI ?_ | with_reducible refine q_retI ?_ | with_reducible refine q_contI ?_ | with_reducible refine q_brkI ?_ | with_reducible refine ss_nilI ?_ | rw [q_next] | rw [q_ret] | rw [q_cont] | rw [q_brk] | rw [ss_nil])); (try simp only [r_next, r_ret]))
      ((first | with_reducible refine gx_of ?_ | with_reducible refine go_cons ?_); ((try simp only [e_table, e_intT, e_int, e_bool, e_none, e_str, e_var, e_bin, e_neg, n_int, e_not, e_cmp, e_and, e_or, e_ite, e_sub, e_slice, e_list, e_tuple, e_call, e_ucall, e_meth, e_comp, t_not, t_and, t_or, t_cmp, t_var, t_sub, t_call, t_ucall, s_expr, s_assign, s_setitem, s_aug, s_augi, s_ifs, s_while, s_for, s_ret, s_brk, s_cont, ss_nil, c_range1, c_range2, c_range3, i_rng, i_ref, i_tup, i_enm, i_rev, bt_name, bt_tup, look_zero, look_succ, r_next, r_ret, sa_nil, sa_cons, es_nil, es_cons, o_none, o_some, ts_nil, ts_cons, c_lt, c_le, c_gt, c_ge, c_eq, c_ne, b_add, b_sub, b_mul, b_div, b_mod, b_pow, b_shr, a_add, a_mul, t_bool, t_int, List.map, List.cons_append, List.nil_append, List.getElem?_cons_succ, List.getElem?_cons_zero, List.set_cons_succ, List.set_cons_zero, frOf]); (repeat (first | with_reducible refine qx_next ?_ | with_reducible refine qx_cont ?_ | with_reducible refine qx_brk ?_ | with_reducible refine qx_nil ?_ | with_reducible refine q_nextI ?_ | with_reducible refine q_retI ?_ | with_reducible refine q_contI ?_ | with_reducible refine q_brkI ?_ | with_reducible refine ss_nilI ?_ | rw [q_next] | rw [q_ret] | rw [q_cont] | rw [q_brk] | rw [ss_nil])); (try simp only [r_next, r_ret])))
      refine ⟨by decide, ?_⟩
      obtain ⟨r, er, hr⟩ := fmod3 (z.fdiv 6)
      by_cases h5 : z.fmod 6 = 5
      · rw [show (z.fmod 6 == 5) = true by rw [h5]; rfl]
        simp only [if_true]
        ((first | with_reducible refine gx_of ?_ | with_reducible refine go_cons ?_); ((try simp only [e_table, e_intT, e_int, e_bool, e_none, e_str, e_var, e_bin, e_neg, n_int, e_not, e_cmp, e_and, e_or, e_ite, e_sub, e_slice, e_list, e_tuple, e_call, e_ucall, e_meth, e_comp, t_not, t_and, t_or, t_cmp, t_var, t_sub, t_call, t_ucall, s_expr, s_assign, s_setitem, s_aug, s_augi, s_ifs, s_while, s_for, s_ret, s_brk, s_cont, ss_nil, c_range1, c_range2, c_range3, i_rng, i_ref, i_tup, i_enm, i_rev, bt_name, bt_tup, look_zero, look_succ, r_next, r_ret, sa_nil, sa_cons, es_nil, es_cons, o_none, o_some, ts_nil, ts_cons, c_lt, c_le, c_gt, c_ge, c_eq, c_ne, b_add, b_sub, b_mul, b_div, b_mod, b_pow, b_shr, a_add, a_mul, t_bool, t_int, List.map, List.cons_append, List.nil_append, List.getElem?_cons_succ, List.getElem?_cons_zero, List.set_cons_succ, List.set_cons_zero, frOf]); (repeat (first | with_reducible refine qx_next ?_ | with_reducible refine qx_cont ?_ | with_reducible refine qx_brk ?_ | with_reducible refine qx_nil ?_ | with_reducible refine q_nextI ?_ | with_reducible refine q_retI ?_ | with_reducible refine q_contI ?_ | with_reducible refine q_brkI ?_ | with_reducible refine ss_nilI ?_ | rw [q_next] | rw [q_ret] | rw [q_cont] | rw [q_brk] | rw [ss_nil])); (try simp only [r_next, r_ret])))
        refine ⟨⟨it, _, rfl, hit⟩, by decide, by decide, ?_⟩
        rw [er]
        refine abc_at hr ?_
        refine fin (.s (letter r)) (by unfold itemT; rw [if_pos h5, er]; rfl) _ fun τ h => ?_
        ((try simp only [e_table, e_intT, e_int, e_bool, e_none, e_str, e_var, e_bin, e_neg, n_int, e_not, e_cmp, e_and, e_or, e_ite, e_sub, e_slice, e_list, e_tuple, e_call, e_ucall, e_meth, e_comp, t_not, t_and, t_or, t_cmp, t_var, t_sub, t_call, t_ucall, s_expr, s_assign, s_setitem, s_aug, s_augi, s_ifs, s_while, s_for, s_ret, s_brk, s_cont, ss_nil, c_range1, c_range2, c_range3, i_rng, i_ref, i_tup, i_enm, i_rev, bt_name, bt_tup, look_zero, look_succ, r_next, r_ret, sa_nil, sa_cons, es_nil, es_cons, o_none, o_some, ts_nil, ts_cons, c_lt, c_le, c_gt, c_ge, c_eq, c_ne, b_add, b_sub, b_mul, b_div, b_mod, b_pow, b_shr, a_add, a_mul, t_bool, t_int, List.map, List.cons_append, List.nil_append, List.getElem?_cons_succ, List.getElem?_cons_zero, List.set_cons_succ, List.set_cons_zero, frOf]); (repeat (first | with_reducible refine qx_next ?_ | with_reducible refine qx_cont ?_ | with_reducible refine qx_brk ?_ | with_reducible refine qx_nil ?_ | with_reducible refine q_nextI ?_ | with_reducible refine q_retI ?_ | with_reducible refine q_contI ?_ | with_reducible refine q_brkI ?_ | with_reducible refine ss_nilI ?_ | rw [q_next] | rw [q_ret] | rw [q_cont] | rw [q_brk] | rw [ss_nil])); (try simp only [r_next, r_ret]))
        exact h
      · rw [show (z.fmod 6 == 5) = false from beq_false_of_ne h5]
        simp only [Bool.false_eq_true, if_false]
        ((first | with_reducible refine gx_of ?_ | with_reducible refine go_cons ?_); ((try simp only [e_table, e_intT, e_int, e_bool, e_none, e_str, e_var, e_bin, e_neg, n_int, e_not, e_cmp, e_and, e_or, e_ite, e_sub, e_slice, e_list, e_tuple, e_call, e_ucall, e_meth, e_comp, t_not, t_and, t_or, t_cmp, t_var, t_sub, t_call, t_ucall, s_expr, s_assign, s_setitem, s_aug, s_augi, s_ifs, s_while, s_for, s_ret, s_brk, s_cont, ss_nil, c_range1, c_range2, c_range3, i_rng, i_ref, i_tup, i_enm, i_rev, bt_name, bt_tup, look_zero, look_succ, r_next, r_ret, sa_nil, sa_cons, es_nil, es_cons, o_none, o_some, ts_nil, ts_cons, c_lt, c_le, c_gt, c_ge, c_eq, c_ne, b_add, b_sub, b_mul, b_div, b_mod, b_pow, b_shr, a_add, a_mul, t_bool, t_int, List.map, List.cons_append, List.nil_append, List.getElem?_cons_succ, List.getElem?_cons_zero, List.set_cons_succ, List.set_cons_zero, frOf]); (repeat (first | with_reducible refine qx_next ?_ | with_reducible refine qx_cont ?_ | with_reducible refine qx_brk ?_ | with_reducible refine qx_nil ?_ | with_reducible refine q_nextI ?_ | with_reducible refine q_retI ?_ | with_reducible refine q_contI ?_ | with_reducible refine q_brkI ?_ | with_reducible refine ss_nilI ?_ | rw [q_next] | rw [q_ret] | rw [q_cont] | rw [q_brk] | rw [ss_nil])); (try simp only [r_next, r_ret])))
        refine ⟨⟨it, _, rfl, hit⟩, by decide, ?_⟩
        by_cases h4 : z.fmod 6 = 4
        · rw [show (z.fmod 6 == 4) = true by rw [h4]; rfl]
          simp only [if_true]
          refine ⟨by decide, by decide, ?_⟩
          refine fin (.i ((z.fdiv 6).fmod 3)) (by unfold itemT; rw [if_neg h5, if_pos h4]) _ fun τ h => ?_
          ((try simp only [e_table, e_intT, e_int, e_bool, e_none, e_str, e_var, e_bin, e_neg, n_int, e_not, e_cmp, e_and, e_or, e_ite, e_sub, e_slice, e_list, e_tuple, e_call, e_ucall, e_meth, e_comp, t_not, t_and, t_or, t_cmp, t_var, t_sub, t_call, t_ucall, s_expr, s_assign, s_setitem, s_aug, s_augi, s_ifs, s_while, s_for, s_ret, s_brk, s_cont, ss_nil, c_range1, c_range2, c_range3, i_rng, i_ref, i_tup, i_enm, i_rev, bt_name, bt_tup, look_zero, look_succ, r_next, r_ret, sa_nil, sa_cons, es_nil, es_cons, o_none, o_some, ts_nil, ts_cons, c_lt, c_le, c_gt, c_ge, c_eq, c_ne, b_add, b_sub, b_mul, b_div, b_mod, b_pow, b_shr, a_add, a_mul, t_bool, t_int, List.map, List.cons_append, List.nil_append, List.getElem?_cons_succ, List.getElem?_cons_zero, List.set_cons_succ, List.set_cons_zero, frOf]); (repeat (first | with_reducible refine qx_next ?_ | with_reducible refine qx_cont ?_ | with_reducible refine qx_brk ?_ | with_reducible refine qx_nil ?_ | with_reducible refine q_nextI ?_ | with_reducible refine q_retI ?_ | with_reducible refine q_contI ?_ | with_reducible refine q_brkI ?_ | with_reducible refine ss_nilI ?_ | rw [q_next] | rw [q_ret] | rw [q_cont] | rw [q_brk] | rw [ss_nil])); (try simp only [r_next, r_ret]))
          exact h
        · rw [show (z.fmod 6 == 4) = false from beq_false_of_ne h4]
          simp only [Bool.false_eq_true, if_false]
          refine ⟨by decide, ?_⟩
          refine fin (.i (z.fdiv 6)) (by unfold itemT; rw [if_neg h5, if_neg h4]) _ fun τ h => ?_
          ((try simp only [e_table, e_intT, e_int, e_bool, e_none, e_str, e_var, e_bin, e_neg, n_int, e_not, e_cmp, e_and, e_or, e_ite, e_sub, e_slice, e_list, e_tuple, e_call, e_ucall, e_meth, e_comp, t_not, t_and, t_or, t_cmp, t_var, t_sub, t_call, t_ucall, s_expr, s_assign, s_setitem, s_aug, s_augi, s_ifs, s_while, s_for, s_ret, s_brk, s_cont, ss_nil, c_range1, c_range2, c_range3, i_rng, i_ref, i_tup, i_enm, i_rev, bt_name, bt_tup, look_zero, look_succ, r_next, r_ret, sa_nil, sa_cons, es_nil, es_cons, o_none, o_some, ts_nil, ts_cons, c_lt, c_le, c_gt, c_ge, c_eq, c_ne, b_add, b_sub, b_mul, b_div, b_mod, b_pow, b_shr, a_add, a_mul, t_bool, t_int, List.map, List.cons_append, List.nil_append, List.getElem?_cons_succ, List.getElem?_cons_zero, List.set_cons_succ, List.set_cons_zero, frOf]); (repeat (first | with_reducible refine qx_next ?_ | with_reducible refine qx_cont ?_ | with_reducible refine qx_brk ?_ | with_reducible refine qx_nil ?_ | with_reducible refine q_nextI ?_ | with_reducible refine q_retI ?_ | with_reducible refine q_contI ?_ | with_reducible refine q_brkI ?_ | with_reducible refine ss_nilI ?_ | rw [q_next] | rw [q_ret] | rw [q_cont] | rw [q_brk] | rw [ss_nil])); (try simp only [r_next, r_ret]))
          exact h
    · rintro F τ ⟨hk0, e2, rfl, hit, hnl⟩
      rw [List.length_map, List.take_of_length_le (Nat.le_refl _)] at hit
      exact q e2 _ τ (by rw [List.length_map]; exact h6.1) (by rw [List.length_map]; exact h6.2) (fun t m => by obtain ⟨z, _, rfl⟩ := List.mem_map.mp m; exact okT_item z) hit

/-! Vc02f -/
section
variable {Φ : Fns} {R : Fl → Frm → Hp → Prop} {F : Frm} {σ : Hp}
theorem tryA_of {k j i : Nat} {es : List PE} {a b : Str} (h : vEs Φ es (fun vs σ => Φ (3000 + i) vs (codeQ (fun v σ => v = .none ∧ R .next (F.set k (some (.str a))) σ) (fun v σ => ∃ w, v = .exc "TypeError" w ∧ j < F.length ∧ R .next (((F.set j (some (.exc "TypeError" w))).set k (some (.str w))).set j none) σ)) σ) F σ) :
    vS Φ (.tryA k j (XE.ite (XT.isNone (XE.ucall i es)) (.str a) (.str b))) R F σ := h
theorem tryR_of {j k1 k2 i : Nat} {txt : Str} {es : List PE} (h : vEs Φ es (fun vs σ => Φ (3000 + i) vs (codeQ (fun _ σ => R .next F σ) (fun v σ => v = .exc "IndexError" txt ∧ j < F.length ∧ k1 ≠ j ∧ k2 ≠ j ∧ ∃ a b d e, F[k1]? = some (some a) ∧ F[k2]? = some (some b) ∧ Dat σ a d ∧ Dat σ b e ∧ d.depth ≤ 60 ∧ R (.ret (.bool (PyData.eqv d e))) ((F.set j (some (.exc "IndexError" txt))).set j none) σ)) σ) F σ) :
    vS Φ (.tryR j k1 k2 txt (XE.ucall i es)) R F σ := h
theorem zipset_of {i1 i2 kd : Nat} {a b : PE} (h : vEs Φ [a, b] (ZipSet i1 i2 kd R F) F σ) : vS Φ (.zipset i1 i2 kd a b) R F σ := h
end
noncomputable def ps02b2 : List PS := [.assign (.name 8) (.sub (.sub (.var 3) (.var 4)) (.int 0)), .assign (.tup [10, 11]) (.ucall 5 [(.comp [none, none, some 1] (.sub (.var 2) (.var 1)) (.name 1) .plain (.var 8) []), (.sub (.sub (.var 3) (.var 4)) (.int 1))]), .assign (.name 12) (.call .list [(.var 1)]), .zipset 9 13 12 (.var 8) (.var 10), .ifs (.or (.cmp .NotEq (.var 6) (.var 11)) (.cmp .NotEq (.var 5) (.var 12))) [.ret (.bool false)] []]
noncomputable def ps02b : List PS := .assign (.name 5) (.call .list [(.var 1)]) :: .tryA 6 7 (.ite (.isNone (.ucall 1 [(.var 5), (.var 4)])) (.str (Str.ofString "")) (.str (Str.ofString "an answer"))) :: ps02b2
noncomputable def gAt (xs : List Th) (v : V) : Option V := match v with
  | .int c => some (xs.getD c.toNat (.i 0)).v
  | _ => none
theorem fm_at (xs : List Th) (way : List Nat) : (way.map natV).filterMap (gAt xs) = (rowT xs way).map Th.v := by
  unfold rowT
  rw [List.filterMap_map, List.map_map]
  exact fm_some _ fun k _ => rfl
section
variable {Φ : Fns} {σ : Hp} {l it d h : Addr} {xs : List Th} {p : Nat} {m : Int → Option V} {n : Nat} {K : Fl → Frm → Hp → Prop}
theorem body2_v (h5 : ∀ args Q σ, leftC args Q σ → Φ 5 args Q σ) {e2 e7 e8 e9 e10 e11 e12 e13 : Option V} {ys : List Th} {dO : Option Str} (hx : xs.length ≤ 36) (hok : ∀ t ∈ xs, okT t) (hp : p < xs.length) (hit : σ it = some (.list (xs.map Th.v))) (hd : σ d = some (.imap m n)) (hw : WayAt xs σ m p)
    (hh : σ h = some (.list (ys.map Th.v))) (hs : siftX xs p (xs.getD p (.i 0)) = (ys, dO))
    (k : ∀ τ e8 e9 e10 e11 e12 e13, Ext σ τ → K .next (Fr02 l it e2 (some (.ref d)) (some (.int p)) (some (.ref h)) (some (.str (wordsOf dO))) e7 e8 e9 e10 e11 e12 e13) τ) :
    vSs Φ ps02b2 K (Fr02 l it e2 (some (.ref d)) (some (.int p)) (some (.ref h)) (some (.str (wordsOf dO))) e7 e8 e9 e10 e11 e12 e13) σ := by
  unfold ps02b2 Fr02 at *
  obtain ⟨c, e1, ec⟩ := hw
  ((first | with_reducible refine gx_of ?_ | with_reducible refine go_cons ?_); ((try simp only [e_table, e_intT, e_int, e_bool, e_none, e_str, e_var, e_bin, e_neg, n_int, e_not, e_cmp, e_and, e_or, e_ite, e_sub, e_slice, e_list, e_tuple, e_call, e_ucall, e_meth, e_comp, t_not, t_and, t_or, t_cmp, t_var, t_sub, t_call, t_ucall, s_expr, s_assign, s_setitem, s_aug, s_augi, s_ifs, s_while, s_for, s_ret, s_brk, s_cont, ss_nil, c_range1, c_range2, c_range3, i_rng, i_ref, i_tup, i_enm, i_rev, bt_name, bt_tup, look_zero, look_succ, r_next, r_ret, sa_nil, sa_cons, es_nil, es_cons, o_none, o_some, ts_nil, ts_cons, c_lt, c_le, c_gt, c_ge, c_eq, c_ne, b_add, b_sub, b_mul, b_div, b_mod, b_pow, b_shr, a_add, a_mul, t_bool, t_int, List.map, List.cons_append, List.nil_append, List.getElem?_cons_succ, List.getElem?_cons_zero, List.set_cons_succ, List.set_cons_zero, frOf]); (repeat (first | with_reducible refine qx_next ?_ | with_reducible refine qx_cont ?_ | with_reducible refine qx_brk ?_ | with_reducible refine qx_nil ?_ | with_reducible refine q_nextI ?_ | with_reducible refine q_retI ?_ | with_reducible refine q_contI ?_ | with_reducible refine q_brkI ?_ | with_reducible refine ss_nilI ?_ | rw [q_next] | rw [q_ret] | rw [q_cont] | rw [q_brk] | rw [ss_nil])); (try simp only [r_next, r_ret])))
  refine map_at' hd e1 ?_
  refine sub_tup (xs := [.ref c, .str (wordsOf (wayP xs p).2)]) (big_of (n := 2) (by decide)) (x := .ref c) rfl ?_
  ((try simp only [e_table, e_intT, e_int, e_bool, e_none, e_str, e_var, e_bin, e_neg, n_int, e_not, e_cmp, e_and, e_or, e_ite, e_sub, e_slice, e_list, e_tuple, e_call, e_ucall, e_meth, e_comp, t_not, t_and, t_or, t_cmp, t_var, t_sub, t_call, t_ucall, s_expr, s_assign, s_setitem, s_aug, s_augi, s_ifs, s_while, s_for, s_ret, s_brk, s_cont, ss_nil, c_range1, c_range2, c_range3, i_rng, i_ref, i_tup, i_enm, i_rev, bt_name, bt_tup, look_zero, look_succ, r_next, r_ret, sa_nil, sa_cons, es_nil, es_cons, o_none, o_some, ts_nil, ts_cons, c_lt, c_le, c_gt, c_ge, c_eq, c_ne, b_add, b_sub, b_mul, b_div, b_mod, b_pow, b_shr, a_add, a_mul, t_bool, t_int, List.map, List.cons_append, List.nil_append, List.getElem?_cons_succ, List.getElem?_cons_zero, List.set_cons_succ, List.set_cons_zero, frOf]); (repeat (first | with_reducible refine qx_next ?_ | with_reducible refine qx_cont ?_ | with_reducible refine qx_brk ?_ | with_reducible refine qx_nil ?_ | with_reducible refine q_nextI ?_ | with_reducible refine q_retI ?_ | with_reducible refine q_contI ?_ | with_reducible refine q_brkI ?_ | with_reducible refine ss_nilI ?_ | rw [q_next] | rw [q_ret] | rw [q_cont] | rw [q_brk] | rw [ss_nil])); (try simp only [r_next, r_ret]))
  ((first | with_reducible refine gx_of ?_ | with_reducible refine go_cons ?_); ((try simp only [e_table, e_intT, e_int, e_bool, e_none, e_str, e_var, e_bin, e_neg, n_int, e_not, e_cmp, e_and, e_or, e_ite, e_sub, e_slice, e_list, e_tuple, e_call, e_ucall, e_meth, e_comp, t_not, t_and, t_or, t_cmp, t_var, t_sub, t_call, t_ucall, s_expr, s_assign, s_setitem, s_aug, s_augi, s_ifs, s_while, s_for, s_ret, s_brk, s_cont, ss_nil, c_range1, c_range2, c_range3, i_rng, i_ref, i_tup, i_enm, i_rev, bt_name, bt_tup, look_zero, look_succ, r_next, r_ret, sa_nil, sa_cons, es_nil, es_cons, o_none, o_some, ts_nil, ts_cons, c_lt, c_le, c_gt, c_ge, c_eq, c_ne, b_add, b_sub, b_mul, b_div, b_mod, b_pow, b_shr, a_add, a_mul, t_bool, t_int, List.map, List.cons_append, List.nil_append, List.getElem?_cons_succ, List.getElem?_cons_zero, List.set_cons_succ, List.set_cons_zero, frOf]); (repeat (first | with_reducible refine qx_next ?_ | with_reducible refine qx_cont ?_ | with_reducible refine qx_brk ?_ | with_reducible refine qx_nil ?_ | with_reducible refine q_nextI ?_ | with_reducible refine q_retI ?_ | with_reducible refine q_contI ?_ | with_reducible refine q_brkI ?_ | with_reducible refine ss_nilI ?_ | rw [q_next] | rw [q_ret] | rw [q_cont] | rw [q_brk] | rw [ss_nil])); (try simp only [r_next, r_ret])))
  refine ⟨⟨_, ec⟩, ?_⟩
  have wl := wayP_len xs p
  have wlt := wayP_lt hp
  refine comp_rule (xs := (wayP xs p).1.map natV) (gAt xs) (by rw [List.length_map]; exact big_of (by omega)) (yields_lst (fun τ h => h.listAt ec) _ 0 rfl) ?_ ?_
  · intro y my τ hE K N hK hN
    obtain ⟨q, mq, rfl⟩ := List.mem_map.mp my
    unfold natV at *
    ((try simp only [e_table, e_intT, e_int, e_bool, e_none, e_str, e_var, e_bin, e_neg, n_int, e_not, e_cmp, e_and, e_or, e_ite, e_sub, e_slice, e_list, e_tuple, e_call, e_ucall, e_meth, e_comp, t_not, t_and, t_or, t_cmp, t_var, t_sub, t_call, t_ucall, s_expr, s_assign, s_setitem, s_aug, s_augi, s_ifs, s_while, s_for, s_ret, s_brk, s_cont, ss_nil, c_range1, c_range2, c_range3, i_rng, i_ref, i_tup, i_enm, i_rev, bt_name, bt_tup, look_zero, look_succ, r_next, r_ret, sa_nil, sa_cons, es_nil, es_cons, o_none, o_some, ts_nil, ts_cons, c_lt, c_le, c_gt, c_ge, c_eq, c_ne, b_add, b_sub, b_mul, b_div, b_mod, b_pow, b_shr, a_add, a_mul, t_bool, t_int, List.map, List.cons_append, List.nil_append, List.getElem?_cons_succ, List.getElem?_cons_zero, List.set_cons_succ, List.set_cons_zero, frOf]); (repeat (first | with_reducible refine qx_next ?_ | with_reducible refine qx_cont ?_ | with_reducible refine qx_brk ?_ | with_reducible refine qx_nil ?_ | with_reducible refine q_nextI ?_ | with_reducible refine q_retI ?_ | with_reducible refine q_contI ?_ | with_reducible refine q_brkI ?_ | with_reducible refine ss_nilI ?_ | rw [q_next] | rw [q_ret] | rw [q_cont] | rw [q_brk] | rw [ss_nil])); (try simp only [r_next, r_ret]))
    simp only [if_true]
    refine sub_th (.i 0) (hE.listAt (listAt_list hit)) (wlt q mq) ?_
    exact hK _ _ rfl .rfl
  · intro τ1 x1 r hr
    rw [fm_at]
    have x2 := x1.trans (Ext.upd (.list ((rowT xs (wayP xs p).1).map Th.v)) hr)
    have gr : listAt (upd τ1 r (.list ((rowT xs (wayP xs p).1).map Th.v))) r = some ((rowT xs (wayP xs p).1).map Th.v) := listAt_list (upd_same _ _ _)
    generalize upd τ1 r _ = τ2 at x2 gr
    refine map_at' (x2 _ _ hd) e1 ?_
    refine sub_tup (xs := [.ref c, .str (wordsOf (wayP xs p).2)]) (big_of (n := 2) (by decide)) (x := .str (wordsOf (wayP xs p).2)) rfl ?_
    have rl : (rowT xs (wayP xs p).1).length = (wayP xs p).1.length := by simp [rowT]
    obtain ⟨w0, ew⟩ := wayP_head xs p
    refine h5 _ _ _ ⟨r, rowT xs (wayP xs p).1, (wayP xs p).2, rfl, gr, by rw [rl]; omega, by rw [ew]; simp [rowT], fun s => wayT_words xs _ p s, fun lf du b τ3 hL x3 f3 g3 => ?_⟩
    have key := siftX_left xs p hp hL
    rw [hs] at key
    obtain ⟨rfl, rfl⟩ := Prod.mk.inj key
    ((try simp only [e_table, e_intT, e_int, e_bool, e_none, e_str, e_var, e_bin, e_neg, n_int, e_not, e_cmp, e_and, e_or, e_ite, e_sub, e_slice, e_list, e_tuple, e_call, e_ucall, e_meth, e_comp, t_not, t_and, t_or, t_cmp, t_var, t_sub, t_call, t_ucall, s_expr, s_assign, s_setitem, s_aug, s_augi, s_ifs, s_while, s_for, s_ret, s_brk, s_cont, ss_nil, c_range1, c_range2, c_range3, i_rng, i_ref, i_tup, i_enm, i_rev, bt_name, bt_tup, look_zero, look_succ, r_next, r_ret, sa_nil, sa_cons, es_nil, es_cons, o_none, o_some, ts_nil, ts_cons, c_lt, c_le, c_gt, c_ge, c_eq, c_ne, b_add, b_sub, b_mul, b_div, b_mod, b_pow, b_shr, a_add, a_mul, t_bool, t_int, List.map, List.cons_append, List.nil_append, List.getElem?_cons_succ, List.getElem?_cons_zero, List.set_cons_succ, List.set_cons_zero, frOf]); (repeat (first | with_reducible refine qx_next ?_ | with_reducible refine qx_cont ?_ | with_reducible refine qx_brk ?_ | with_reducible refine qx_nil ?_ | with_reducible refine q_nextI ?_ | with_reducible refine q_retI ?_ | with_reducible refine q_contI ?_ | with_reducible refine q_brkI ?_ | with_reducible refine ss_nilI ?_ | rw [q_next] | rw [q_ret] | rw [q_cont] | rw [q_brk] | rw [ss_nil])); (try simp only [r_next, r_ret]))
    refine ⟨rfl, ?_⟩
    ((try simp only [e_table, e_intT, e_int, e_bool, e_none, e_str, e_var, e_bin, e_neg, n_int, e_not, e_cmp, e_and, e_or, e_ite, e_sub, e_slice, e_list, e_tuple, e_call, e_ucall, e_meth, e_comp, t_not, t_and, t_or, t_cmp, t_var, t_sub, t_call, t_ucall, s_expr, s_assign, s_setitem, s_aug, s_augi, s_ifs, s_while, s_for, s_ret, s_brk, s_cont, ss_nil, c_range1, c_range2, c_range3, i_rng, i_ref, i_tup, i_enm, i_rev, bt_name, bt_tup, look_zero, look_succ, r_next, r_ret, sa_nil, sa_cons, es_nil, es_cons, o_none, o_some, ts_nil, ts_cons, c_lt, c_le, c_gt, c_ge, c_eq, c_ne, b_add, b_sub, b_mul, b_div, b_mod, b_pow, b_shr, a_add, a_mul, t_bool, t_int, List.map, List.cons_append, List.nil_append, List.getElem?_cons_succ, List.getElem?_cons_zero, List.set_cons_succ, List.set_cons_zero, frOf]); (repeat (first | with_reducible refine qx_next ?_ | with_reducible refine qx_cont ?_ | with_reducible refine qx_brk ?_ | with_reducible refine qx_nil ?_ | with_reducible refine q_nextI ?_ | with_reducible refine q_retI ?_ | with_reducible refine q_contI ?_ | with_reducible refine q_brkI ?_ | with_reducible refine ss_nilI ?_ | rw [q_next] | rw [q_ret] | rw [q_cont] | rw [q_brk] | rw [ss_nil])); (try simp only [r_next, r_ret]))
    ((first | with_reducible refine gx_of ?_ | with_reducible refine go_cons ?_); ((try simp only [e_table, e_intT, e_int, e_bool, e_none, e_str, e_var, e_bin, e_neg, n_int, e_not, e_cmp, e_and, e_or, e_ite, e_sub, e_slice, e_list, e_tuple, e_call, e_ucall, e_meth, e_comp, t_not, t_and, t_or, t_cmp, t_var, t_sub, t_call, t_ucall, s_expr, s_assign, s_setitem, s_aug, s_augi, s_ifs, s_while, s_for, s_ret, s_brk, s_cont, ss_nil, c_range1, c_range2, c_range3, i_rng, i_ref, i_tup, i_enm, i_rev, bt_name, bt_tup, look_zero, look_succ, r_next, r_ret, sa_nil, sa_cons, es_nil, es_cons, o_none, o_some, ts_nil, ts_cons, c_lt, c_le, c_gt, c_ge, c_eq, c_ne, b_add, b_sub, b_mul, b_div, b_mod, b_pow, b_shr, a_add, a_mul, t_bool, t_int, List.map, List.cons_append, List.nil_append, List.getElem?_cons_succ, List.getElem?_cons_zero, List.set_cons_succ, List.set_cons_zero, frOf]); (repeat (first | with_reducible refine qx_next ?_ | with_reducible refine qx_cont ?_ | with_reducible refine qx_brk ?_ | with_reducible refine qx_nil ?_ | with_reducible refine q_nextI ?_ | with_reducible refine q_retI ?_ | with_reducible refine q_contI ?_ | with_reducible refine q_brkI ?_ | with_reducible refine ss_nilI ?_ | rw [q_next] | rw [q_ret] | rw [q_cont] | rw [q_brk] | rw [ss_nil])); (try simp only [r_next, r_ret])))
    have x4 := x2.trans x3
    refine call_list (listAt_list (x4 _ _ hit)) ?_
    refine newL_of (by rw [List.length_map]; exact big_of (by omega)) fun wn τ5 x5 f5 g5 => ?_
    ((try simp only [e_table, e_intT, e_int, e_bool, e_none, e_str, e_var, e_bin, e_neg, n_int, e_not, e_cmp, e_and, e_or, e_ite, e_sub, e_slice, e_list, e_tuple, e_call, e_ucall, e_meth, e_comp, t_not, t_and, t_or, t_cmp, t_var, t_sub, t_call, t_ucall, s_expr, s_assign, s_setitem, s_aug, s_augi, s_ifs, s_while, s_for, s_ret, s_brk, s_cont, ss_nil, c_range1, c_range2, c_range3, i_rng, i_ref, i_tup, i_enm, i_rev, bt_name, bt_tup, look_zero, look_succ, r_next, r_ret, sa_nil, sa_cons, es_nil, es_cons, o_none, o_some, ts_nil, ts_cons, c_lt, c_le, c_gt, c_ge, c_eq, c_ne, b_add, b_sub, b_mul, b_div, b_mod, b_pow, b_shr, a_add, a_mul, t_bool, t_int, List.map, List.cons_append, List.nil_append, List.getElem?_cons_succ, List.getElem?_cons_zero, List.set_cons_succ, List.set_cons_zero, frOf]); (repeat (first | with_reducible refine qx_next ?_ | with_reducible refine qx_cont ?_ | with_reducible refine qx_brk ?_ | with_reducible refine qx_nil ?_ | with_reducible refine q_nextI ?_ | with_reducible refine q_retI ?_ | with_reducible refine q_contI ?_ | with_reducible refine q_brkI ?_ | with_reducible refine ss_nilI ?_ | rw [q_next] | rw [q_ret] | rw [q_cont] | rw [q_brk] | rw [ss_nil])); (try simp only [r_next, r_ret]))
    refine go_cons (zipset_of ?_)
    ((try simp only [e_table, e_intT, e_int, e_bool, e_none, e_str, e_var, e_bin, e_neg, n_int, e_not, e_cmp, e_and, e_or, e_ite, e_sub, e_slice, e_list, e_tuple, e_call, e_ucall, e_meth, e_comp, t_not, t_and, t_or, t_cmp, t_var, t_sub, t_call, t_ucall, s_expr, s_assign, s_setitem, s_aug, s_augi, s_ifs, s_while, s_for, s_ret, s_brk, s_cont, ss_nil, c_range1, c_range2, c_range3, i_rng, i_ref, i_tup, i_enm, i_rev, bt_name, bt_tup, look_zero, look_succ, r_next, r_ret, sa_nil, sa_cons, es_nil, es_cons, o_none, o_some, ts_nil, ts_cons, c_lt, c_le, c_gt, c_ge, c_eq, c_ne, b_add, b_sub, b_mul, b_div, b_mod, b_pow, b_shr, a_add, a_mul, t_bool, t_int, List.map, List.cons_append, List.nil_append, List.getElem?_cons_succ, List.getElem?_cons_zero, List.set_cons_succ, List.set_cons_zero, frOf]); (repeat (first | with_reducible refine qx_next ?_ | with_reducible refine qx_cont ?_ | with_reducible refine qx_brk ?_ | with_reducible refine qx_nil ?_ | with_reducible refine q_nextI ?_ | with_reducible refine q_retI ?_ | with_reducible refine q_contI ?_ | with_reducible refine q_brkI ?_ | with_reducible refine ss_nilI ?_ | rw [q_next] | rw [q_ret] | rw [q_cont] | rw [q_brk] | rw [ss_nil])); (try simp only [r_next, r_ret]))
    have ec5 := x5.listAt (x4.listAt ec)
    have g35 := x5 _ _ g3
    have hh5 := x5 _ _ (x4 _ _ hh)
    have hh5' : τ3 h = some _ := x4 _ _ hh
    refine .mk c b wn (wayP xs p).1 (lf.map Th.v) (xs.map Th.v) rfl ec5 (listAt_list g35) (by rw [List.length_map, hL.len, rl]) rfl g5 (fun j mj => by rw [List.length_map]; exact wlt j mj) ⟨(by rintro rfl; have := x4.listAt ec; unfold listAt at this; rw [f5] at this; cases this), (by rintro rfl; rw [f5] at g3; cases g3)⟩ ?_
    rw [setsL_layT]
    ((try simp only [e_table, e_intT, e_int, e_bool, e_none, e_str, e_var, e_bin, e_neg, n_int, e_not, e_cmp, e_and, e_or, e_ite, e_sub, e_slice, e_list, e_tuple, e_call, e_ucall, e_meth, e_comp, t_not, t_and, t_or, t_cmp, t_var, t_sub, t_call, t_ucall, s_expr, s_assign, s_setitem, s_aug, s_augi, s_ifs, s_while, s_for, s_ret, s_brk, s_cont, ss_nil, c_range1, c_range2, c_range3, i_rng, i_ref, i_tup, i_enm, i_rev, bt_name, bt_tup, look_zero, look_succ, r_next, r_ret, sa_nil, sa_cons, es_nil, es_cons, o_none, o_some, ts_nil, ts_cons, c_lt, c_le, c_gt, c_ge, c_eq, c_ne, b_add, b_sub, b_mul, b_div, b_mod, b_pow, b_shr, a_add, a_mul, t_bool, t_int, List.map, List.cons_append, List.nil_append, List.getElem?_cons_succ, List.getElem?_cons_zero, List.set_cons_succ, List.set_cons_zero, frOf]); (repeat (first | with_reducible refine qx_next ?_ | with_reducible refine qx_cont ?_ | with_reducible refine qx_brk ?_ | with_reducible refine qx_nil ?_ | with_reducible refine q_nextI ?_ | with_reducible refine q_retI ?_ | with_reducible refine q_contI ?_ | with_reducible refine q_brkI ?_ | with_reducible refine ss_nilI ?_ | rw [q_next] | rw [q_ret] | rw [q_cont] | rw [q_brk] | rw [ss_nil])); (try simp only [r_next, r_ret]))
    have nh : h ≠ wn := by rintro rfl; rw [f5] at hh5'; cases hh5'
    have okl := okT_layT (wayP xs p).1 lf xs (okT_left hL (okT_row hok _)) hok
    ((first | with_reducible refine gx_of ?_ | with_reducible refine go_cons ?_); ((try simp only [e_table, e_intT, e_int, e_bool, e_none, e_str, e_var, e_bin, e_neg, n_int, e_not, e_cmp, e_and, e_or, e_ite, e_sub, e_slice, e_list, e_tuple, e_call, e_ucall, e_meth, e_comp, t_not, t_and, t_or, t_cmp, t_var, t_sub, t_call, t_ucall, s_expr, s_assign, s_setitem, s_aug, s_augi, s_ifs, s_while, s_for, s_ret, s_brk, s_cont, ss_nil, c_range1, c_range2, c_range3, i_rng, i_ref, i_tup, i_enm, i_rev, bt_name, bt_tup, look_zero, look_succ, r_next, r_ret, sa_nil, sa_cons, es_nil, es_cons, o_none, o_some, ts_nil, ts_cons, c_lt, c_le, c_gt, c_ge, c_eq, c_ne, b_add, b_sub, b_mul, b_div, b_mod, b_pow, b_shr, a_add, a_mul, t_bool, t_int, List.map, List.cons_append, List.nil_append, List.getElem?_cons_succ, List.getElem?_cons_zero, List.set_cons_succ, List.set_cons_zero, frOf]); (repeat (first | with_reducible refine qx_next ?_ | with_reducible refine qx_cont ?_ | with_reducible refine qx_brk ?_ | with_reducible refine qx_nil ?_ | with_reducible refine q_nextI ?_ | with_reducible refine q_retI ?_ | with_reducible refine q_contI ?_ | with_reducible refine q_brkI ?_ | with_reducible refine ss_nilI ?_ | rw [q_next] | rw [q_ret] | rw [q_cont] | rw [q_brk] | rw [ss_nil])); (try simp only [r_next, r_ret])))
    refine ne_strs ?_
    rw [bne_self_eq_false]
    ((try simp only [e_table, e_intT, e_int, e_bool, e_none, e_str, e_var, e_bin, e_neg, n_int, e_not, e_cmp, e_and, e_or, e_ite, e_sub, e_slice, e_list, e_tuple, e_call, e_ucall, e_meth, e_comp, t_not, t_and, t_or, t_cmp, t_var, t_sub, t_call, t_ucall, s_expr, s_assign, s_setitem, s_aug, s_augi, s_ifs, s_while, s_for, s_ret, s_brk, s_cont, ss_nil, c_range1, c_range2, c_range3, i_rng, i_ref, i_tup, i_enm, i_rev, bt_name, bt_tup, look_zero, look_succ, r_next, r_ret, sa_nil, sa_cons, es_nil, es_cons, o_none, o_some, ts_nil, ts_cons, c_lt, c_le, c_gt, c_ge, c_eq, c_ne, b_add, b_sub, b_mul, b_div, b_mod, b_pow, b_shr, a_add, a_mul, t_bool, t_int, List.map, List.cons_append, List.nil_append, List.getElem?_cons_succ, List.getElem?_cons_zero, List.set_cons_succ, List.set_cons_zero, frOf]); (repeat (first | with_reducible refine qx_next ?_ | with_reducible refine qx_cont ?_ | with_reducible refine qx_brk ?_ | with_reducible refine qx_nil ?_ | with_reducible refine q_nextI ?_ | with_reducible refine q_retI ?_ | with_reducible refine q_contI ?_ | with_reducible refine q_brkI ?_ | with_reducible refine ss_nilI ?_ | rw [q_next] | rw [q_ret] | rw [q_cont] | rw [q_brk] | rw [ss_nil])); (try simp only [r_next, r_ret]))
    simp only [Bool.false_eq_true, if_false]
    refine ne_th okl (listAt_list (by rw [upd_ne _ _ nh]; exact hh5)) (listAt_list (upd_same _ _ _)) ?_
    ((try simp only [e_table, e_intT, e_int, e_bool, e_none, e_str, e_var, e_bin, e_neg, n_int, e_not, e_cmp, e_and, e_or, e_ite, e_sub, e_slice, e_list, e_tuple, e_call, e_ucall, e_meth, e_comp, t_not, t_and, t_or, t_cmp, t_var, t_sub, t_call, t_ucall, s_expr, s_assign, s_setitem, s_aug, s_augi, s_ifs, s_while, s_for, s_ret, s_brk, s_cont, ss_nil, c_range1, c_range2, c_range3, i_rng, i_ref, i_tup, i_enm, i_rev, bt_name, bt_tup, look_zero, look_succ, r_next, r_ret, sa_nil, sa_cons, es_nil, es_cons, o_none, o_some, ts_nil, ts_cons, c_lt, c_le, c_gt, c_ge, c_eq, c_ne, b_add, b_sub, b_mul, b_div, b_mod, b_pow, b_shr, a_add, a_mul, t_bool, t_int, List.map, List.cons_append, List.nil_append, List.getElem?_cons_succ, List.getElem?_cons_zero, List.set_cons_succ, List.set_cons_zero, frOf]); (repeat (first | with_reducible refine qx_next ?_ | with_reducible refine qx_cont ?_ | with_reducible refine qx_brk ?_ | with_reducible refine qx_nil ?_ | with_reducible refine q_nextI ?_ | with_reducible refine q_retI ?_ | with_reducible refine q_contI ?_ | with_reducible refine q_brkI ?_ | with_reducible refine ss_nilI ?_ | rw [q_next] | rw [q_ret] | rw [q_cont] | rw [q_brk] | rw [ss_nil])); (try simp only [r_next, r_ret]))
    simp only [Bool.false_eq_true, if_false]
    ((try simp only [e_table, e_intT, e_int, e_bool, e_none, e_str, e_var, e_bin, e_neg, n_int, e_not, e_cmp, e_and, e_or, e_ite, e_sub, e_slice, e_list, e_tuple, e_call, e_ucall, e_meth, e_comp, t_not, t_and, t_or, t_cmp, t_var, t_sub, t_call, t_ucall, s_expr, s_assign, s_setitem, s_aug, s_augi, s_ifs, s_while, s_for, s_ret, s_brk, s_cont, ss_nil, c_range1, c_range2, c_range3, i_rng, i_ref, i_tup, i_enm, i_rev, bt_name, bt_tup, look_zero, look_succ, r_next, r_ret, sa_nil, sa_cons, es_nil, es_cons, o_none, o_some, ts_nil, ts_cons, c_lt, c_le, c_gt, c_ge, c_eq, c_ne, b_add, b_sub, b_mul, b_div, b_mod, b_pow, b_shr, a_add, a_mul, t_bool, t_int, List.map, List.cons_append, List.nil_append, List.getElem?_cons_succ, List.getElem?_cons_zero, List.set_cons_succ, List.set_cons_zero, frOf]); (repeat (first | with_reducible refine qx_next ?_ | with_reducible refine qx_cont ?_ | with_reducible refine qx_brk ?_ | with_reducible refine qx_nil ?_ | with_reducible refine q_nextI ?_ | with_reducible refine q_retI ?_ | with_reducible refine q_contI ?_ | with_reducible refine q_brkI ?_ | with_reducible refine ss_nilI ?_ | rw [q_next] | rw [q_ret] | rw [q_cont] | rw [q_brk] | rw [ss_nil])); (try simp only [r_next, r_ret]))
    exact k _ _ _ _ _ _ _ (Ext.again _ (x4.trans x5) (x4.fresh f5))
theorem body_v (h1 : ∀ args Q σ, siftupX args Q σ → Φ 3001 args Q σ) (h5 : ∀ args Q σ, leftC args Q σ → Φ 5 args Q σ) {e2 e5 e6 e7 e8 e9 e10 e11 e12 e13 : Option V} (hx : xs.length ≤ 36) (hok : ∀ t ∈ xs, okT t) (hp : p < xs.length) (hit : σ it = some (.list (xs.map Th.v))) (hd : σ d = some (.imap m n)) (hw : WayAt xs σ m p)
    (k : ∀ τ e5 e6 e7 e8 e9 e10 e11 e12 e13, Ext σ τ → K .next (Fr02 l it e2 (some (.ref d)) (some (.int p)) e5 e6 e7 e8 e9 e10 e11 e12 e13) τ) :
    vSs Φ ps02b K (Fr02 l it e2 (some (.ref d)) (some (.int p)) e5 e6 e7 e8 e9 e10 e11 e12 e13) σ := by
  unfold ps02b
  unfold Fr02 at *
  ((first | with_reducible refine gx_of ?_ | with_reducible refine go_cons ?_); ((try simp only [e_table, e_intT, e_int, e_bool, e_none, e_str, e_var, e_bin, e_neg, n_int, e_not, e_cmp, e_and, e_or, e_ite, e_sub, e_slice, e_list, e_tuple, e_call, e_ucall, e_meth, e_comp, t_not, t_and, t_or, t_cmp, t_var, t_sub, t_call, t_ucall, s_expr, s_assign, s_setitem, s_aug, s_augi, s_ifs, s_while, s_for, s_ret, s_brk, s_cont, ss_nil, c_range1, c_range2, c_range3, i_rng, i_ref, i_tup, i_enm, i_rev, bt_name, bt_tup, look_zero, look_succ, r_next, r_ret, sa_nil, sa_cons, es_nil, es_cons, o_none, o_some, ts_nil, ts_cons, c_lt, c_le, c_gt, c_ge, c_eq, c_ne, b_add, b_sub, b_mul, b_div, b_mod, b_pow, b_shr, a_add, a_mul, t_bool, t_int, List.map, List.cons_append, List.nil_append, List.getElem?_cons_succ, List.getElem?_cons_zero, List.set_cons_succ, List.set_cons_zero, frOf]); (repeat (first | with_reducible refine qx_next ?_ | with_reducible refine qx_cont ?_ | with_reducible refine qx_brk ?_ | with_reducible refine qx_nil ?_ | with_reducible refine q_nextI ?_ | with_reducible refine q_retI ?_ | with_reducible refine q_contI ?_ | with_reducible refine q_brkI ?_ | with_reducible refine ss_nilI ?_ | rw [q_next] | rw [q_ret] | rw [q_cont] | rw [q_brk] | rw [ss_nil])); (try simp only [r_next, r_ret])))
  refine call_list (listAt_list hit) ?_
  refine newL_of (by rw [List.length_map]; exact big_of (by omega)) fun h τ1 x1 f1 g1 => ?_
  ((try simp only [e_table, e_intT, e_int, e_bool, e_none, e_str, e_var, e_bin, e_neg, n_int, e_not, e_cmp, e_and, e_or, e_ite, e_sub, e_slice, e_list, e_tuple, e_call, e_ucall, e_meth, e_comp, t_not, t_and, t_or, t_cmp, t_var, t_sub, t_call, t_ucall, s_expr, s_assign, s_setitem, s_aug, s_augi, s_ifs, s_while, s_for, s_ret, s_brk, s_cont, ss_nil, c_range1, c_range2, c_range3, i_rng, i_ref, i_tup, i_enm, i_rev, bt_name, bt_tup, look_zero, look_succ, r_next, r_ret, sa_nil, sa_cons, es_nil, es_cons, o_none, o_some, ts_nil, ts_cons, c_lt, c_le, c_gt, c_ge, c_eq, c_ne, b_add, b_sub, b_mul, b_div, b_mod, b_pow, b_shr, a_add, a_mul, t_bool, t_int, List.map, List.cons_append, List.nil_append, List.getElem?_cons_succ, List.getElem?_cons_zero, List.set_cons_succ, List.set_cons_zero, frOf]); (repeat (first | with_reducible refine qx_next ?_ | with_reducible refine qx_cont ?_ | with_reducible refine qx_brk ?_ | with_reducible refine qx_nil ?_ | with_reducible refine q_nextI ?_ | with_reducible refine q_retI ?_ | with_reducible refine q_contI ?_ | with_reducible refine q_brkI ?_ | with_reducible refine ss_nilI ?_ | rw [q_next] | rw [q_ret] | rw [q_cont] | rw [q_brk] | rw [ss_nil])); (try simp only [r_next, r_ret]))
  refine go_cons (tryA_of ?_)
  ((try simp only [e_table, e_intT, e_int, e_bool, e_none, e_str, e_var, e_bin, e_neg, n_int, e_not, e_cmp, e_and, e_or, e_ite, e_sub, e_slice, e_list, e_tuple, e_call, e_ucall, e_meth, e_comp, t_not, t_and, t_or, t_cmp, t_var, t_sub, t_call, t_ucall, s_expr, s_assign, s_setitem, s_aug, s_augi, s_ifs, s_while, s_for, s_ret, s_brk, s_cont, ss_nil, c_range1, c_range2, c_range3, i_rng, i_ref, i_tup, i_enm, i_rev, bt_name, bt_tup, look_zero, look_succ, r_next, r_ret, sa_nil, sa_cons, es_nil, es_cons, o_none, o_some, ts_nil, ts_cons, c_lt, c_le, c_gt, c_ge, c_eq, c_ne, b_add, b_sub, b_mul, b_div, b_mod, b_pow, b_shr, a_add, a_mul, t_bool, t_int, List.map, List.cons_append, List.nil_append, List.getElem?_cons_succ, List.getElem?_cons_zero, List.set_cons_succ, List.set_cons_zero, frOf]); (repeat (first | with_reducible refine qx_next ?_ | with_reducible refine qx_cont ?_ | with_reducible refine qx_brk ?_ | with_reducible refine qx_nil ?_ | with_reducible refine q_nextI ?_ | with_reducible refine q_retI ?_ | with_reducible refine q_contI ?_ | with_reducible refine q_brkI ?_ | with_reducible refine ss_nilI ?_ | rw [q_next] | rw [q_ret] | rw [q_cont] | rw [q_brk] | rw [ss_nil])); (try simp only [r_next, r_ret]))
  have rest : ∀ (w : Str) e7 (ys : List Th) (dO : Option Str), siftX xs p (xs.getD p (.i 0)) = (ys, dO) → wordsOf dO = w → vSs Φ ps02b2 K (Fr02 l it e2 (some (.ref d)) (some (.int p)) (some (.ref h)) (some (.str w)) e7 e8 e9 e10 e11 e12 e13) (upd τ1 h (.list (ys.map Th.v))) := fun w e7 ys dO hs ew => by
    subst ew
    have nit : it ≠ h := by rintro rfl; rw [hit] at f1; cases f1
    have nd : d ≠ h := by rintro rfl; rw [hd] at f1; cases f1
    have x2 : Ext σ (upd τ1 h (.list (ys.map Th.v))) := Ext.again _ x1 f1
    exact body2_v h5 hx hok hp (x2 _ _ hit) (x2 _ _ hd) (hw.ext x2) (upd_same _ _ _) hs fun τ e8 e9 e10 e11 e12 e13 x3 => k τ _ _ _ _ _ _ _ _ _ (x2.trans x3)
  refine h1 _ _ _ (.mk h xs p rfl g1 (by omega) (by unfold BIG; omega) (fun e => absurd e (by omega)) fun x hx' => ?_)
  have ex : x = xs.getD p (.i 0) := by rw [List.getD_eq_getElem?_getD, hx']; rfl
  rw [ex]
  generalize hz : siftX xs p (xs.getD p (.i 0)) = z
  obtain ⟨ys, dO⟩ := z
  cases dO with
  | none =>
    dsimp only
    refine ⟨rfl, ?_⟩
    ((try simp only [e_table, e_intT, e_int, e_bool, e_none, e_str, e_var, e_bin, e_neg, n_int, e_not, e_cmp, e_and, e_or, e_ite, e_sub, e_slice, e_list, e_tuple, e_call, e_ucall, e_meth, e_comp, t_not, t_and, t_or, t_cmp, t_var, t_sub, t_call, t_ucall, s_expr, s_assign, s_setitem, s_aug, s_augi, s_ifs, s_while, s_for, s_ret, s_brk, s_cont, ss_nil, c_range1, c_range2, c_range3, i_rng, i_ref, i_tup, i_enm, i_rev, bt_name, bt_tup, look_zero, look_succ, r_next, r_ret, sa_nil, sa_cons, es_nil, es_cons, o_none, o_some, ts_nil, ts_cons, c_lt, c_le, c_gt, c_ge, c_eq, c_ne, b_add, b_sub, b_mul, b_div, b_mod, b_pow, b_shr, a_add, a_mul, t_bool, t_int, List.map, List.cons_append, List.nil_append, List.getElem?_cons_succ, List.getElem?_cons_zero, List.set_cons_succ, List.set_cons_zero, frOf]); (repeat (first | with_reducible refine qx_next ?_ | with_reducible refine qx_cont ?_ | with_reducible refine qx_brk ?_ | with_reducible refine qx_nil ?_ | with_reducible refine q_nextI ?_ | with_reducible refine q_retI ?_ | with_reducible refine q_contI ?_ | with_reducible refine q_brkI ?_ | with_reducible refine ss_nilI ?_ | rw [q_next] | rw [q_ret] | rw [q_cont] | rw [q_brk] | rw [ss_nil])); (try simp only [r_next, r_ret]))
    have := rest (Str.ofString "") e7 ys none hz rfl
    exact this
  | some w =>
    dsimp only
    refine ⟨w, rfl, by simp, ?_⟩
    ((try simp only [e_table, e_intT, e_int, e_bool, e_none, e_str, e_var, e_bin, e_neg, n_int, e_not, e_cmp, e_and, e_or, e_ite, e_sub, e_slice, e_list, e_tuple, e_call, e_ucall, e_meth, e_comp, t_not, t_and, t_or, t_cmp, t_var, t_sub, t_call, t_ucall, s_expr, s_assign, s_setitem, s_aug, s_augi, s_ifs, s_while, s_for, s_ret, s_brk, s_cont, ss_nil, c_range1, c_range2, c_range3, i_rng, i_ref, i_tup, i_enm, i_rev, bt_name, bt_tup, look_zero, look_succ, r_next, r_ret, sa_nil, sa_cons, es_nil, es_cons, o_none, o_some, ts_nil, ts_cons, c_lt, c_le, c_gt, c_ge, c_eq, c_ne, b_add, b_sub, b_mul, b_div, b_mod, b_pow, b_shr, a_add, a_mul, t_bool, t_int, List.map, List.cons_append, List.nil_append, List.getElem?_cons_succ, List.getElem?_cons_zero, List.set_cons_succ, List.set_cons_zero, frOf]); (repeat (first | with_reducible refine qx_next ?_ | with_reducible refine qx_cont ?_ | with_reducible refine qx_brk ?_ | with_reducible refine qx_nil ?_ | with_reducible refine q_nextI ?_ | with_reducible refine q_retI ?_ | with_reducible refine q_contI ?_ | with_reducible refine q_brkI ?_ | with_reducible refine ss_nilI ?_ | rw [q_next] | rw [q_ret] | rw [q_cont] | rw [q_brk] | rw [ss_nil])); (try simp only [r_next, r_ret]))
    exact rest w none ys (some w) hz rfl
end

/-! Vc02g -/
noncomputable def ps02c : List PS := [.assign (.name 5) (.call .list [(.var 1)]), .tryR 7 5 1 (Str.ofString "list index out of range") (.ucall 1 [(.var 5), (.call .len [(.var 5)])]), .ret (.bool false)]
noncomputable def ps02d : List PS := .assign (.name 3) (.ucall 4 [(.var 1)]) :: .for (.name 4) .plain (.call .range [(.call .len [(.var 1)])]) ps02b :: ps02c
noncomputable def ps_law02 : List PS := .assign (.name 1) (.list []) :: ps02a :: ps02d
noncomputable def isTrue' (v : V) (_ : Hp) : Prop := v = .bool true
section
variable {Φ : Fns} {σ : Hp} {l it : Addr} {xs : List Th}
theorem end02_v (h1 : ∀ args Q σ, siftupX args Q σ → Φ 3001 args Q σ) {e2 e3 e4 e5 e6 e7 e8 e9 e10 e11 e12 e13 : Option V} (hx : xs.length ≤ 36) (hok : ∀ t ∈ xs, okT t) (hit : σ it = some (.list (xs.map Th.v))) :
    vSs Φ ps02c (retV isTrue') (Fr02 l it e2 e3 e4 e5 e6 e7 e8 e9 e10 e11 e12 e13) σ := by
  unfold ps02c
  unfold Fr02
  ((first | with_reducible refine gx_of ?_ | with_reducible refine go_cons ?_); ((try simp only [e_table, e_intT, e_int, e_bool, e_none, e_str, e_var, e_bin, e_neg, n_int, e_not, e_cmp, e_and, e_or, e_ite, e_sub, e_slice, e_list, e_tuple, e_call, e_ucall, e_meth, e_comp, t_not, t_and, t_or, t_cmp, t_var, t_sub, t_call, t_ucall, s_expr, s_assign, s_setitem, s_aug, s_augi, s_ifs, s_while, s_for, s_ret, s_brk, s_cont, ss_nil, c_range1, c_range2, c_range3, i_rng, i_ref, i_tup, i_enm, i_rev, bt_name, bt_tup, look_zero, look_succ, r_next, r_ret, sa_nil, sa_cons, es_nil, es_cons, o_none, o_some, ts_nil, ts_cons, c_lt, c_le, c_gt, c_ge, c_eq, c_ne, b_add, b_sub, b_mul, b_div, b_mod, b_pow, b_shr, a_add, a_mul, t_bool, t_int, List.map, List.cons_append, List.nil_append, List.getElem?_cons_succ, List.getElem?_cons_zero, List.set_cons_succ, List.set_cons_zero, frOf]); (repeat (first | with_reducible refine qx_next ?_ | with_reducible refine qx_cont ?_ | with_reducible refine qx_brk ?_ | with_reducible refine qx_nil ?_ | with_reducible refine q_nextI ?_ | with_reducible refine q_retI ?_ | with_reducible refine q_contI ?_ | with_reducible refine q_brkI ?_ | with_reducible refine ss_nilI ?_ | rw [q_next] | rw [q_ret] | rw [q_cont] | rw [q_brk] | rw [ss_nil])); (try simp only [r_next, r_ret])))
  refine call_list (listAt_list hit) ?_
  refine newL_of (by rw [List.length_map]; exact big_of (by omega)) fun h τ1 x1 f1 g1 => ?_
  ((try simp only [e_table, e_intT, e_int, e_bool, e_none, e_str, e_var, e_bin, e_neg, n_int, e_not, e_cmp, e_and, e_or, e_ite, e_sub, e_slice, e_list, e_tuple, e_call, e_ucall, e_meth, e_comp, t_not, t_and, t_or, t_cmp, t_var, t_sub, t_call, t_ucall, s_expr, s_assign, s_setitem, s_aug, s_augi, s_ifs, s_while, s_for, s_ret, s_brk, s_cont, ss_nil, c_range1, c_range2, c_range3, i_rng, i_ref, i_tup, i_enm, i_rev, bt_name, bt_tup, look_zero, look_succ, r_next, r_ret, sa_nil, sa_cons, es_nil, es_cons, o_none, o_some, ts_nil, ts_cons, c_lt, c_le, c_gt, c_ge, c_eq, c_ne, b_add, b_sub, b_mul, b_div, b_mod, b_pow, b_shr, a_add, a_mul, t_bool, t_int, List.map, List.cons_append, List.nil_append, List.getElem?_cons_succ, List.getElem?_cons_zero, List.set_cons_succ, List.set_cons_zero, frOf]); (repeat (first | with_reducible refine qx_next ?_ | with_reducible refine qx_cont ?_ | with_reducible refine qx_brk ?_ | with_reducible refine qx_nil ?_ | with_reducible refine q_nextI ?_ | with_reducible refine q_retI ?_ | with_reducible refine q_contI ?_ | with_reducible refine q_brkI ?_ | with_reducible refine ss_nilI ?_ | rw [q_next] | rw [q_ret] | rw [q_cont] | rw [q_brk] | rw [ss_nil])); (try simp only [r_next, r_ret]))
  refine go_cons (tryR_of ?_)
  ((try simp only [e_table, e_intT, e_int, e_bool, e_none, e_str, e_var, e_bin, e_neg, n_int, e_not, e_cmp, e_and, e_or, e_ite, e_sub, e_slice, e_list, e_tuple, e_call, e_ucall, e_meth, e_comp, t_not, t_and, t_or, t_cmp, t_var, t_sub, t_call, t_ucall, s_expr, s_assign, s_setitem, s_aug, s_augi, s_ifs, s_while, s_for, s_ret, s_brk, s_cont, ss_nil, c_range1, c_range2, c_range3, i_rng, i_ref, i_tup, i_enm, i_rev, bt_name, bt_tup, look_zero, look_succ, r_next, r_ret, sa_nil, sa_cons, es_nil, es_cons, o_none, o_some, ts_nil, ts_cons, c_lt, c_le, c_gt, c_ge, c_eq, c_ne, b_add, b_sub, b_mul, b_div, b_mod, b_pow, b_shr, a_add, a_mul, t_bool, t_int, List.map, List.cons_append, List.nil_append, List.getElem?_cons_succ, List.getElem?_cons_zero, List.set_cons_succ, List.set_cons_zero, frOf]); (repeat (first | with_reducible refine qx_next ?_ | with_reducible refine qx_cont ?_ | with_reducible refine qx_brk ?_ | with_reducible refine qx_nil ?_ | with_reducible refine q_nextI ?_ | with_reducible refine q_retI ?_ | with_reducible refine q_contI ?_ | with_reducible refine q_brkI ?_ | with_reducible refine ss_nilI ?_ | rw [q_next] | rw [q_ret] | rw [q_cont] | rw [q_brk] | rw [ss_nil])); (try simp only [r_next, r_ret]))
  refine call_len (listAt_list g1) ?_
  rw [List.length_map]
  refine h1 _ _ _ (.mk h xs xs.length rfl g1 (Nat.le_refl _) (by unfold BIG; omega) (fun _ => ?_) fun x hx' => ?_)
  · have d1 := dat_th hok (listAt_list g1)
    have d2 := dat_th hok (listAt_list (x1 _ _ hit))
    refine ⟨rfl, by simp, by omega, by omega, _, _, _, _, rfl, rfl, d1, d2, by have := depth_th xs; simp only [PyData.depth]; omega, ?_⟩
    rw [PySem.SeqAt.eqv_refl _ d1.lay]
    ((try simp only [e_table, e_intT, e_int, e_bool, e_none, e_str, e_var, e_bin, e_neg, n_int, e_not, e_cmp, e_and, e_or, e_ite, e_sub, e_slice, e_list, e_tuple, e_call, e_ucall, e_meth, e_comp, t_not, t_and, t_or, t_cmp, t_var, t_sub, t_call, t_ucall, s_expr, s_assign, s_setitem, s_aug, s_augi, s_ifs, s_while, s_for, s_ret, s_brk, s_cont, ss_nil, c_range1, c_range2, c_range3, i_rng, i_ref, i_tup, i_enm, i_rev, bt_name, bt_tup, look_zero, look_succ, r_next, r_ret, sa_nil, sa_cons, es_nil, es_cons, o_none, o_some, ts_nil, ts_cons, c_lt, c_le, c_gt, c_ge, c_eq, c_ne, b_add, b_sub, b_mul, b_div, b_mod, b_pow, b_shr, a_add, a_mul, t_bool, t_int, List.map, List.cons_append, List.nil_append, List.getElem?_cons_succ, List.getElem?_cons_zero, List.set_cons_succ, List.set_cons_zero, frOf]); (repeat (first | with_reducible refine qx_next ?_ | with_reducible refine qx_cont ?_ | with_reducible refine qx_brk ?_ | with_reducible refine qx_nil ?_ | with_reducible refine q_nextI ?_ | with_reducible refine q_retI ?_ | with_reducible refine q_contI ?_ | with_reducible refine q_brkI ?_ | with_reducible refine ss_nilI ?_ | rw [q_next] | rw [q_ret] | rw [q_cont] | rw [q_brk] | rw [ss_nil])); (try simp only [r_next, r_ret]))
    exact rfl
  · rw [List.getElem?_eq_none (Nat.le_refl _)] at hx'; cases hx'
theorem law02_v (Φ : Fns) (h1 : ∀ args Q σ, siftupX args Q σ → Φ 3001 args Q σ) (h4 : ∀ args Q σ, waysC args Q σ → Φ 4 args Q σ) (h5 : ∀ args Q σ, leftC args Q σ → Φ 5 args Q σ)
    (l : Addr) (ns : List Int) (hns : ns.length ≤ 63) (σ : Hp) (hl : listAt σ l = some (ns.map .int)) : vSs Φ ps_law02 (retV isTrue') [some (.ref l), none, none, none, none, none, none, none, none, none, none, none, none, none] σ := by
  unfold ps_law02
  ((first | with_reducible refine gx_of ?_ | with_reducible refine go_cons ?_); ((try simp only [e_table, e_intT, e_int, e_bool, e_none, e_str, e_var, e_bin, e_neg, n_int, e_not, e_cmp, e_and, e_or, e_ite, e_sub, e_slice, e_list, e_tuple, e_call, e_ucall, e_meth, e_comp, t_not, t_and, t_or, t_cmp, t_var, t_sub, t_call, t_ucall, s_expr, s_assign, s_setitem, s_aug, s_augi, s_ifs, s_while, s_for, s_ret, s_brk, s_cont, ss_nil, c_range1, c_range2, c_range3, i_rng, i_ref, i_tup, i_enm, i_rev, bt_name, bt_tup, look_zero, look_succ, r_next, r_ret, sa_nil, sa_cons, es_nil, es_cons, o_none, o_some, ts_nil, ts_cons, c_lt, c_le, c_gt, c_ge, c_eq, c_ne, b_add, b_sub, b_mul, b_div, b_mod, b_pow, b_shr, a_add, a_mul, t_bool, t_int, List.map, List.cons_append, List.nil_append, List.getElem?_cons_succ, List.getElem?_cons_zero, List.set_cons_succ, List.set_cons_zero, frOf]); (repeat (first | with_reducible refine qx_next ?_ | with_reducible refine qx_cont ?_ | with_reducible refine qx_brk ?_ | with_reducible refine qx_nil ?_ | with_reducible refine q_nextI ?_ | with_reducible refine q_retI ?_ | with_reducible refine q_contI ?_ | with_reducible refine q_brkI ?_ | with_reducible refine ss_nilI ?_ | rw [q_next] | rw [q_ret] | rw [q_cont] | rw [q_brk] | rw [ss_nil])); (try simp only [r_next, r_ret])))
  refine newL_of (big_of (n := 0) (by decide)) fun it σ1 x1 f1 g1 => ?_
  ((try simp only [e_table, e_intT, e_int, e_bool, e_none, e_str, e_var, e_bin, e_neg, n_int, e_not, e_cmp, e_and, e_or, e_ite, e_sub, e_slice, e_list, e_tuple, e_call, e_ucall, e_meth, e_comp, t_not, t_and, t_or, t_cmp, t_var, t_sub, t_call, t_ucall, s_expr, s_assign, s_setitem, s_aug, s_augi, s_ifs, s_while, s_for, s_ret, s_brk, s_cont, ss_nil, c_range1, c_range2, c_range3, i_rng, i_ref, i_tup, i_enm, i_rev, bt_name, bt_tup, look_zero, look_succ, r_next, r_ret, sa_nil, sa_cons, es_nil, es_cons, o_none, o_some, ts_nil, ts_cons, c_lt, c_le, c_gt, c_ge, c_eq, c_ne, b_add, b_sub, b_mul, b_div, b_mod, b_pow, b_shr, a_add, a_mul, t_bool, t_int, List.map, List.cons_append, List.nil_append, List.getElem?_cons_succ, List.getElem?_cons_zero, List.set_cons_succ, List.set_cons_zero, frOf]); (repeat (first | with_reducible refine qx_next ?_ | with_reducible refine qx_cont ?_ | with_reducible refine qx_brk ?_ | with_reducible refine qx_nil ?_ | with_reducible refine q_nextI ?_ | with_reducible refine q_retI ?_ | with_reducible refine q_contI ?_ | with_reducible refine q_brkI ?_ | with_reducible refine ss_nilI ?_ | rw [q_next] | rw [q_ret] | rw [q_cont] | rw [q_brk] | rw [ss_nil])); (try simp only [r_next, r_ret]))
  refine go_cons (items_v hns (x1.listAt hl) g1 fun e2 xs σ2 n6 n36 hok hit => q_nextI ?_)
  unfold ps02d Fr02
  ((first | with_reducible refine gx_of ?_ | with_reducible refine go_cons ?_); ((try simp only [e_table, e_intT, e_int, e_bool, e_none, e_str, e_var, e_bin, e_neg, n_int, e_not, e_cmp, e_and, e_or, e_ite, e_sub, e_slice, e_list, e_tuple, e_call, e_ucall, e_meth, e_comp, t_not, t_and, t_or, t_cmp, t_var, t_sub, t_call, t_ucall, s_expr, s_assign, s_setitem, s_aug, s_augi, s_ifs, s_while, s_for, s_ret, s_brk, s_cont, ss_nil, c_range1, c_range2, c_range3, i_rng, i_ref, i_tup, i_enm, i_rev, bt_name, bt_tup, look_zero, look_succ, r_next, r_ret, sa_nil, sa_cons, es_nil, es_cons, o_none, o_some, ts_nil, ts_cons, c_lt, c_le, c_gt, c_ge, c_eq, c_ne, b_add, b_sub, b_mul, b_div, b_mod, b_pow, b_shr, a_add, a_mul, t_bool, t_int, List.map, List.cons_append, List.nil_append, List.getElem?_cons_succ, List.getElem?_cons_zero, List.set_cons_succ, List.set_cons_zero, frOf]); (repeat (first | with_reducible refine qx_next ?_ | with_reducible refine qx_cont ?_ | with_reducible refine qx_brk ?_ | with_reducible refine qx_nil ?_ | with_reducible refine q_nextI ?_ | with_reducible refine q_retI ?_ | with_reducible refine q_contI ?_ | with_reducible refine q_brkI ?_ | with_reducible refine ss_nilI ?_ | rw [q_next] | rw [q_ret] | rw [q_cont] | rw [q_brk] | rw [ss_nil])); (try simp only [r_next, r_ret])))
  refine h4 _ _ _ (.mk it xs rfl (listAt_list hit) (by omega) fun d σ3 m n x3 f3 g3 hw => ?_)
  ((try simp only [e_table, e_intT, e_int, e_bool, e_none, e_str, e_var, e_bin, e_neg, n_int, e_not, e_cmp, e_and, e_or, e_ite, e_sub, e_slice, e_list, e_tuple, e_call, e_ucall, e_meth, e_comp, t_not, t_and, t_or, t_cmp, t_var, t_sub, t_call, t_ucall, s_expr, s_assign, s_setitem, s_aug, s_augi, s_ifs, s_while, s_for, s_ret, s_brk, s_cont, ss_nil, c_range1, c_range2, c_range3, i_rng, i_ref, i_tup, i_enm, i_rev, bt_name, bt_tup, look_zero, look_succ, r_next, r_ret, sa_nil, sa_cons, es_nil, es_cons, o_none, o_some, ts_nil, ts_cons, c_lt, c_le, c_gt, c_ge, c_eq, c_ne, b_add, b_sub, b_mul, b_div, b_mod, b_pow, b_shr, a_add, a_mul, t_bool, t_int, List.map, List.cons_append, List.nil_append, List.getElem?_cons_succ, List.getElem?_cons_zero, List.set_cons_succ, List.set_cons_zero, frOf]); (repeat (first | with_reducible refine qx_next ?_ | with_reducible refine qx_cont ?_ | with_reducible refine qx_brk ?_ | with_reducible refine qx_nil ?_ | with_reducible refine q_nextI ?_ | with_reducible refine q_retI ?_ | with_reducible refine q_contI ?_ | with_reducible refine q_brkI ?_ | with_reducible refine ss_nilI ?_ | rw [q_next] | rw [q_ret] | rw [q_cont] | rw [q_brk] | rw [ss_nil])); (try simp only [r_next, r_ret]))
  ((first | with_reducible refine gx_of ?_ | with_reducible refine go_cons ?_); ((try simp only [e_table, e_intT, e_int, e_bool, e_none, e_str, e_var, e_bin, e_neg, n_int, e_not, e_cmp, e_and, e_or, e_ite, e_sub, e_slice, e_list, e_tuple, e_call, e_ucall, e_meth, e_comp, t_not, t_and, t_or, t_cmp, t_var, t_sub, t_call, t_ucall, s_expr, s_assign, s_setitem, s_aug, s_augi, s_ifs, s_while, s_for, s_ret, s_brk, s_cont, ss_nil, c_range1, c_range2, c_range3, i_rng, i_ref, i_tup, i_enm, i_rev, bt_name, bt_tup, look_zero, look_succ, r_next, r_ret, sa_nil, sa_cons, es_nil, es_cons, o_none, o_some, ts_nil, ts_cons, c_lt, c_le, c_gt, c_ge, c_eq, c_ne, b_add, b_sub, b_mul, b_div, b_mod, b_pow, b_shr, a_add, a_mul, t_bool, t_int, List.map, List.cons_append, List.nil_append, List.getElem?_cons_succ, List.getElem?_cons_zero, List.set_cons_succ, List.set_cons_zero, frOf]); (repeat (first | with_reducible refine qx_next ?_ | with_reducible refine qx_cont ?_ | with_reducible refine qx_brk ?_ | with_reducible refine qx_nil ?_ | with_reducible refine q_nextI ?_ | with_reducible refine q_retI ?_ | with_reducible refine q_contI ?_ | with_reducible refine q_brkI ?_ | with_reducible refine ss_nilI ?_ | rw [q_next] | rw [q_ret] | rw [q_cont] | rw [q_brk] | rw [ss_nil])); (try simp only [r_next, r_ret])))
  refine call_len (listAt_list (x3 _ _ hit)) ?_
  rw [List.length_map]
  ((try simp only [e_table, e_intT, e_int, e_bool, e_none, e_str, e_var, e_bin, e_neg, n_int, e_not, e_cmp, e_and, e_or, e_ite, e_sub, e_slice, e_list, e_tuple, e_call, e_ucall, e_meth, e_comp, t_not, t_and, t_or, t_cmp, t_var, t_sub, t_call, t_ucall, s_expr, s_assign, s_setitem, s_aug, s_augi, s_ifs, s_while, s_for, s_ret, s_brk, s_cont, ss_nil, c_range1, c_range2, c_range3, i_rng, i_ref, i_tup, i_enm, i_rev, bt_name, bt_tup, look_zero, look_succ, r_next, r_ret, sa_nil, sa_cons, es_nil, es_cons, o_none, o_some, ts_nil, ts_cons, c_lt, c_le, c_gt, c_ge, c_eq, c_ne, b_add, b_sub, b_mul, b_div, b_mod, b_pow, b_shr, a_add, a_mul, t_bool, t_int, List.map, List.cons_append, List.nil_append, List.getElem?_cons_succ, List.getElem?_cons_zero, List.set_cons_succ, List.set_cons_zero, frOf]); (repeat (first | with_reducible refine qx_next ?_ | with_reducible refine qx_cont ?_ | with_reducible refine qx_brk ?_ | with_reducible refine qx_nil ?_ | with_reducible refine q_nextI ?_ | with_reducible refine q_retI ?_ | with_reducible refine q_contI ?_ | with_reducible refine q_brkI ?_ | with_reducible refine ss_nilI ?_ | rw [q_next] | rw [q_ret] | rw [q_cont] | rw [q_brk] | rw [ss_nil])); (try simp only [r_next, r_ret]))
  refine ⟨rok_of (by omega) (by omega) (by omega) (by omega), ?_⟩
  have rl : rlen 0 (xs.length : Int) 1 = xs.length := by unfold rlen; simp
  rw [rl]
  refine for_rule (xs := (List.range xs.length).map fun (i : Nat) => V.int (0 + (i : Int) * 1)) (fun k F τ => ∃ e4 e5 e6 e7 e8 e9 e10 e11 e12 e13, F = Fr02 l it e2 (some (.ref d)) e4 e5 e6 e7 e8 e9 e10 e11 e12 e13 ∧ Ext σ3 τ) (yields_rng _ _ _ _) ?_ ?_ ?_
  · exact ⟨_, _, _, _, _, _, _, _, _, _, rfl, .rfl⟩
  · rintro k x F τ hx ⟨e4, e5, e6, e7, e8, e9, e10, e11, e12, e13, rfl, hE⟩ K k1 k2 k3 k4
    have hk : k < xs.length := by have := lt_of_some hx; simpa using this
    have hx' : x = .int (k : Nat) := by simp [hk] at hx; exact hx.symm
    subst hx'
    unfold Fr02
    ((try simp only [e_table, e_intT, e_int, e_bool, e_none, e_str, e_var, e_bin, e_neg, n_int, e_not, e_cmp, e_and, e_or, e_ite, e_sub, e_slice, e_list, e_tuple, e_call, e_ucall, e_meth, e_comp, t_not, t_and, t_or, t_cmp, t_var, t_sub, t_call, t_ucall, s_expr, s_assign, s_setitem, s_aug, s_augi, s_ifs, s_while, s_for, s_ret, s_brk, s_cont, ss_nil, c_range1, c_range2, c_range3, i_rng, i_ref, i_tup, i_enm, i_rev, bt_name, bt_tup, look_zero, look_succ, r_next, r_ret, sa_nil, sa_cons, es_nil, es_cons, o_none, o_some, ts_nil, ts_cons, c_lt, c_le, c_gt, c_ge, c_eq, c_ne, b_add, b_sub, b_mul, b_div, b_mod, b_pow, b_shr, a_add, a_mul, t_bool, t_int, List.map, List.cons_append, List.nil_append, List.getElem?_cons_succ, List.getElem?_cons_zero, List.set_cons_succ, List.set_cons_zero, frOf]); (repeat (first | with_reducible refine qx_next ?_ | with_reducible refine qx_cont ?_ | with_reducible refine qx_brk ?_ | with_reducible refine qx_nil ?_ | with_reducible refine q_nextI ?_ | with_reducible refine q_retI ?_ | with_reducible refine q_contI ?_ | with_reducible refine q_brkI ?_ | with_reducible refine ss_nilI ?_ | rw [q_next] | rw [q_ret] | rw [q_cont] | rw [q_brk] | rw [ss_nil])); (try simp only [r_next, r_ret]))
    exact body_v h1 h5 n36 hok hk (hE _ _ (x3 _ _ hit)) (hE _ _ g3) ((hw k hk).ext hE) fun τ' e5 e6 e7 e8 e9 e10 e11 e12 e13 x4 => k1 _ _ ⟨_, _, _, _, _, _, _, _, _, _, rfl, hE.trans x4⟩
  · rintro F τ ⟨e4, e5, e6, e7, e8, e9, e10, e11, e12, e13, rfl, hE⟩
    refine q_nextI ?_
    exact end02_v h1 n36 hok (hE _ _ (x3 _ _ hit))
end

/-! GcN -/
/-- the end: the law answers True -/
theorem good_true {l : OpenLaw} {cl : Str → Option Addr} {mean : ExcName → Option Value} {args : List WData} {s₁ s' : Shared} {σ : Hp} {v : Value} (hg : s₁.gens = #[]) (p : PV s₁.heap σ s₁ (fun v _ => v = .bool true) v s') :
    GoodW l.row.claim cl mean args s₁ (.ok (.ret v)) s' := by
  obtain ⟨x, σ', r, ⟨st, m⟩, rfl⟩ := p
  cases r
  refine ⟨.inl ⟨.bool true, .bool true, [], rfl, fun cls => rfl, ?_, ?_, ?_⟩, st.w.stays, m.1, m.2.trans hg⟩
  · exact .bool true
  · exact postW_of (r := l.row.toRowW) (by simp only [OpenLaw.row]; unfold WShape.has; simp; exact ⟨.bool, by simp [WShape.arms], rfl⟩) (w_eq_bool (w_res rfl) w_lit) rfl
  · intro _; exact ⟨List.nodup_nil, fun a m => by cases m⟩
theorem len_cons {α : Type} {n : Nat} {l : List α} (h : l.length = n + 1) : ∃ a t, l = a :: t ∧ t.length = n := by
  cases l with
  | nil => cases h
  | cons a t => exact ⟨a, t, rfl, Nat.succ.inj h⟩
/-- the def at a place of the text -/
noncomputable def defAt (p : Program) (i : Nat) : Arguments × List Stmt × Scope := match p.main.body[i]? with
  | some (.FunctionDef _ a b _ _ _ sc _ _ _) => (a, b, sc)
  | _ => (⟨[], [], none, [], [], none, []⟩, [], ⟨.function, [], false, false, []⟩)
noncomputable def recIn (p : Program) (name : Str) : DefRec := match defOf p name with
  | some (d, _) => d
  | none => ⟨name, ⟨[], [], none, [], [], none, []⟩, [], ⟨.function, [], false, false, []⟩, ⟨0, 0, 0, 0⟩⟩
theorem FnOk.false {prog : Program} {w : World} {h₀ : Heap} {n : Nat} {fa : Addr} {o : Obj} {fd : FuncData} (ho : h₀.get? fa = some o) (hd : o.data = .func fd) : FnOk prog w h₀ n (.ref fa) (fun _ _ _ => False) :=
  ⟨fa, o, fd, rfl, ho, hd, fun _ _ _ _ _ _ _ _ _ _ _ _ _ _ _ _ f => f.elim⟩
noncomputable def Φs (l : List (List V → (V → Hp → Prop) → Hp → Prop)) : Fns := fun i => match l[i]? with | some C => C | none => fun _ _ _ => False
theorem dfl {mg : Str → Option Value} {h : Heap} {params : Arguments} {dV kV : Value} (D : Dflts mg h params [] dV kV) (hp : params.defaults = []) : dV = .none ∧ kV = .none := by
  refine ⟨?_, ?_⟩
  · rcases D.pos with ⟨_, e⟩ | ⟨n, _⟩
    · exact e
    · exact absurd hp n
  · rcases D.kw with ⟨_, e⟩ | ⟨n, _⟩
    · exact e
    · exact absurd rfl n
/-- a def with no defaults, as the ground shows it -/
noncomputable def Shown (mg : Str → Option Value) (h : Heap) (name : Str) (d : DefRec) : Prop :=
  ∃ a o pm cd doc, mg name = some (.ref a) ∧ h.get? a = some o ∧ o.data = .func { Calls.docDef d.name d.params d.body d.scope pm cd doc with defaults := .none, kwdefaults := .none } ∧ h.CodeRec cd d.name
theorem shown_of {p : Program} {loose : List Str} {R : WRecords} {XP : (Str → Option Value) → Heap → Prop} {w : World} {s₀ : Shared} {mg mb : Str → Option Value} {h : Heap}
    (G : Ground p loose R XP w s₀ mg mb h) (name : Str) (d : DefRec) (e : defOf p name = some (d, [])) (hp : d.params.defaults = []) : Shown mg h name d := by
  obtain ⟨a, o, pm, cd, doc, dV, kV, h1, h2, h3, h4, h5⟩ := G.fn e
  obtain ⟨rfl, rfl⟩ := dfl h5 hp
  exact ⟨a, o, pm, cd, doc, h1, h2, h3, h4⟩

/-! X2 -/
section
variable {prog : Program} {w : World} {A : Around} {E : Value → Shared → Prop} {s : Shared}
end
/-! H1 -/
/-! GcK -/
/-! the ground of laws with functions as values -/
noncomputable def noC : List V → (V → Hp → Prop) → Hp → Prop := fun _ _ _ => False
theorem cv_no {prog : Program} {w : World} {h₀ : Heap} {n : Nat} (fd : FuncData) : FdOk prog w h₀ n fd (fun args Q σ => noC (.func fd :: args) Q σ) := fun _ _ _ _ _ _ _ _ _ _ _ _ _ _ _ _ f => f.elim
noncomputable def only (fdT : FuncData) (C : List V → (V → Hp → Prop) → Hp → Prop) (fd : FuncData) (args : List V) (Q : V → Hp → Prop) (σ : Hp) : Prop := fd = fdT ∧ C args Q σ
/-- a def as the ground shows it -/
inductive AtDef (mg : Str → Option Value) (h₀ : Heap) (name : Str) (A : Arguments × List Stmt × Scope) (fns params : List Str) (ps : List PS) : Prop
  | mk (a : Addr) (o : Obj) (fd : FuncData) (m : mg name = some (.ref a)) (g : h₀.get? a = some o) (d : o.data = .func fd) (c : h₀.CodeRec fd.code fd.qualname) (p : fd.params = A.1) (s : fd.scope = A.2.2) (D : DefOk h₀ fd fns params A.2.1 ps) : AtDef mg h₀ name A fns params ps
/-! Hn02 -/
set_option Elab.async false
set_option maxHeartbeats 8000000
noncomputable def vw02 : Program := PySem.Challenge.rw_dm0137_02.row.prog
theorem said02 : OpenLaw.wellSaid PySem.Challenge.rw_dm0137_02 = true := by decide +kernel
theorem left02 : LeftO PySem.Challenge.rw_dm0137_02.row.toRowW.prog vw02 [] (fun s => xlAt vw02 [] s && recOk (RowW.records PySem.Challenge.rw_dm0137_02.row.toRowW) s) (Hook.obs Hook.none) (Hook.val Hook.none) 900 := fun w => by kernel_rfl
theorem deflaw02 : defOf vw02 "law" = some (recIn vw02 "law", []) := by kernel_rfl
theorem thelaw02 : vw02.theDef "law" = some ((recIn vw02 "law").params, (recIn vw02 "law").body, (recIn vw02 "law").scope) := by kernel_rfl
theorem kwlaw02 : kwWritten? (recIn vw02 "law").params.kwonlyargs (recIn vw02 "law").params.kw_defaults = some [] := by kernel_rfl
theorem hd02 (call : WalkO vw02 [] (XL vw02 []) (Hook.says Hook.none) PySem.Challenge.rw_dm0137_02.row.toRowW (recIn vw02 "law") [] fun f vs => PySem.call f vs) : PySem.Challenge.rw_dm0137_02.Holds :=
  holds_law said02 fun said => holds_open (q := vw02) (loose := []) (Xt := fun s => xlAt vw02 [] s && recOk (RowW.records PySem.Challenge.rw_dm0137_02.row.toRowW) s) (XP := XL vw02 []) (Yf := Hook.obs Hook.none) (Ya := Hook.val Hook.none) (YP := Hook.says Hook.none) (N := 900) left02 (Hook.of Hook.none) (Hook.keeps Hook.none)
    (fun s e => xl_of s (Bool.and_eq_true_iff.mp e).1) XL.keeps deflaw02 thelaw02 kwlaw02 (fun s e => recFacts_of (Bool.and_eq_true_iff.mp e).2) (by rfl) said (by decide +kernel) ⟨rfl, rfl, rfl, rfl, rfl, by decide +kernel⟩ (by w_witness2) call

/-! Go02 -/
noncomputable def fns02 : List Str := ["_siftdown_max", "_siftup_max", "_law_kind", "_law_words", "_law_ways", "_law_left", "law"]

theorem def_sd : defOf vw02 "_siftdown_max" = some ((recIn vw02 "_siftdown_max"), []) := by kernel_rfl
theorem bd_sd : (recIn vw02 "_siftdown_max").params = (defAt PySem.Challenge.pw_dm0137_02 1).1 ∧ (recIn vw02 "_siftdown_max").body = (defAt PySem.Challenge.pw_dm0137_02 1).2.1 ∧ (recIn vw02 "_siftdown_max").scope = (defAt PySem.Challenge.pw_dm0137_02 1).2.2 := ⟨by kernel_rfl, by kernel_rfl, by kernel_rfl⟩
theorem bind_sd (fd : FuncData) (h1 : fd.params = (defAt PySem.Challenge.pw_dm0137_02 1).1) (h2 : fd.defaults = .none) (h3 : fd.kwdefaults = .none) : ∀ vals : List Value, vals.length = (["heap", "startpos", "pos"] : List Str).length → bindArgs fd ⟨vals, []⟩ = pure ((["heap", "startpos", "pos"] : List Str).zip vals) := by
  intro vals hv
  obtain ⟨x0, t0, rfl, q0⟩ := len_cons (n := 2) hv
  obtain ⟨x1, t1, rfl, q1⟩ := len_cons (n := 1) q0
  obtain ⟨x2, t2, rfl, q2⟩ := len_cons (n := 0) q1
  obtain rfl := List.eq_nil_of_length_eq_zero q2
  unfold bindArgs
  rw [h1, h2, h3]
  rfl
theorem cx_sd : CSXs { sc := (defAt PySem.Challenge.pw_dm0137_02 1).2.2.names, fns := fns02 } (defAt PySem.Challenge.pw_dm0137_02 1).2.1 xs_siftdown := by
  unfold xs_siftdown
  exact (CSXs.cons (CSX.of (CS.assign rfl (by decide) (CE.sub (CE.var rfl (by decide) (by decide)) (CE.var rfl (by decide) (by decide)) (fun _ _ => rfl)) (fun _ => rfl))) (CSXs.cons (CSX.whil (CT.cmp (CE.var rfl (by decide) (by decide)) (CE.var rfl (by decide) (by decide)) rfl) (CSXs.cons (CSX.of (CS.assign rfl (by decide) (CE.bin (CE.bin (CE.var rfl (by decide) (by decide)) CE.int) CE.int) (fun _ => rfl))) (CSXs.cons (CSX.of (CS.assign rfl (by decide) (CE.sub (CE.var rfl (by decide) (by decide)) (CE.var rfl (by decide) (by decide)) (fun _ _ => rfl)) (fun _ => rfl))) (CSXs.cons (CSX.ifs (CTX.lt (CE.var rfl (by decide) (by decide)) (CE.var rfl (by decide) (by decide)) rfl) (CSs.cons (CS.setitem (CE.var rfl (by decide) (by decide)) (CE.var rfl (by decide) (by decide)) (CE.var rfl (by decide) (by decide)) (fun _ => rfl)) (CSs.cons (CS.assign rfl (by decide) (CE.var rfl (by decide) (by decide)) (fun _ => rfl)) (CSs.cons CS.cont CSs.nil))) CSs.nil) (CSXs.cons (CSX.of CS.brk) CSXs.nil))))) (CSXs.cons (CSX.of (CS.setitem (CE.var rfl (by decide) (by decide)) (CE.var rfl (by decide) (by decide)) (CE.var rfl (by decide) (by decide)) (fun _ => rfl))) CSXs.nil)))
theorem fr_sd (a b c : V) : initF { sc := (defAt PySem.Challenge.pw_dm0137_02 1).2.2.names, fns := fns02 } (["heap", "startpos", "pos"] : List Str) [a, b, c] = [a, b, c].map some ++ [none, none, none] := by first | rfl | kernel_rfl
/-- the def as the ground shows it -/
theorem at_sd {mg : Str → Option Value} {h₀ : Heap} (h : Shown mg h₀ "_siftdown_max" (recIn vw02 "_siftdown_max")) : AtDef mg h₀ "_siftdown_max" (defAt PySem.Challenge.pw_dm0137_02 1) fns02 (["heap", "startpos", "pos"] : List Str) [PS.no] := by
  obtain ⟨a, o, pm, cd, doc, h1, h2, h3, h4⟩ := h
  obtain ⟨e1, e2, e3⟩ := bd_sd
  refine ⟨a, o, _, h1, h2, h3, h4, e1, e3, ⟨congrArg FuncBody.stmts e2, fun s hs vals hv => BindsTo.of_eq (bind_sd _ e1 rfl rfl vals hv), rfl, rfl, rfl, ?_, ?_, ?_, ?_, ?_, ?_, by decide, ?_⟩⟩
  · show (recIn vw02 "_siftdown_max").scope.isCoroutine = false
    rw [e3]; rfl
  · show (recIn vw02 "_siftdown_max").scope.isGenerator = false
    rw [e3]; rfl
  · show (recIn vw02 "_siftdown_max").scope.kind = .function
    rw [e3]; rfl
  · show ((recIn vw02 "_siftdown_max").scope.names.map (·.1)).Nodup
    rw [e3]; decide +kernel
  · show ∀ x ∈ (recIn vw02 "_siftdown_max").scope.names, x.2 ≠ .free
    rw [e3]; decide +kernel
  · show ∀ x ∈ (["heap", "startpos", "pos"] : List Str), (recIn vw02 "_siftdown_max").scope.names.lookup x = some .local ∨ (recIn vw02 "_siftdown_max").scope.names.lookup x = some .cell
    rw [e3]; decide +kernel
  · show CSs { sc := (recIn vw02 "_siftdown_max").scope.names, fns := fns02 } _ _
    rw [e3]; exact css_no

theorem def_su : defOf vw02 "_siftup_max" = some ((recIn vw02 "_siftup_max"), []) := by kernel_rfl
theorem bd_su : (recIn vw02 "_siftup_max").params = (defAt PySem.Challenge.pw_dm0137_02 2).1 ∧ (recIn vw02 "_siftup_max").body = (defAt PySem.Challenge.pw_dm0137_02 2).2.1 ∧ (recIn vw02 "_siftup_max").scope = (defAt PySem.Challenge.pw_dm0137_02 2).2.2 := ⟨by kernel_rfl, by kernel_rfl, by kernel_rfl⟩
theorem bind_su (fd : FuncData) (h1 : fd.params = (defAt PySem.Challenge.pw_dm0137_02 2).1) (h2 : fd.defaults = .none) (h3 : fd.kwdefaults = .none) : ∀ vals : List Value, vals.length = (["heap", "pos"] : List Str).length → bindArgs fd ⟨vals, []⟩ = pure ((["heap", "pos"] : List Str).zip vals) := by
  intro vals hv
  obtain ⟨x0, t0, rfl, q0⟩ := len_cons (n := 1) hv
  obtain ⟨x1, t1, rfl, q1⟩ := len_cons (n := 0) q0
  obtain rfl := List.eq_nil_of_length_eq_zero q1
  unfold bindArgs
  rw [h1, h2, h3]
  rfl
theorem cx_su : CSXs { sc := (defAt PySem.Challenge.pw_dm0137_02 2).2.2.names, fns := fns02 } (defAt PySem.Challenge.pw_dm0137_02 2).2.1 xs_siftup := by
  unfold xs_siftup
  exact (CSXs.cons (CSX.of (CS.assign rfl (by decide) (CE.call rfl (by decide) (CEs.cons (CE.var rfl (by decide) (by decide)) CEs.nil (fun _ => rfl))) (fun _ => rfl))) (CSXs.cons (CSX.of (CS.assign rfl (by decide) (CE.var rfl (by decide) (by decide)) (fun _ => rfl))) (CSXs.cons (CSX.assign rfl (by decide) (CEX.sub (CE.var rfl (by decide) (by decide)) (CE.var rfl (by decide) (by decide)) (fun _ _ => rfl)) (fun _ => rfl)) (CSXs.cons (CSX.of (CS.assign rfl (by decide) (CE.bin (CE.bin CE.int (CE.var rfl (by decide) (by decide))) CE.int) (fun _ => rfl))) (CSXs.cons (CSX.whil (CT.cmp (CE.var rfl (by decide) (by decide)) (CE.var rfl (by decide) (by decide)) rfl) (CSXs.cons (CSX.of (CS.assign rfl (by decide) (CE.bin (CE.var rfl (by decide) (by decide)) CE.int) (fun _ => rfl))) (CSXs.cons (CSX.ifs (CTX.and (CT.cmp (CE.var rfl (by decide) (by decide)) (CE.var rfl (by decide) (by decide)) rfl) (CTX.not (CTX.lt (CE.sub (CE.var rfl (by decide) (by decide)) (CE.var rfl (by decide) (by decide)) (fun _ _ => rfl)) (CE.sub (CE.var rfl (by decide) (by decide)) (CE.var rfl (by decide) (by decide)) (fun _ _ => rfl)) rfl))) (CSs.cons (CS.assign rfl (by decide) (CE.var rfl (by decide) (by decide)) (fun _ => rfl)) CSs.nil) CSs.nil) (CSXs.cons (CSX.of (CS.setitem (CE.var rfl (by decide) (by decide)) (CE.var rfl (by decide) (by decide)) (CE.sub (CE.var rfl (by decide) (by decide)) (CE.var rfl (by decide) (by decide)) (fun _ _ => rfl)) (fun _ => rfl))) (CSXs.cons (CSX.of (CS.assign rfl (by decide) (CE.var rfl (by decide) (by decide)) (fun _ => rfl))) (CSXs.cons (CSX.of (CS.assign rfl (by decide) (CE.bin (CE.bin CE.int (CE.var rfl (by decide) (by decide))) CE.int) (fun _ => rfl))) CSXs.nil)))))) (CSXs.cons (CSX.of (CS.setitem (CE.var rfl (by decide) (by decide)) (CE.var rfl (by decide) (by decide)) (CE.var rfl (by decide) (by decide)) (fun _ => rfl))) (CSXs.cons (CSX.expr (CEX.ucall rfl (by decide) (by decide) (by decide) (CEs.cons (CE.var rfl (by decide) (by decide)) (CEs.cons (CE.var rfl (by decide) (by decide)) (CEs.cons (CE.var rfl (by decide) (by decide)) CEs.nil (fun _ => rfl)) (fun _ => rfl)) (fun _ => rfl))) (fun _ => rfl)) CSXs.nil)))))))
theorem fr_su (a b : V) : initF { sc := (defAt PySem.Challenge.pw_dm0137_02 2).2.2.names, fns := fns02 } (["heap", "pos"] : List Str) [a, b] = [a, b].map some ++ [none, none, none, none, none] := by first | rfl | kernel_rfl
/-- the def as the ground shows it -/
theorem at_su {mg : Str → Option Value} {h₀ : Heap} (h : Shown mg h₀ "_siftup_max" (recIn vw02 "_siftup_max")) : AtDef mg h₀ "_siftup_max" (defAt PySem.Challenge.pw_dm0137_02 2) fns02 (["heap", "pos"] : List Str) [PS.no] := by
  obtain ⟨a, o, pm, cd, doc, h1, h2, h3, h4⟩ := h
  obtain ⟨e1, e2, e3⟩ := bd_su
  refine ⟨a, o, _, h1, h2, h3, h4, e1, e3, ⟨congrArg FuncBody.stmts e2, fun s hs vals hv => BindsTo.of_eq (bind_su _ e1 rfl rfl vals hv), rfl, rfl, rfl, ?_, ?_, ?_, ?_, ?_, ?_, by decide, ?_⟩⟩
  · show (recIn vw02 "_siftup_max").scope.isCoroutine = false
    rw [e3]; rfl
  · show (recIn vw02 "_siftup_max").scope.isGenerator = false
    rw [e3]; rfl
  · show (recIn vw02 "_siftup_max").scope.kind = .function
    rw [e3]; rfl
  · show ((recIn vw02 "_siftup_max").scope.names.map (·.1)).Nodup
    rw [e3]; decide +kernel
  · show ∀ x ∈ (recIn vw02 "_siftup_max").scope.names, x.2 ≠ .free
    rw [e3]; decide +kernel
  · show ∀ x ∈ (["heap", "pos"] : List Str), (recIn vw02 "_siftup_max").scope.names.lookup x = some .local ∨ (recIn vw02 "_siftup_max").scope.names.lookup x = some .cell
    rw [e3]; decide +kernel
  · show CSs { sc := (recIn vw02 "_siftup_max").scope.names, fns := fns02 } _ _
    rw [e3]; exact css_no

theorem def_ki : defOf vw02 "_law_kind" = some ((recIn vw02 "_law_kind"), []) := by kernel_rfl
theorem bd_ki : (recIn vw02 "_law_kind").params = (defAt PySem.Challenge.pw_dm0137_02 4).1 ∧ (recIn vw02 "_law_kind").body = (defAt PySem.Challenge.pw_dm0137_02 4).2.1 ∧ (recIn vw02 "_law_kind").scope = (defAt PySem.Challenge.pw_dm0137_02 4).2.2 := ⟨by kernel_rfl, by kernel_rfl, by kernel_rfl⟩
theorem bind_ki (fd : FuncData) (h1 : fd.params = (defAt PySem.Challenge.pw_dm0137_02 4).1) (h2 : fd.defaults = .none) (h3 : fd.kwdefaults = .none) : ∀ vals : List Value, vals.length = (["item"] : List Str).length → bindArgs fd ⟨vals, []⟩ = pure ((["item"] : List Str).zip vals) := by
  intro vals hv
  obtain ⟨x0, t0, rfl, q0⟩ := len_cons (n := 0) hv
  obtain rfl := List.eq_nil_of_length_eq_zero q0
  unfold bindArgs
  rw [h1, h2, h3]
  rfl
theorem cs_ki : CSs { sc := (defAt PySem.Challenge.pw_dm0137_02 4).2.2.names, fns := fns02 } (defAt PySem.Challenge.pw_dm0137_02 4).2.1 ps_kind := by
  unfold ps_kind
  exact (CSs.cons (CS.ret (CE.ite (CT.call (CE.call rfl (by decide) (CEs.cons (CE.var rfl (by decide) (by decide)) (CEs.cons (CE.intT rfl (by decide)) CEs.nil (fun _ => rfl)) (fun _ => rfl)))) CE.str CE.str)) CSs.nil)
theorem fr_ki (a : V) : initF { sc := (defAt PySem.Challenge.pw_dm0137_02 4).2.2.names, fns := fns02 } (["item"] : List Str) [a] = [a].map some ++ [] := by first | rfl | kernel_rfl
/-- the def as the ground shows it -/
theorem at_ki {mg : Str → Option Value} {h₀ : Heap} (h : Shown mg h₀ "_law_kind" (recIn vw02 "_law_kind")) : AtDef mg h₀ "_law_kind" (defAt PySem.Challenge.pw_dm0137_02 4) fns02 (["item"] : List Str) ps_kind := by
  obtain ⟨a, o, pm, cd, doc, h1, h2, h3, h4⟩ := h
  obtain ⟨e1, e2, e3⟩ := bd_ki
  refine ⟨a, o, _, h1, h2, h3, h4, e1, e3, ⟨congrArg FuncBody.stmts e2, fun s hs vals hv => BindsTo.of_eq (bind_ki _ e1 rfl rfl vals hv), rfl, rfl, rfl, ?_, ?_, ?_, ?_, ?_, ?_, by decide, ?_⟩⟩
  · show (recIn vw02 "_law_kind").scope.isCoroutine = false
    rw [e3]; rfl
  · show (recIn vw02 "_law_kind").scope.isGenerator = false
    rw [e3]; rfl
  · show (recIn vw02 "_law_kind").scope.kind = .function
    rw [e3]; rfl
  · show ((recIn vw02 "_law_kind").scope.names.map (·.1)).Nodup
    rw [e3]; decide +kernel
  · show ∀ x ∈ (recIn vw02 "_law_kind").scope.names, x.2 ≠ .free
    rw [e3]; decide +kernel
  · show ∀ x ∈ (["item"] : List Str), (recIn vw02 "_law_kind").scope.names.lookup x = some .local ∨ (recIn vw02 "_law_kind").scope.names.lookup x = some .cell
    rw [e3]; decide +kernel
  · show CSs { sc := (recIn vw02 "_law_kind").scope.names, fns := fns02 } _ _
    rw [e3]; exact cs_ki

theorem def_wo : defOf vw02 "_law_words" = some ((recIn vw02 "_law_words"), []) := by kernel_rfl
theorem bd_wo : (recIn vw02 "_law_words").params = (defAt PySem.Challenge.pw_dm0137_02 5).1 ∧ (recIn vw02 "_law_words").body = (defAt PySem.Challenge.pw_dm0137_02 5).2.1 ∧ (recIn vw02 "_law_words").scope = (defAt PySem.Challenge.pw_dm0137_02 5).2.2 := ⟨by kernel_rfl, by kernel_rfl, by kernel_rfl⟩
theorem bind_wo (fd : FuncData) (h1 : fd.params = (defAt PySem.Challenge.pw_dm0137_02 5).1) (h2 : fd.defaults = .none) (h3 : fd.kwdefaults = .none) : ∀ vals : List Value, vals.length = (["left", "right"] : List Str).length → bindArgs fd ⟨vals, []⟩ = pure ((["left", "right"] : List Str).zip vals) := by
  intro vals hv
  obtain ⟨x0, t0, rfl, q0⟩ := len_cons (n := 1) hv
  obtain ⟨x1, t1, rfl, q1⟩ := len_cons (n := 0) q0
  obtain rfl := List.eq_nil_of_length_eq_zero q1
  unfold bindArgs
  rw [h1, h2, h3]
  rfl
theorem cs_wo : CSs { sc := (defAt PySem.Challenge.pw_dm0137_02 5).2.2.names, fns := fns02 } (defAt PySem.Challenge.pw_dm0137_02 5).2.1 ps_words := by
  unfold ps_words
  exact (CSs.cons (CS.ret (CE.bin (CE.bin (CE.bin (CE.bin CE.str (CE.ucall rfl (by decide) (by decide) (by decide) (CEs.cons (CE.var rfl (by decide) (by decide)) CEs.nil (fun _ => rfl)))) CE.str) (CE.ucall rfl (by decide) (by decide) (by decide) (CEs.cons (CE.var rfl (by decide) (by decide)) CEs.nil (fun _ => rfl)))) CE.str)) CSs.nil)
theorem fr_wo (a b : V) : initF { sc := (defAt PySem.Challenge.pw_dm0137_02 5).2.2.names, fns := fns02 } (["left", "right"] : List Str) [a, b] = [a, b].map some ++ [] := by first | rfl | kernel_rfl
/-- the def as the ground shows it -/
theorem at_wo {mg : Str → Option Value} {h₀ : Heap} (h : Shown mg h₀ "_law_words" (recIn vw02 "_law_words")) : AtDef mg h₀ "_law_words" (defAt PySem.Challenge.pw_dm0137_02 5) fns02 (["left", "right"] : List Str) ps_words := by
  obtain ⟨a, o, pm, cd, doc, h1, h2, h3, h4⟩ := h
  obtain ⟨e1, e2, e3⟩ := bd_wo
  refine ⟨a, o, _, h1, h2, h3, h4, e1, e3, ⟨congrArg FuncBody.stmts e2, fun s hs vals hv => BindsTo.of_eq (bind_wo _ e1 rfl rfl vals hv), rfl, rfl, rfl, ?_, ?_, ?_, ?_, ?_, ?_, by decide, ?_⟩⟩
  · show (recIn vw02 "_law_words").scope.isCoroutine = false
    rw [e3]; rfl
  · show (recIn vw02 "_law_words").scope.isGenerator = false
    rw [e3]; rfl
  · show (recIn vw02 "_law_words").scope.kind = .function
    rw [e3]; rfl
  · show ((recIn vw02 "_law_words").scope.names.map (·.1)).Nodup
    rw [e3]; decide +kernel
  · show ∀ x ∈ (recIn vw02 "_law_words").scope.names, x.2 ≠ .free
    rw [e3]; decide +kernel
  · show ∀ x ∈ (["left", "right"] : List Str), (recIn vw02 "_law_words").scope.names.lookup x = some .local ∨ (recIn vw02 "_law_words").scope.names.lookup x = some .cell
    rw [e3]; decide +kernel
  · show CSs { sc := (recIn vw02 "_law_words").scope.names, fns := fns02 } _ _
    rw [e3]; exact cs_wo

theorem def_wa : defOf vw02 "_law_ways" = some ((recIn vw02 "_law_ways"), []) := by kernel_rfl
theorem bd_wa : (recIn vw02 "_law_ways").params = (defAt PySem.Challenge.pw_dm0137_02 6).1 ∧ (recIn vw02 "_law_ways").body = (defAt PySem.Challenge.pw_dm0137_02 6).2.1 ∧ (recIn vw02 "_law_ways").scope = (defAt PySem.Challenge.pw_dm0137_02 6).2.2 := ⟨by kernel_rfl, by kernel_rfl, by kernel_rfl⟩
theorem bind_wa (fd : FuncData) (h1 : fd.params = (defAt PySem.Challenge.pw_dm0137_02 6).1) (h2 : fd.defaults = .none) (h3 : fd.kwdefaults = .none) : ∀ vals : List Value, vals.length = (["items"] : List Str).length → bindArgs fd ⟨vals, []⟩ = pure ((["items"] : List Str).zip vals) := by
  intro vals hv
  obtain ⟨x0, t0, rfl, q0⟩ := len_cons (n := 0) hv
  obtain rfl := List.eq_nil_of_length_eq_zero q0
  unfold bindArgs
  rw [h1, h2, h3]
  rfl
theorem cs_wa : CSs { sc := (defAt PySem.Challenge.pw_dm0137_02 6).2.2.names, fns := fns02 } (defAt PySem.Challenge.pw_dm0137_02 6).2.1 ps_ways := by
  unfold ps_ways
  exact (CSs.cons (CS.assign rfl (by decide) CE.table (fun _ => rfl)) (CSs.cons (CS.for (CG.name rfl (by decide)) (CI.plain (CE.call rfl (by decide) (CEs.cons (CE.bin (CE.call rfl (by decide) (CEs.cons (CE.var rfl (by decide) (by decide)) CEs.nil (fun _ => rfl))) CE.int) (CEs.cons (CE.neg CE.int) (CEs.cons (CE.neg CE.int) CEs.nil (fun _ => rfl)) (fun _ => rfl)) (fun _ => rfl))) (fun _ _ => rfl)) ((by intro h; cases h)) (CSs.cons (CS.assignC rfl (by decide) ⟨by decide, rfl, by decide, (CI.plain (CE.tuple (CEs.cons (CE.bin (CE.bin CE.int (CE.var rfl (by decide) (by decide))) CE.int) (CEs.cons (CE.bin (CE.bin CE.int (CE.var rfl (by decide) (by decide))) CE.int) CEs.nil (fun _ => rfl)) (fun _ => rfl))) (fun _ _ => rfl)), (by intro h; cases h), (CG.name rfl (by decide)), (CE.var rfl (by decide) (by decide)), (CTs.cons (CT.cmp (CE.var rfl (by decide) (by decide)) (CE.call rfl (by decide) (CEs.cons (CE.var rfl (by decide) (by decide)) CEs.nil (fun _ => rfl))) rfl) CTs.nil)⟩) (CSs.cons (CS.ifs (CT.cmp (CE.var rfl (by decide) (by decide)) (CE.list CEs.nil) rfl) (CSs.cons (CS.setitem (CE.var rfl (by decide) (by decide)) (CE.var rfl (by decide) (by decide)) (CE.tuple (CEs.cons (CE.list (CEs.cons (CE.var rfl (by decide) (by decide)) CEs.nil (fun _ => rfl))) (CEs.cons CE.str CEs.nil (fun _ => rfl)) (fun _ => rfl))) (fun _ => rfl)) CSs.nil) (CSs.cons (CS.ifs (CT.cmp (CE.ucall rfl (by decide) (by decide) (by decide) (CEs.cons (CE.sub (CE.var rfl (by decide) (by decide)) (CE.sub (CE.var rfl (by decide) (by decide)) CE.int (fun _ _ => rfl)) (fun _ _ => rfl)) CEs.nil (fun _ => rfl))) (CE.ucall rfl (by decide) (by decide) (by decide) (CEs.cons (CE.sub (CE.var rfl (by decide) (by decide)) (CE.sub (CE.var rfl (by decide) (by decide)) (CE.neg CE.int) (fun _ _ => rfl)) (fun _ _ => rfl)) CEs.nil (fun _ => rfl))) rfl) (CSs.cons (CS.setitem (CE.var rfl (by decide) (by decide)) (CE.var rfl (by decide) (by decide)) (CE.tuple (CEs.cons (CE.list (CEs.cons (CE.var rfl (by decide) (by decide)) CEs.nil (fun _ => rfl))) (CEs.cons (CE.ucall rfl (by decide) (by decide) (by decide) (CEs.cons (CE.sub (CE.var rfl (by decide) (by decide)) (CE.sub (CE.var rfl (by decide) (by decide)) CE.int (fun _ _ => rfl)) (fun _ _ => rfl)) (CEs.cons (CE.sub (CE.var rfl (by decide) (by decide)) (CE.sub (CE.var rfl (by decide) (by decide)) CE.int (fun _ _ => rfl)) (fun _ _ => rfl)) CEs.nil (fun _ => rfl)) (fun _ => rfl))) CEs.nil (fun _ => rfl)) (fun _ => rfl))) (fun _ => rfl)) CSs.nil) (CSs.cons (CS.assignT (CGs.cons rfl (by decide) (CGs.cons rfl (by decide) CGs.nil)) (CE.sub (CE.var rfl (by decide) (by decide)) (CE.sub (CE.call rfl (by decide) (CEs.cons (CE.comp ⟨by decide, rfl, by decide, (CI.plain (CE.var rfl (by decide) (by decide)) (fun _ _ => rfl)), (by intro h; cases h), (CG.name rfl (by decide)), (CE.tuple (CEs.cons (CE.sub (CE.var rfl (by decide) (by decide)) (CE.var rfl (by decide) (by decide)) (fun _ _ => rfl)) (CEs.cons (CE.var rfl (by decide) (by decide)) CEs.nil (fun _ => rfl)) (fun _ => rfl))), CTs.nil⟩) CEs.nil (fun _ => rfl))) CE.int (fun _ _ => rfl)) (fun _ _ => rfl)) (fun _ => rfl) (fun _ => rfl)) (CSs.cons (CS.setitem (CE.var rfl (by decide) (by decide)) (CE.var rfl (by decide) (by decide)) (CE.tuple (CEs.cons (CE.bin (CE.list (CEs.cons (CE.var rfl (by decide) (by decide)) CEs.nil (fun _ => rfl))) (CE.var rfl (by decide) (by decide))) (CEs.cons (CE.var rfl (by decide) (by decide)) CEs.nil (fun _ => rfl)) (fun _ => rfl))) (fun _ => rfl)) CSs.nil))) CSs.nil)) CSs.nil))) (CSs.cons (CS.ret (CE.var rfl (by decide) (by decide))) CSs.nil)))
theorem fr_wa (a : V) : initF { sc := (defAt PySem.Challenge.pw_dm0137_02 6).2.2.names, fns := fns02 } (["items"] : List Str) [a] = [a].map some ++ [none, none, none, none, none] := by first | rfl | kernel_rfl
/-- the def as the ground shows it -/
theorem at_wa {mg : Str → Option Value} {h₀ : Heap} (h : Shown mg h₀ "_law_ways" (recIn vw02 "_law_ways")) : AtDef mg h₀ "_law_ways" (defAt PySem.Challenge.pw_dm0137_02 6) fns02 (["items"] : List Str) ps_ways := by
  obtain ⟨a, o, pm, cd, doc, h1, h2, h3, h4⟩ := h
  obtain ⟨e1, e2, e3⟩ := bd_wa
  refine ⟨a, o, _, h1, h2, h3, h4, e1, e3, ⟨congrArg FuncBody.stmts e2, fun s hs vals hv => BindsTo.of_eq (bind_wa _ e1 rfl rfl vals hv), rfl, rfl, rfl, ?_, ?_, ?_, ?_, ?_, ?_, by decide, ?_⟩⟩
  · show (recIn vw02 "_law_ways").scope.isCoroutine = false
    rw [e3]; rfl
  · show (recIn vw02 "_law_ways").scope.isGenerator = false
    rw [e3]; rfl
  · show (recIn vw02 "_law_ways").scope.kind = .function
    rw [e3]; rfl
  · show ((recIn vw02 "_law_ways").scope.names.map (·.1)).Nodup
    rw [e3]; decide +kernel
  · show ∀ x ∈ (recIn vw02 "_law_ways").scope.names, x.2 ≠ .free
    rw [e3]; decide +kernel
  · show ∀ x ∈ (["items"] : List Str), (recIn vw02 "_law_ways").scope.names.lookup x = some .local ∨ (recIn vw02 "_law_ways").scope.names.lookup x = some .cell
    rw [e3]; decide +kernel
  · show CSs { sc := (recIn vw02 "_law_ways").scope.names, fns := fns02 } _ _
    rw [e3]; exact cs_wa

theorem def_le : defOf vw02 "_law_left" = some ((recIn vw02 "_law_left"), []) := by kernel_rfl
theorem bd_le : (recIn vw02 "_law_left").params = (defAt PySem.Challenge.pw_dm0137_02 7).1 ∧ (recIn vw02 "_law_left").body = (defAt PySem.Challenge.pw_dm0137_02 7).2.1 ∧ (recIn vw02 "_law_left").scope = (defAt PySem.Challenge.pw_dm0137_02 7).2.2 := ⟨by kernel_rfl, by kernel_rfl, by kernel_rfl⟩
theorem bind_le (fd : FuncData) (h1 : fd.params = (defAt PySem.Challenge.pw_dm0137_02 7).1) (h2 : fd.defaults = .none) (h3 : fd.kwdefaults = .none) : ∀ vals : List Value, vals.length = (["row", "words"] : List Str).length → bindArgs fd ⟨vals, []⟩ = pure ((["row", "words"] : List Str).zip vals) := by
  intro vals hv
  obtain ⟨x0, t0, rfl, q0⟩ := len_cons (n := 1) hv
  obtain ⟨x1, t1, rfl, q1⟩ := len_cons (n := 0) q0
  obtain rfl := List.eq_nil_of_length_eq_zero q1
  unfold bindArgs
  rw [h1, h2, h3]
  rfl
theorem cs_le : CSs { sc := (defAt PySem.Challenge.pw_dm0137_02 7).2.2.names, fns := fns02 } (defAt PySem.Challenge.pw_dm0137_02 7).2.1 ps_left := by
  unfold ps_left
  exact (CSs.cons (CS.ifs (CT.cmp (CE.var rfl (by decide) (by decide)) CE.str rfl) (CSs.cons (CS.ret (CE.tuple (CEs.cons (CE.bin (CE.slice (CE.var rfl (by decide) (by decide)) (CO.some CE.int) CO.none CO.none) (CE.slice (CE.var rfl (by decide) (by decide)) (CO.some (CE.neg CE.int)) CO.none CO.none)) (CEs.cons (CE.var rfl (by decide) (by decide)) CEs.nil (fun _ => rfl)) (fun _ => rfl)))) CSs.nil) CSs.nil) (CSs.cons (CS.assignC rfl (by decide) ⟨by decide, rfl, by decide, (CI.plain (CE.var rfl (by decide) (by decide)) (fun _ _ => rfl)), (by intro h; cases h), (CG.name rfl (by decide)), (CE.ucall rfl (by decide) (by decide) (by decide) (CEs.cons (CE.var rfl (by decide) (by decide)) CEs.nil (fun _ => rfl))), CTs.nil⟩) (CSs.cons (CS.assign rfl (by decide) (CE.call rfl (by decide) (CEs.cons (CE.bin (CE.list (CEs.cons CE.int CEs.nil (fun _ => rfl))) (CE.comp ⟨by decide, rfl, by decide, (CI.plain (CE.call rfl (by decide) (CEs.cons CE.int (CEs.cons (CE.call rfl (by decide) (CEs.cons (CE.var rfl (by decide) (by decide)) CEs.nil (fun _ => rfl))) CEs.nil (fun _ => rfl)) (fun _ => rfl))) (fun _ _ => rfl)), (by intro h; cases h), (CG.name rfl (by decide)), (CE.var rfl (by decide) (by decide)), (CTs.cons (CT.or (CT.cmp (CE.sub (CE.var rfl (by decide) (by decide)) (CE.var rfl (by decide) (by decide)) (fun _ _ => rfl)) (CE.sub (CE.var rfl (by decide) (by decide)) CE.int (fun _ _ => rfl)) rfl) (CT.not (CT.cmp (CE.sub (CE.var rfl (by decide) (by decide)) (CE.var rfl (by decide) (by decide)) (fun _ _ => rfl)) (CE.sub (CE.var rfl (by decide) (by decide)) CE.int (fun _ _ => rfl)) rfl))) CTs.nil)⟩)) CEs.nil (fun _ => rfl))) (fun _ => rfl)) (CSs.cons (CS.assign rfl (by decide) (CE.slice (CE.var rfl (by decide) (by decide)) (CO.some (CE.bin (CE.var rfl (by decide) (by decide)) CE.int)) CO.none CO.none) (fun _ => rfl)) (CSs.cons (CS.ifs (CT.cmp (CE.sub (CE.var rfl (by decide) (by decide)) (CE.var rfl (by decide) (by decide)) (fun _ _ => rfl)) (CE.sub (CE.var rfl (by decide) (by decide)) CE.int (fun _ _ => rfl)) rfl) (CSs.cons (CS.ret (CE.tuple (CEs.cons (CE.bin (CE.bin (CE.slice (CE.var rfl (by decide) (by decide)) (CO.some CE.int) (CO.some (CE.bin (CE.var rfl (by decide) (by decide)) CE.int)) CO.none) (CE.or (CE.slice (CE.var rfl (by decide) (by decide)) CO.none (CO.some CE.int) CO.none) (CE.slice (CE.var rfl (by decide) (by decide)) CO.none (CO.some CE.int) CO.none))) (CE.var rfl (by decide) (by decide))) (CEs.cons (CE.ucall rfl (by decide) (by decide) (by decide) (CEs.cons (CE.sub (CE.var rfl (by decide) (by decide)) (CE.var rfl (by decide) (by decide)) (fun _ _ => rfl)) (CEs.cons (CE.sub (CE.var rfl (by decide) (by decide)) CE.int (fun _ _ => rfl)) CEs.nil (fun _ => rfl)) (fun _ => rfl))) CEs.nil (fun _ => rfl)) (fun _ => rfl)))) CSs.nil) CSs.nil) (CSs.cons (CS.ret (CE.tuple (CEs.cons (CE.bin (CE.bin (CE.slice (CE.var rfl (by decide) (by decide)) (CO.some CE.int) (CO.some (CE.bin (CE.var rfl (by decide) (by decide)) CE.int)) CO.none) (CE.slice (CE.var rfl (by decide) (by decide)) CO.none (CO.some CE.int) CO.none)) (CE.var rfl (by decide) (by decide))) (CEs.cons CE.str CEs.nil (fun _ => rfl)) (fun _ => rfl)))) CSs.nil))))))
theorem fr_le (a b : V) : initF { sc := (defAt PySem.Challenge.pw_dm0137_02 7).2.2.names, fns := fns02 } (["row", "words"] : List Str) [a, b] = [a, b].map some ++ [none, none, none] := by first | rfl | kernel_rfl
/-- the def as the ground shows it -/
theorem at_le {mg : Str → Option Value} {h₀ : Heap} (h : Shown mg h₀ "_law_left" (recIn vw02 "_law_left")) : AtDef mg h₀ "_law_left" (defAt PySem.Challenge.pw_dm0137_02 7) fns02 (["row", "words"] : List Str) ps_left := by
  obtain ⟨a, o, pm, cd, doc, h1, h2, h3, h4⟩ := h
  obtain ⟨e1, e2, e3⟩ := bd_le
  refine ⟨a, o, _, h1, h2, h3, h4, e1, e3, ⟨congrArg FuncBody.stmts e2, fun s hs vals hv => BindsTo.of_eq (bind_le _ e1 rfl rfl vals hv), rfl, rfl, rfl, ?_, ?_, ?_, ?_, ?_, ?_, by decide, ?_⟩⟩
  · show (recIn vw02 "_law_left").scope.isCoroutine = false
    rw [e3]; rfl
  · show (recIn vw02 "_law_left").scope.isGenerator = false
    rw [e3]; rfl
  · show (recIn vw02 "_law_left").scope.kind = .function
    rw [e3]; rfl
  · show ((recIn vw02 "_law_left").scope.names.map (·.1)).Nodup
    rw [e3]; decide +kernel
  · show ∀ x ∈ (recIn vw02 "_law_left").scope.names, x.2 ≠ .free
    rw [e3]; decide +kernel
  · show ∀ x ∈ (["row", "words"] : List Str), (recIn vw02 "_law_left").scope.names.lookup x = some .local ∨ (recIn vw02 "_law_left").scope.names.lookup x = some .cell
    rw [e3]; decide +kernel
  · show CSs { sc := (recIn vw02 "_law_left").scope.names, fns := fns02 } _ _
    rw [e3]; exact cs_le

theorem def_law : defOf vw02 "law" = some ((recIn vw02 "law"), []) := by kernel_rfl
theorem bd_law : (recIn vw02 "law").params = (defAt PySem.Challenge.pw_dm0137_02 8).1 ∧ (recIn vw02 "law").body = (defAt PySem.Challenge.pw_dm0137_02 8).2.1 ∧ (recIn vw02 "law").scope = (defAt PySem.Challenge.pw_dm0137_02 8).2.2 := ⟨by kernel_rfl, by kernel_rfl, by kernel_rfl⟩
theorem bind_law (fd : FuncData) (h1 : fd.params = (defAt PySem.Challenge.pw_dm0137_02 8).1) (h2 : fd.defaults = .none) (h3 : fd.kwdefaults = .none) : ∀ vals : List Value, vals.length = (["script"] : List Str).length → bindArgs fd ⟨vals, []⟩ = pure ((["script"] : List Str).zip vals) := by
  intro vals hv
  obtain ⟨x0, t0, rfl, q0⟩ := len_cons (n := 0) hv
  obtain rfl := List.eq_nil_of_length_eq_zero q0
  unfold bindArgs
  rw [h1, h2, h3]
  rfl
theorem cs_law : CSs { sc := (defAt PySem.Challenge.pw_dm0137_02 8).2.2.names, fns := fns02 } (defAt PySem.Challenge.pw_dm0137_02 8).2.1 ps_law02 := by
  unfold ps_law02
  exact (CSs.cons (CS.assign rfl (by decide) (CE.list CEs.nil) (fun _ => rfl)) (CSs.cons (CS.for (CG.name rfl (by decide)) (CI.plain (CE.bin (CE.comp ⟨by decide, rfl, by decide, (CI.plain (CE.call rfl (by decide) (CEs.cons (CE.call rfl (by decide) (CEs.cons CE.int (CEs.cons (CE.call rfl (by decide) (CEs.cons (CE.var rfl (by decide) (by decide)) CEs.nil (fun _ => rfl))) CEs.nil (fun _ => rfl)) (fun _ => rfl))) CEs.nil (fun _ => rfl))) (fun _ _ => rfl)), (by intro h; cases h), (CG.name rfl (by decide)), (CE.call rfl (by decide) (CEs.cons (CE.slice (CE.var rfl (by decide) (by decide)) (CO.some (CE.var rfl (by decide) (by decide))) CO.none (CO.some CE.int)) CEs.nil (fun _ => rfl))), CTs.nil⟩) (CE.list (CEs.cons CE.int (CEs.cons CE.int (CEs.cons CE.int (CEs.cons CE.int (CEs.cons CE.int (CEs.cons CE.int CEs.nil (fun _ => rfl)) (fun _ => rfl)) (fun _ => rfl)) (fun _ => rfl)) (fun _ => rfl)) (fun _ => rfl)))) (fun _ _ => rfl)) ((by intro h; cases h)) (CSs.cons (CS.ifs (CT.cmp (CE.bin (CE.var rfl (by decide) (by decide)) CE.int) CE.int rfl) (CSs.cons (CS.expr (CE.meth rfl (by decide) (by decide) (fun _ => rfl) (CE.var rfl (by decide) (by decide)) (CEs.cons (CE.sub CE.str (CE.bin (CE.bin (CE.var rfl (by decide) (by decide)) CE.int) CE.int) (fun _ _ => rfl)) CEs.nil (fun _ => rfl))) (fun _ => rfl)) CSs.nil) (CSs.cons (CS.expr (CE.meth rfl (by decide) (by decide) (fun _ => rfl) (CE.var rfl (by decide) (by decide)) (CEs.cons (CE.ite (CT.cmp (CE.bin (CE.var rfl (by decide) (by decide)) CE.int) CE.int rfl) (CE.bin (CE.bin (CE.var rfl (by decide) (by decide)) CE.int) CE.int) (CE.bin (CE.var rfl (by decide) (by decide)) CE.int)) CEs.nil (fun _ => rfl))) (fun _ => rfl)) CSs.nil)) CSs.nil)) (CSs.cons (CS.assign rfl (by decide) (CE.ucall rfl (by decide) (by decide) (by decide) (CEs.cons (CE.var rfl (by decide) (by decide)) CEs.nil (fun _ => rfl))) (fun _ => rfl)) (CSs.cons (CS.for (CG.name rfl (by decide)) (CI.plain (CE.call rfl (by decide) (CEs.cons (CE.call rfl (by decide) (CEs.cons (CE.var rfl (by decide) (by decide)) CEs.nil (fun _ => rfl))) CEs.nil (fun _ => rfl))) (fun _ _ => rfl)) ((by intro h; cases h)) (CSs.cons (CS.assign rfl (by decide) (CE.call rfl (by decide) (CEs.cons (CE.var rfl (by decide) (by decide)) CEs.nil (fun _ => rfl))) (fun _ => rfl)) (CSs.cons (CS.tryA rfl (by decide) rfl (by decide) (by decide) (by decide) (by decide) (by decide) (CEX.ite (CTX.isNone (CEX.ucall rfl (by decide) (by decide) (by decide) (CEs.cons (CE.var rfl (by decide) (by decide)) (CEs.cons (CE.var rfl (by decide) (by decide)) CEs.nil (fun _ => rfl)) (fun _ => rfl)))) CE.str CE.str) (fun _ => rfl) (fun _ => rfl)) (CSs.cons (CS.assign rfl (by decide) (CE.sub (CE.sub (CE.var rfl (by decide) (by decide)) (CE.var rfl (by decide) (by decide)) (fun _ _ => rfl)) CE.int (fun _ _ => rfl)) (fun _ => rfl)) (CSs.cons (CS.assignT (CGs.cons rfl (by decide) (CGs.cons rfl (by decide) CGs.nil)) (CE.ucall rfl (by decide) (by decide) (by decide) (CEs.cons (CE.comp ⟨by decide, rfl, by decide, (CI.plain (CE.var rfl (by decide) (by decide)) (fun _ _ => rfl)), (by intro h; cases h), (CG.name rfl (by decide)), (CE.sub (CE.var rfl (by decide) (by decide)) (CE.var rfl (by decide) (by decide)) (fun _ _ => rfl)), CTs.nil⟩) (CEs.cons (CE.sub (CE.sub (CE.var rfl (by decide) (by decide)) (CE.var rfl (by decide) (by decide)) (fun _ _ => rfl)) CE.int (fun _ _ => rfl)) CEs.nil (fun _ => rfl)) (fun _ => rfl))) (fun _ => rfl) (fun _ => rfl)) (CSs.cons (CS.assign rfl (by decide) (CE.call rfl (by decide) (CEs.cons (CE.var rfl (by decide) (by decide)) CEs.nil (fun _ => rfl))) (fun _ => rfl)) (CSs.cons (CS.zipset rfl (by decide) (CEs.cons (CE.var rfl (by decide) (by decide)) (CEs.cons (CE.var rfl (by decide) (by decide)) CEs.nil (fun _ => rfl)) (fun _ => rfl)) rfl rfl rfl (by decide) (by decide) (by decide) (by decide) (by decide) (by decide) (by decide) (by decide) (by decide) (fun _ => rfl)) (CSs.cons (CS.ifs (CT.or (CT.cmp (CE.var rfl (by decide) (by decide)) (CE.var rfl (by decide) (by decide)) rfl) (CT.cmp (CE.var rfl (by decide) (by decide)) (CE.var rfl (by decide) (by decide)) rfl)) (CSs.cons (CS.ret CE.bool) CSs.nil) CSs.nil) CSs.nil)))))))) (CSs.cons (CS.assign rfl (by decide) (CE.call rfl (by decide) (CEs.cons (CE.var rfl (by decide) (by decide)) CEs.nil (fun _ => rfl))) (fun _ => rfl)) (CSs.cons (CS.tryR rfl (by decide) (by decide) (by decide) rfl (by decide) (by decide) rfl (by decide) (by decide) (by decide) (by decide) (CEX.ucall rfl (by decide) (by decide) (by decide) (CEs.cons (CE.var rfl (by decide) (by decide)) (CEs.cons (CE.call rfl (by decide) (CEs.cons (CE.var rfl (by decide) (by decide)) CEs.nil (fun _ => rfl))) CEs.nil (fun _ => rfl)) (fun _ => rfl))) (fun _ => rfl)) (CSs.cons (CS.ret CE.bool) CSs.nil)))))))
theorem fr_law (a : V) : initF { sc := (defAt PySem.Challenge.pw_dm0137_02 8).2.2.names, fns := fns02 } (["script"] : List Str) [a] = [a].map some ++ [none, none, none, none, none, none, none, none, none, none, none, none, none] := by first | rfl | kernel_rfl
/-- the def as the ground shows it -/
theorem at_law {mg : Str → Option Value} {h₀ : Heap} (h : Shown mg h₀ "law" (recIn vw02 "law")) : AtDef mg h₀ "law" (defAt PySem.Challenge.pw_dm0137_02 8) fns02 (["script"] : List Str) ps_law02 := by
  obtain ⟨a, o, pm, cd, doc, h1, h2, h3, h4⟩ := h
  obtain ⟨e1, e2, e3⟩ := bd_law
  refine ⟨a, o, _, h1, h2, h3, h4, e1, e3, ⟨congrArg FuncBody.stmts e2, fun s hs vals hv => BindsTo.of_eq (bind_law _ e1 rfl rfl vals hv), rfl, rfl, rfl, ?_, ?_, ?_, ?_, ?_, ?_, by decide, ?_⟩⟩
  · show (recIn vw02 "law").scope.isCoroutine = false
    rw [e3]; rfl
  · show (recIn vw02 "law").scope.isGenerator = false
    rw [e3]; rfl
  · show (recIn vw02 "law").scope.kind = .function
    rw [e3]; rfl
  · show ((recIn vw02 "law").scope.names.map (·.1)).Nodup
    rw [e3]; decide +kernel
  · show ∀ x ∈ (recIn vw02 "law").scope.names, x.2 ≠ .free
    rw [e3]; decide +kernel
  · show ∀ x ∈ (["script"] : List Str), (recIn vw02 "law").scope.names.lookup x = some .local ∨ (recIn vw02 "law").scope.names.lookup x = some .cell
    rw [e3]; decide +kernel
  · show CSs { sc := (recIn vw02 "law").scope.names, fns := fns02 } _ _
    rw [e3]; exact cs_law

theorem free02 : ∀ x ∈ (("nsmallest" : Str) :: freeNames), x ∉ startupNames ∧ x ∉ (looseW vw02 []) ∧ x ∉ (recsOf vw02).map (·.name) ∧ x ∉ (litsOf vw02).map (·.1) ∧ x ∉ (clssOf vw02 (looseW vw02 [])).map (·.name) := by decide +kernel
/-- plain contracts, and those of defs that may raise -/
noncomputable def ΦX (l x : List (List V → (V → Hp → Prop) → Hp → Prop)) : Fns := fun i => if 3000 ≤ i then Φs x (i - 3000) else if i = 1000 then noC else if i = 1001 then (fun _ _ _ => True) else Φs l i
theorem names02 {w : World} {h₀ : Heap} {mg mb : Str → Option Value} (Gd : Gnd PySem.Challenge.rw_dm0137_02.row.prog h₀ mg mb) (hbi : ∀ x ∈ (("nsmallest" : Str) :: freeNames), mg x = none)
    (F : ∀ name d, defOf vw02 name = some (d, []) → d.params.defaults = [] → Shown mg h₀ name d)
    : ∃ Φ : Fns, NamesOk PySem.Challenge.rw_dm0137_02.row.prog w h₀ mg 6 fns02 Φ ∧ (∀ args Q σ, siftupX args Q σ → Φ 3001 args Q σ) ∧ (∀ args Q σ, waysC args Q σ → Φ 4 args Q σ) ∧ (∀ args Q σ, leftC args Q σ → Φ 5 args Q σ) := by
  obtain ⟨a0, o0, fd0, m0, g0, d0, c0, p0, s0, D0⟩ := at_sd (F _ _ def_sd (by rw [bd_sd.1]; rfl))
  obtain ⟨a1, o1, fd1, m1, g1, d1, c1, p1, s1, D1⟩ := at_su (F _ _ def_su (by rw [bd_su.1]; rfl))
  obtain ⟨a2, o2, fd2, m2, g2, d2, c2, p2, s2, D2⟩ := at_ki (F _ _ def_ki (by rw [bd_ki.1]; rfl))
  obtain ⟨a3, o3, fd3, m3, g3, d3, c3, p3, s3, D3⟩ := at_wo (F _ _ def_wo (by rw [bd_wo.1]; rfl))
  obtain ⟨a4, o4, fd4, m4, g4, d4, c4, p4, s4, D4⟩ := at_wa (F _ _ def_wa (by rw [bd_wa.1]; rfl))
  obtain ⟨a5, o5, fd5, m5, g5, d5, c5, p5, s5, D5⟩ := at_le (F _ _ def_le (by rw [bd_le.1]; rfl))
  obtain ⟨a6, o6, fd6, m6, g6, d6, c6, p6, s6, D6⟩ := at_law (F _ _ def_law (by rw [bd_law.1]; rfl))
  have mk : ∀ (n : Nat) (L X : List (List V → (V → Hp → Prop) → Hp → Prop)), FnOk PySem.Challenge.rw_dm0137_02.row.prog w h₀ n (.ref a0) (Φs L 0) → FnOk PySem.Challenge.rw_dm0137_02.row.prog w h₀ n (.ref a1) (Φs L 1) → FnOk PySem.Challenge.rw_dm0137_02.row.prog w h₀ n (.ref a2) (Φs L 2) → FnOk PySem.Challenge.rw_dm0137_02.row.prog w h₀ n (.ref a3) (Φs L 3) → FnOk PySem.Challenge.rw_dm0137_02.row.prog w h₀ n (.ref a4) (Φs L 4) → FnOk PySem.Challenge.rw_dm0137_02.row.prog w h₀ n (.ref a5) (Φs L 5) → FnOk PySem.Challenge.rw_dm0137_02.row.prog w h₀ n (.ref a6) (Φs L 6) → FnOkX PySem.Challenge.rw_dm0137_02.row.prog w h₀ n (.ref a0) (Φs X 0) → FnOkX PySem.Challenge.rw_dm0137_02.row.prog w h₀ n (.ref a1) (Φs X 1) → FnOkX PySem.Challenge.rw_dm0137_02.row.prog w h₀ n (.ref a2) (Φs X 2) → FnOkX PySem.Challenge.rw_dm0137_02.row.prog w h₀ n (.ref a3) (Φs X 3) → FnOkX PySem.Challenge.rw_dm0137_02.row.prog w h₀ n (.ref a4) (Φs X 4) → FnOkX PySem.Challenge.rw_dm0137_02.row.prog w h₀ n (.ref a5) (Φs X 5) → FnOkX PySem.Challenge.rw_dm0137_02.row.prog w h₀ n (.ref a6) (Φs X 6) → NamesOk PySem.Challenge.rw_dm0137_02.row.prog w h₀ mg n fns02 (ΦX L X) := fun n L X f0 f1 f2 f3 f4 f5 f6 y0 y1 y2 y3 y4 y5 y6 => by
    refine ⟨fun x h => hbi x (.tail _ h), fun i x e => ?_, cv_no, fun i x fa o fd e1 e2 e3 e4 σ => trivial, fun fa o fd e1 => ?_, fun i x e => ?_⟩
    · match i, e with
      | 0, e => cases e; exact ⟨_, m0, f0⟩
      | 1, e => cases e; exact ⟨_, m1, f1⟩
      | 2, e => cases e; exact ⟨_, m2, f2⟩
      | 3, e => cases e; exact ⟨_, m3, f3⟩
      | 4, e => cases e; exact ⟨_, m4, f4⟩
      | 5, e => cases e; exact ⟨_, m5, f5⟩
      | 6, e => cases e; exact ⟨_, m6, f6⟩
    · rw [hbi _ (.head _)] at e1; cases e1
    · match i, e with
      | 0, e => cases e; exact ⟨_, m0, y0⟩
      | 1, e => cases e; exact ⟨_, m1, y1⟩
      | 2, e => cases e; exact ⟨_, m2, y2⟩
      | 3, e => cases e; exact ⟨_, m3, y3⟩
      | 4, e => cases e; exact ⟨_, m4, y4⟩
      | 5, e => cases e; exact ⟨_, m5, y5⟩
      | 6, e => cases e; exact ⟨_, m6, y6⟩
  have N0 := mk 0 [noC, noC, noC, noC, noC, noC] [noC, noC, noC, noC, noC, noC] (.false g0 d0) (.false g1 d1) (.false g2 d2) (.false g3 d3) (.false g4 d4) (.false g5 d5) (.false g6 d6) (.false g0 d0) (.false g1 d1) (.false g2 d2) (.false g3 d3) (.false g4 d4) (.false g5 d5) (.false g6 d6)
  have F0 : ∀ m, 1 ≤ m → FnOkX PySem.Challenge.rw_dm0137_02.row.prog w h₀ m (.ref a0) siftdownX := fun m hm => (fn_okX Gd N0 ⟨D0, by rw [s0]; exact cx_sd⟩ g0 d0 c0).mono hm fun args Q σ h => by
    have h' := h
    obtain ⟨_, _, _, _, _, e, r⟩ := h'
    subst e
    refine ⟨rfl, siftdownX_v _ _ _ _ _ h ?_⟩
    rw [s0]; exact fr_sd _ _ _
  have N1 := mk 1 [noC, noC, noC, noC, noC, noC] [siftdownX, noC, noC, noC, noC, noC] (.false g0 d0) (.false g1 d1) (.false g2 d2) (.false g3 d3) (.false g4 d4) (.false g5 d5) (.false g6 d6) (F0 1 (by omega)) (.false g1 d1) (.false g2 d2) (.false g3 d3) (.false g4 d4) (.false g5 d5) (.false g6 d6)
  have F1 : ∀ m, 2 ≤ m → FnOkX PySem.Challenge.rw_dm0137_02.row.prog w h₀ m (.ref a1) siftupX := fun m hm => (fn_okX Gd N1 ⟨D1, by rw [s1]; exact cx_su⟩ g1 d1 c1).mono hm fun args Q σ h => by
    have h' := h
    obtain ⟨_, _, _, e, r⟩ := h'
    subst e
    refine ⟨rfl, siftupX_v _ (fun _ _ _ h => h) _ _ _ _ h ?_⟩
    rw [s1]; exact fr_su _ _
  have N2 := mk 2 [noC, noC, noC, noC, noC, noC] [siftdownX, siftupX, noC, noC, noC, noC] (.false g0 d0) (.false g1 d1) (.false g2 d2) (.false g3 d3) (.false g4 d4) (.false g5 d5) (.false g6 d6) (F0 2 (by omega)) (F1 2 (by omega)) (.false g2 d2) (.false g3 d3) (.false g4 d4) (.false g5 d5) (.false g6 d6)
  have F2 : ∀ m, 3 ≤ m → FnOk PySem.Challenge.rw_dm0137_02.row.prog w h₀ m (.ref a2) kindC := fun m hm => (fn_ok Gd N2 D2 g2 d2 c2).mono hm fun args Q σ h => by
    have h' := h
    obtain ⟨_, e, r⟩ := h'
    subst e
    refine ⟨rfl, kind_v _ _ _ _ _ h ?_⟩
    rw [s2]; exact fr_ki _
  have N3 := mk 3 [noC, noC, kindC, noC, noC, noC] [siftdownX, siftupX, noC, noC, noC, noC] (.false g0 d0) (.false g1 d1) (F2 3 (by omega)) (.false g3 d3) (.false g4 d4) (.false g5 d5) (.false g6 d6) (F0 3 (by omega)) (F1 3 (by omega)) (.false g2 d2) (.false g3 d3) (.false g4 d4) (.false g5 d5) (.false g6 d6)
  have F3 : ∀ m, 4 ≤ m → FnOk PySem.Challenge.rw_dm0137_02.row.prog w h₀ m (.ref a3) wordsC := fun m hm => (fn_ok Gd N3 D3 g3 d3 c3).mono hm fun args Q σ h => by
    have h' := h
    obtain ⟨_, _, e, r⟩ := h'
    subst e
    refine ⟨rfl, words_v _ (fun _ _ _ h => h) _ _ _ _ h ?_⟩
    rw [s3]; exact fr_wo _ _
  have N4 := mk 4 [noC, noC, kindC, wordsC, noC, noC] [siftdownX, siftupX, noC, noC, noC, noC] (.false g0 d0) (.false g1 d1) (F2 4 (by omega)) (F3 4 (by omega)) (.false g4 d4) (.false g5 d5) (.false g6 d6) (F0 4 (by omega)) (F1 4 (by omega)) (.false g2 d2) (.false g3 d3) (.false g4 d4) (.false g5 d5) (.false g6 d6)
  have F4 : ∀ m, 5 ≤ m → FnOk PySem.Challenge.rw_dm0137_02.row.prog w h₀ m (.ref a4) waysC := fun m hm => (fn_ok Gd N4 D4 g4 d4 c4).mono hm fun args Q σ h => by
    have h' := h
    obtain ⟨_, _, e, r⟩ := h'
    subst e
    refine ⟨rfl, ways_v _ (fun _ _ _ h => h) (fun _ _ _ h => h) _ _ _ _ h ?_⟩
    rw [s4]; exact fr_wa _
  have N5 := mk 5 [noC, noC, kindC, wordsC, waysC, noC] [siftdownX, siftupX, noC, noC, noC, noC] (.false g0 d0) (.false g1 d1) (F2 5 (by omega)) (F3 5 (by omega)) (F4 5 (by omega)) (.false g5 d5) (.false g6 d6) (F0 5 (by omega)) (F1 5 (by omega)) (.false g2 d2) (.false g3 d3) (.false g4 d4) (.false g5 d5) (.false g6 d6)
  have F5 : ∀ m, 6 ≤ m → FnOk PySem.Challenge.rw_dm0137_02.row.prog w h₀ m (.ref a5) leftC := fun m hm => (fn_ok Gd N5 D5 g5 d5 c5).mono hm fun args Q σ h => by
    have h' := h
    obtain ⟨_, _, _, e, r⟩ := h'
    subst e
    refine ⟨rfl, left_v _ (fun _ _ _ h => h) (fun _ _ _ h => h) _ _ _ _ h ?_⟩
    rw [s5]; exact fr_le _ _
  exact ⟨_, mk 6 [noC, noC, kindC, wordsC, waysC, leftC] [siftdownX, siftupX, noC, noC, noC, noC] (.false g0 d0) (.false g1 d1) (F2 6 (by omega)) (F3 6 (by omega)) (F4 6 (by omega)) (F5 6 (by omega)) (.false g6 d6) (F0 6 (by omega)) (F1 6 (by omega)) (.false g2 d2) (.false g3 d3) (.false g4 d4) (.false g5 d5) (.false g6 d6), fun _ _ _ h => h, fun _ _ _ h => h, fun _ _ _ h => h⟩
end Mine
open PySem PySem.W PyProof.Rows Mine
theorem PySem.Challenge.cw_dm0137_02_holds : PySem.Challenge.rw_dm0137_02.Holds := by
  refine hd02 ?_
  intro w s₀ s₁ mg mb G Y fa o pm cd doc dV kV ho hd hcd hD hmg hg args vals as hpre hlay hrd hwl hlo
  have FF := shown_of G
  refine Ground.open G ?_
  intro T B D TE TW
  wrow_args hpre hlay hrd hwl hlo
  first | refine callC_kw (enter_call ?_) | refine enter_call ?_ | refine callC_kw (enter_callW ?_) | refine enter_callW ?_
  try refine codeAny_mono ?_ (fun _ _ g => GoodW.toG g)
  rename_i ns _ _ hlay0 _ _ _ _ l vs _ hL _ _ _ hI _ hlen _
  have Gd : Gnd PySem.Challenge.rw_dm0137_02.row.prog s₁.heap mg mb := ground_of T (by decide +kernel) (by rfl)
  have hfree : ∀ x ∈ (("nsmallest" : Str) :: freeNames), mg x = none := fun x hx => by
    obtain ⟨a, b, c, d, e⟩ := free02 x hx; exact T.free x a b c d e
  obtain ⟨Φ, NM, y1, y2, y3⟩ := names02 (w := w) Gd hfree FF
  obtain ⟨a, o, fd, k1, k2, k3, k4, k5, k6, k7⟩ := at_law (FF _ _ def_law (by rw [bd_law.1]; rfl))
  have ea : fa = a := by
    have q : mg ("law" : Str) = some (.ref fa) := hmg
    rw [k1] at q; cases q; rfl
  subst ea
  have hln : ns.length ≤ 63 := by omega
  refine law_code Gd NM (by omega) k7 k2 k3 k4 (script_w hL hI hln) (.cons (.ref l) .nil) (Q := isTrue') ⟨rfl, ?_⟩ (fun x s' p => good_true hg p)
  rw [k6, fr_law]
  exact law02_v Φ y1 y2 y3 l ns hln _ (listAt_flist (by unfold scriptHp; rw [if_pos rfl]))
