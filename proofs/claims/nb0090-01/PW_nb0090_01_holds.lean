import PyProof.Rows.All
import Wide.All
import OpenK.AllK
import Wide.FinOn
import PySem.Challenge.RW_nb0090_01
set_option Elab.async false
section
set_option autoImplicit false
open PySem
set_option Elab.async false
namespace NB90
/-- the heap never gets shorter -/
theorem runs_size {M : Model} {Γ : Ctx} {p : Pos} {t : Sem Fin} {fs : List Frame} {s s' : Shared} {e : End} (h : Runs M Γ p t fs s e s') : s.heap.objs.size ≤ s'.heap.objs.size := by
  induction h <;> (try simp only [Shared.setGen, Heap.size_push, Heap.size_after_update] at *) <;> (first | with_reducible assumption | with_reducible exact Nat.add_le_add_left (by decide) _ | with_reducible exact Nat.le_trans (by assumption) (by decide) | with_reducible exact Nat.sub_succ_lt_self (by assumption) | with_reducible exact Nat.lt_of_lt_of_le (by assumption) (by assumption) | with_reducible exact Nat.le_trans (by assumption) (by assumption) | decide | omega)
theorem wakes_size {M : Model} {Γ : Ctx} {p : Pos} {g : Nat} {r : Resume} {s s' : Shared} {res : GenResult} (h : Wakes M Γ p g r s res s') : s.heap.objs.size ≤ s'.heap.objs.size := by
  unfold Wakes at h
  split at h
  · exact h.elim
  · split at h
    · obtain ⟨e₁, s₁, hr, _, _, rfl⟩ := h; exact (runs_size hr : (s.setGen g .running).heap.objs.size ≤ s₁.heap.objs.size)
    · rw [h.2]; exact Nat.le_refl _
    · rw [h.2]; exact Nat.le_refl _
  · obtain ⟨e₁, s₁, hr, _, _, rfl⟩ := h; exact (runs_size hr : (s.setGen g .running).heap.objs.size ≤ s₁.heap.objs.size)
  · rw [h.2]; exact Nat.le_refl _
  · rw [h.2]; exact Nat.le_refl _
theorem wp_size {α : Type} (M : Model) (Γ : Ctx) (n : Nat) (t : Sem α) : ∀ (Q : α → Pos → Shared → Prop) (E : Value → Pos → Shared → Prop) (p : Pos) (s : Shared), n ≤ s.heap.objs.size → Sem.wp M Γ t Q E p s →
    Sem.wp M Γ t (fun a p' s' => n ≤ s'.heap.objs.size ∧ Q a p' s') (fun e p' s' => n ≤ s'.heap.objs.size ∧ E e p' s') p s := by
  induction t with
  | pure a | raise a => intro Q E p s hn h; exact ⟨hn, h⟩
  | unsupported | finish | register | yield | fork | await => intro Q E p s _ h; exact h
  | rule _ k ih | point _ k ih => intro Q E p s hn h; exact ih () Q E p s hn h
  | «at» p' k ih => intro Q E p s hn h; exact ih () Q E p' s hn h
  | load a _ k ih => intro Q E p s hn h; obtain ⟨o, ho, h⟩ := h; exact ⟨o, ho, ih o Q E p s hn h⟩
  | update a _ f k ih => intro Q E p s hn h; exact ⟨h.1, ih () Q E p _ (by simp only [Heap.size_after_update]; exact hn) h.2⟩
  | loadIfAlive a k ih => intro Q E p s hn h; exact ih _ Q E p s hn h
  | alloc o k ih => intro Q E p s hn h; exact ih _ Q E p _ (by simp only [Heap.size_push]; (first | with_reducible assumption | with_reducible exact Nat.add_le_add_left (by decide) _ | with_reducible exact Nat.le_trans (by assumption) (by decide) | with_reducible exact Nat.sub_succ_lt_self (by assumption) | with_reducible exact Nat.lt_of_lt_of_le (by assumption) (by assumption) | with_reducible exact Nat.le_trans (by assumption) (by assumption) | decide | omega)) h
  | fresh k ih | ask k ih | handled own k ih | newGen c k ih | stack k ih | thread k ih => intro Q E p s hn h; exact ih _ Q E p _ hn h
  | choose src m k ih => intro Q E p s hn h; exact ⟨h.1, ih _ Q E p _ hn h.2⟩
  | os q _ k ih => intro Q E p s hn h; exact ih _ Q E p _ hn h
  | call c hd _ _ k ih => intro Q E p s hn h; obtain ⟨r, s', hr, h⟩ := h; exact ⟨r, s', hr, ih r Q E p s' (Nat.le_trans hn (runs_size hr)) h⟩
  | genState g k ih => intro Q E p s hn h; obtain ⟨st, hs, h⟩ := h; exact ⟨st, hs, ih _ Q E p s hn h⟩
  | resume g r _ k ih => intro Q E p s hn h; obtain ⟨res, s', hw, h⟩ := h; exact ⟨res, s', hw, ih res Q E p s' (Nat.le_trans hn (wakes_size hw)) h⟩
theorem with_size {α : Type} {M : Model} {A : Around} {s : Shared} {t : Sem α} {Q : α → Shared → Prop} {E : Value → Shared → Prop}
    (h : wpAny M A t (fun a s' => s.heap.objs.size ≤ s'.heap.objs.size → Q a s') (fun e s' => s.heap.objs.size ≤ s'.heap.objs.size → E e s') s) : wpAny M A t Q E s :=
  fun Γ p hΓ => Sem.wp_mono M Γ t (fun _ _ _ x => x.2 x.1) (fun _ _ _ x => x.2 x.1) p s (wp_size M Γ _ t _ _ p s (Nat.le_refl _) (h Γ p hΓ))
end NB90
end
section
open PySem PySem.W PyProof.Rows
set_option Elab.async false
namespace NB90

/-- what is known for good: an object at an address, never to be changed again -/
abbrev Fz := Addr → Obj → Prop
noncomputable def Fz.le (z z' : Fz) : Prop := ∀ a o, z a o → z' a o
noncomputable def Fz.In (z : Fz) (h : Heap) : Prop := ∀ a o, z a o → h.get? a = some o
theorem Fz.le.refl (z : Fz) : z.le z := fun _ _ h => h
theorem Fz.le.trans {z z' z'' : Fz} (h : z.le z') (k : z'.le z'') : z.le z'' := fun a o e => k a o (h a o e)

noncomputable def No : Addr → Prop := fun _ => False

structure To (W : Addr → Prop) (s s' : Shared) : Prop where
  keep : ∀ b o, ¬ W b → s.heap.get? b = some o → s'.heap.get? b = some o
  size : s.heap.objs.size ≤ s'.heap.objs.size
  os : s'.os = s.os
  gens : ∀ (i : Nat) (x : GenState), s.gens[i]? = some x → s'.gens[i]? = some x
  bare : AllBare s.gens → AllBare s'.gens

theorem To.refl (W : Addr → Prop) (s : Shared) : To W s s := ⟨fun _ _ _ e => e, Nat.le_refl _, rfl, fun _ _ e => e, id⟩
theorem To.trans {W : Addr → Prop} {s s' s'' : Shared} (h : To W s s') (k : To W s' s'') : To W s s'' :=
  ⟨fun b o hb e => k.keep b o hb (h.keep b o hb e), Nat.le_trans h.size k.size, k.os.trans h.os, fun i x e => k.gens i x (h.gens i x e), fun b => k.bare (h.bare b)⟩
theorem To.mono {W W' : Addr → Prop} {s s' : Shared} (h : To W s s') (hw : ∀ a, W a → W' a) : To W' s s' :=
  ⟨fun b o hb e => h.keep b o (fun x => hb (hw b x)) e, h.size, h.os, h.gens, h.bare⟩
theorem To.no {W : Addr → Prop} {s s' : Shared} (h : To No s s') : To W s s' := h.mono fun _ x => x.elim
theorem To.all {s s' : Shared} (h : To No s s') : ∀ b o, s.heap.get? b = some o → s'.heap.get? b = some o := fun b o e => h.keep b o (fun x => x) e

structure Grow (W : Addr → Prop) (z : Fz) (s : Shared) (z' : Fz) (s' : Shared) : Prop extends To W s s' where
  le : z.le z'
  inn : z'.In s'.heap
  new : ∀ a o, z' a o → z a o ∨ s.heap.objs.size ≤ a

theorem Grow.refl {W : Addr → Prop} {z : Fz} {s : Shared} (h : z.In s.heap) : Grow W z s z s := ⟨To.refl W s, Fz.le.refl z, h, fun _ _ e => .inl e⟩
theorem Grow.trans {W : Addr → Prop} {z z' z'' : Fz} {s s' s'' : Shared} (h : Grow W z s z' s') (k : Grow W z' s' z'' s'') : Grow W z s z'' s'' :=
  ⟨h.toTo.trans k.toTo, h.le.trans k.le, k.inn, fun a o e => (k.new a o e).elim (fun x => h.new a o x) (fun x => .inr (Nat.le_trans h.size x))⟩
theorem Grow.mono {W W' : Addr → Prop} {z z' : Fz} {s s' : Shared} (h : Grow W z s z' s') (hw : ∀ a, W a → W' a) : Grow W' z s z' s' :=
  ⟨h.toTo.mono hw, h.le, h.inn, h.new⟩
theorem Grow.no {W : Addr → Prop} {z z' : Fz} {s s' : Shared} (h : Grow No z s z' s') : Grow W z s z' s' := h.mono fun _ x => x.elim

/-- a step that changes nothing of the heap but new places and makes nothing frozen -/
theorem Grow.same {W : Addr → Prop} {z : Fz} {s s' : Shared} (hz : z.In s.heap) (h : To No s s') : Grow W z s z s' :=
  ⟨h.no, Fz.le.refl z, fun a o e => h.keep a o (fun x => x) (hz a o e), fun _ _ e => .inl e⟩

noncomputable def Fz.put (z : Fz) (a : Addr) (o : Obj) : Fz := fun b p => z b p ∨ (b = a ∧ p = o)
theorem Fz.put_le (z : Fz) (a : Addr) (o : Obj) : z.le (z.put a o) := fun _ _ e => .inl e
theorem Fz.put_at (z : Fz) (a : Addr) (o : Obj) : (z.put a o) a o := .inr ⟨rfl, rfl⟩
theorem Grow.put {W : Addr → Prop} {z z' : Fz} {s s' : Shared} {a : Addr} {o : Obj} (h : Grow W z s z' s') (ha : s.heap.objs.size ≤ a) (ho : s'.heap.get? a = some o) : Grow W z s (z'.put a o) s' :=
  ⟨h.toTo, h.le.trans (Fz.put_le _ _ _), fun b p e => e.elim (fun x => h.inn b p x) (fun x => by obtain ⟨rfl, rfl⟩ := x; exact ho), fun b p e => e.elim (fun x => h.new b p x) (fun x => by obtain ⟨rfl, rfl⟩ := x; exact .inr ha)⟩

theorem To.push (W : Addr → Prop) (s : Shared) (o : Obj) : To W s { s with heap := s.heap.push o } :=
  ⟨fun _ _ _ e => Heap.get?_push_of_some o e, by simp, rfl, fun _ _ e => e, id⟩
theorem To.tok (W : Addr → Prop) (s : Shared) (t : Nat) : To W s { s with toks := t } := ⟨fun _ _ _ e => e, Nat.le_refl _, rfl, fun _ _ e => e, id⟩
theorem To.drawn (W : Addr → Prop) (s : Shared) (d : Drawn) : To W s { s with drawn := d } := ⟨fun _ _ _ e => e, Nat.le_refl _, rfl, fun _ _ e => e, id⟩
/-- a step that the library tells as: the heap is another one, what stood stands -/
theorem To.heap {s : Shared} {h' : Heap} {tk : Nat} (hk : ∀ b o, s.heap.get? b = some o → h'.get? b = some o) (hsz : s.heap.objs.size ≤ h'.objs.size) (W : Addr → Prop) : To W s { s with heap := h', toks := tk } :=
  ⟨fun b o _ e => hk b o e, hsz, rfl, fun _ _ e => e, id⟩

/-- data read off the frozen part: ints, bools, strs, lists of such -/
inductive Rd (z : Fz) : Value → PyData → Prop
  | none : Rd z .none .none
  | bool (b : Bool) : Rd z (.bool b) (.bool b)
  | int (i : Int) (t : Tok) : Rd z (.int i t) (.int i)
  | str (x : Str) (t : Tok) : Rd z (.str x t) (.str x)
  | list {a : Addr} {o : Obj} {vs : List Value} {n : Nat} {ds : List PyData} : z a o → o.cls = .type "list" → o.data = .seq vs.toArray n → vs.length = ds.length →
      (∀ (i : Nat) (v : Value) (d : PyData), vs[i]? = some v → ds[i]? = some d → Rd z v d) → Rd z (.ref a) (.list ds)

theorem Rd.mono {z z' : Fz} (hz : z.le z') : ∀ {v : Value} {d : PyData}, Rd z v d → Rd z' v d := by
  intro v d h
  induction h with
  | none => exact .none
  | bool b => exact .bool b
  | int i t => exact .int i t
  | str x t => exact .str x t
  | list ha hc hd hl _ ih => exact .list (hz _ _ ha) hc hd hl ih

/-- the same, told of a row of values -/
noncomputable def RdAll (z : Fz) (vs : List Value) (ds : List PyData) : Prop := vs.length = ds.length ∧ ∀ (i : Nat) v d, vs[i]? = some v → ds[i]? = some d → Rd z v d
theorem RdAll.mono {z z' : Fz} {vs ds} (h : RdAll z vs ds) (hz : z.le z') : RdAll z' vs ds := ⟨h.1, fun i v d a b => (h.2 i v d a b).mono hz⟩
theorem RdAll.nil (z : Fz) : RdAll z [] [] := ⟨rfl, fun i v d h => by simp at h⟩
theorem RdAll.cons {z : Fz} {v : Value} {d : PyData} {vs ds} (h : Rd z v d) (k : RdAll z vs ds) : RdAll z (v :: vs) (d :: ds) :=
  ⟨by simp [k.1], fun i w e a b => by
    cases i with
    | zero => simp at a b; subst a; subst b; exact h
    | succ i => simp at a b; exact k.2 i w e a b⟩
theorem RdAll.head {z : Fz} {v : Value} {d : PyData} {vs ds} (h : RdAll z (v :: vs) (d :: ds)) : Rd z v d := h.2 0 v d rfl rfl
theorem RdAll.tail {z : Fz} {v : Value} {d : PyData} {vs ds} (h : RdAll z (v :: vs) (d :: ds)) : RdAll z vs ds :=
  ⟨by simpa using h.1, fun i w e a b => h.2 (i + 1) w e (by simpa using a) (by simpa using b)⟩
theorem RdAll.append {z : Fz} {vs ws ds es} (h : RdAll z vs ds) (k : RdAll z ws es) : RdAll z (vs ++ ws) (ds ++ es) := by
  refine ⟨by simp [h.1, k.1], fun i v d a b => ?_⟩
  by_cases hi : i < vs.length
  · rw [List.getElem?_append_left hi] at a
    rw [List.getElem?_append_left (h.1 ▸ hi)] at b
    exact h.2 i v d a b
  · rw [List.getElem?_append_right (Nat.not_lt.mp hi)] at a
    rw [List.getElem?_append_right (h.1 ▸ Nat.not_lt.mp hi), ← h.1] at b
    exact k.2 _ v d a b
theorem RdAll.snoc {z : Fz} {v : Value} {d : PyData} {vs ds} (k : RdAll z vs ds) (h : Rd z v d) : RdAll z (vs ++ [v]) (ds ++ [d]) := k.append (.cons h (.nil z))
theorem RdAll.take {z : Fz} {vs ds} (h : RdAll z vs ds) (n : Nat) : RdAll z (vs.take n) (ds.take n) :=
  ⟨by simp [h.1], fun i v d a b => by
    rw [List.getElem?_take] at a b
    by_cases hi : i < n
    · rw [if_pos hi] at a b; exact h.2 i v d a b
    · rw [if_neg hi] at a; cases a⟩
theorem RdAll.drop {z : Fz} {vs ds} (h : RdAll z vs ds) (n : Nat) : RdAll z (vs.drop n) (ds.drop n) :=
  ⟨by simp [h.1], fun i v d a b => by rw [List.getElem?_drop] at a b; exact h.2 _ v d a b⟩
theorem RdAll.get {z : Fz} {vs ds} (h : RdAll z vs ds) {i : Nat} {d : PyData} (hd : ds[i]? = some d) : ∃ v, vs[i]? = some v ∧ Rd z v d := by
  have hi : i < vs.length := by
    have := (List.getElem?_eq_some_iff.mp hd).1
    rw [h.1]; exact this
  exact ⟨vs[i], List.getElem?_eq_getElem hi, h.2 i _ d (List.getElem?_eq_getElem hi) hd⟩

theorem Rd.list' {z : Fz} {a : Addr} {vs : List Value} {n : Nat} {ds : List PyData} (ha : z a { cls := .type "list", data := .seq vs.toArray n }) (h : RdAll z vs ds) : Rd z (.ref a) (.list ds) := .list ha rfl rfl h.1 h.2
theorem Rd.isList {z : Fz} {v : Value} {ds : List PyData} (h : Rd z v (.list ds)) : ∃ a o vs n, v = .ref a ∧ z a o ∧ o.cls = .type "list" ∧ o.data = .seq vs.toArray n ∧ RdAll z vs ds := by
  cases h with
  | list ha hc hd hl hr => exact ⟨_, _, _, _, rfl, ha, hc, hd, hl, hr⟩
theorem Rd.listIn {z : Fz} {h : Heap} {v : Value} {ds : List PyData} (r : Rd z v (.list ds)) (hz : z.In h) : ∃ a vs, v = .ref a ∧ h.IsList a vs.toArray ∧ RdAll z vs ds := by
  obtain ⟨a, o, vs, n, e, ha, hc, hd, hr⟩ := r.isList
  exact ⟨a, vs, e, ⟨o, hz _ _ ha, hc, n, hd⟩, hr⟩
theorem Rd.isStr {z : Fz} {v : Value} {x : Str} (h : Rd z v (.str x)) : ∃ t, v = .str x t := by cases h; exact ⟨_, rfl⟩
theorem Rd.isInt {z : Fz} {v : Value} {i : Int} (h : Rd z v (.int i)) : ∃ t, v = .int i t := by cases h; exact ⟨_, rfl⟩
theorem Rd.isBool {z : Fz} {v : Value} {b : Bool} (h : Rd z v (.bool b)) : v = .bool b := by cases h; rfl

theorem readsAll_of {z : Fz} {h : Heap} : ∀ {vs : List Value} {ds : List PyData}, vs.length = ds.length → (∀ (i : Nat) (v : Value) (d : PyData), vs[i]? = some v → ds[i]? = some d → ∃ as, Reads h v d as) → ∃ as, ReadsAll h vs ds as
  | [], [], _, _ => ⟨_, .nil⟩
  | [], _ :: _, e, _ => by simp at e
  | _ :: _, [], e, _ => by simp at e
  | v :: vs, d :: ds, e, f => by
    obtain ⟨as, ha⟩ := f 0 v d rfl rfl
    obtain ⟨bs, hb⟩ := readsAll_of (z := z) (vs := vs) (ds := ds) (by simpa using e) fun i w c a b => f (i + 1) w c (by simpa using a) (by simpa using b)
    exact ⟨_, .cons ha hb⟩
theorem Rd.reads {z : Fz} {h : Heap} (hz : z.In h) : ∀ {v : Value} {d : PyData}, Rd z v d → ∃ as, Reads h v d as := by
  intro v d x
  induction x with
  | none => exact ⟨_, .none⟩
  | bool b => exact ⟨_, .bool b⟩
  | int i t => exact ⟨_, .int i t⟩
  | str x t => exact ⟨_, .str x t⟩
  | list ha hc hd hl _ ih =>
    obtain ⟨as, h'⟩ := readsAll_of (z := z) hl ih
    exact ⟨_, .list (hz _ _ ha) hc hd (by simpa using h')⟩

end NB90
end
section
open PySem PySem.W PyProof.Rows
set_option Elab.async false
namespace NB90

/-- what the module's run has left, as far as it is used -/
structure Gd (h₀ : Heap) (mg mb : Str → Option Value) : Prop where
  g : h₀.Ns mainGlobals mg
  b : h₀.Ns builtinsNs mb
  lim : h₀.NoLimit
  len : mg (Str.ofString "len") = none ∧ mb (Str.ofString "len") = some (.builtin "len")
  range : mg (Str.ofString "range") = none ∧ mb (Str.ofString "range") = some (.type "range")
  int : mg (Str.ofString "int") = none ∧ mb (Str.ofString "int") = some (.type "int")
  set : mg (Str.ofString "set") = none ∧ mb (Str.ofString "set") = some (.type "set")
  next : mg (Str.ofString "next") = none ∧ mb (Str.ofString "next") = some (.builtin "next")
  ve : mg (Str.ofString "ValueError") = none ∧ mb (Str.ofString "ValueError") = some (.type "ValueError")
  ke : mg (Str.ofString "KeyError") = none ∧ mb (Str.ofString "KeyError") = some (.type "KeyError")

noncomputable def Base (h₀ : Heap) (z : Fz) : Prop := ∀ a o, h₀.get? a = some o → z a o
theorem Base.mono {h₀ : Heap} {z z' : Fz} (h : Base h₀ z) (hz : z.le z') : Base h₀ z' := fun a o e => hz a o (h a o e)
theorem Base.keep {h₀ : Heap} {z : Fz} (h : Base h₀ z) {h' : Heap} (hz : z.In h') : ∀ b o, h₀.get? b = some o → h'.get? b = some o := fun b o e => hz b o (h b o e)

/-- a def of the text, as the module's run left it -/
structure FnOk (h₀ : Heap) (nm : Str) (P : Arguments) (B : List Stmt) (S : Scope) (a : Addr) (cd : Value) : Prop where
  at_ : ∃ o pm doc, h₀.get? a = some o ∧ o.data = .func (Calls.docDef nm P B S pm cd doc)
  code : h₀.CodeRec cd nm

/-- a frame: the names that it sees -/
structure Fm (z : Fz) (h : Heap) (env : Env) (ρ : List (Str × Value)) : Prop where
  fn : env.scope.kind = .function
  gl : env.globals = mainGlobals
  bi : env.builtins = builtinsNs
  ns : ∃ m, h.Ns env.locals m ∧ ∀ x v, env.kindOf x = some .local → ρ.lookup x = some v → m x = some v
  cell : ∀ x v, (env.kindOf x = some .cell ∨ env.kindOf x = some .free) → ρ.lookup x = some v → ∃ c, env.cells.lookup x = some c ∧ h.IsCell c (some v)
  nz : ∀ o, ¬ z env.locals o
  cz : ∀ x c, env.cells.lookup x = some c → (∃ v, h.IsCell c v) ∧ ∀ o, ¬ z c o
  dist : ∀ x y c, env.cells.lookup x = some c → env.cells.lookup y = some c → x = y

noncomputable def Apart (W : Addr → Prop) (env : Env) : Prop := ¬ W env.locals ∧ ∀ x c, env.cells.lookup x = some c → ¬ W c
theorem Apart.no (env : Env) : Apart No env := ⟨fun x => x, fun _ _ _ x => x⟩

theorem Fm.up {W : Addr → Prop} {z z' : Fz} {s s' : Shared} {env : Env} {ρ : List (Str × Value)} (F : Fm z s.heap env ρ) (g : Grow W z s z' s') (hW : Apart W env) : Fm z' s'.heap env ρ where
  fn := F.fn
  gl := F.gl
  bi := F.bi
  ns := let ⟨m, hn, hm⟩ := F.ns; ⟨m, hn.at' fun o e => g.keep _ o hW.1 e, hm⟩
  cell := fun x v hk hv => let ⟨c, hc, o, ho, hd⟩ := F.cell x v hk hv; ⟨c, hc, o, g.keep _ o (hW.2 x c hc) ho, hd⟩
  nz := fun o e => (g.new _ o e).elim (F.nz o) fun hl => let ⟨_, hn, _⟩ := F.ns; absurd hn.lt (Nat.not_lt.mpr hl)
  cz := fun x c hc => let ⟨⟨v, o, ho, hd⟩, h2⟩ := F.cz x c hc; ⟨⟨v, o, g.keep _ o (hW.2 x c hc) ho, hd⟩, fun p e => (g.new _ p e).elim (h2 p) fun hl => absurd (Heap.lt_size ho) (Nat.not_lt.mpr hl)⟩
  dist := F.dist

/-- within a frame whose own places are new since s₀ -/
structure Inn (h₀ : Heap) (W : Addr → Prop) (z₀ : Fz) (s₀ : Shared) (env : Env) (ρ : List (Str × Value)) (z : Fz) (s : Shared) : Prop where
  grow : Grow W z₀ s₀ z s
  frame : Fm z s.heap env ρ
  base : Base h₀ z
  apart : Apart W env

variable {h₀ : Heap} {mg mb : Str → Option Value} {W : Addr → Prop} {z₀ z z' : Fz} {s₀ s s' : Shared} {env : Env} {ρ : List (Str × Value)} {prog : Program} {w : World} {A : Around} {E : Value → Shared → Prop}

theorem Inn.inn (I : Inn h₀ W z₀ s₀ env ρ z s) : z.In s.heap := I.grow.inn
theorem Inn.up (I : Inn h₀ W z₀ s₀ env ρ z s) (g : Grow W z s z' s') : Inn h₀ W z₀ s₀ env ρ z' s' :=
  ⟨I.grow.trans g, I.frame.up g I.apart, I.base.mono g.le, I.apart⟩
/-- the same, told from here on -/
theorem Inn.here (I : Inn h₀ W z₀ s₀ env ρ z s) : Inn h₀ W z s env ρ z s := ⟨Grow.refl I.grow.inn, I.frame, I.base, I.apart⟩
theorem Inn.keep0 (I : Inn h₀ W z₀ s₀ env ρ z s) : ∀ b o, h₀.get? b = some o → s.heap.get? b = some o := I.base.keep I.inn

theorem To.sameBut {s : Shared} {h' : Heap} {a : Addr} {tk : Nat} (hs : Heap.SameBut a s.heap h') : To (· = a) s { s with heap := h', toks := tk } :=
  ⟨fun b o hb e => (hs.2 b hb).trans e, by rw [hs.1]; exact Nat.le_refl _, rfl, fun _ _ e => e, id⟩

theorem Grow.store {a : Addr} (g : Grow W z₀ s₀ z s) (ha : s₀.heap.objs.size ≤ a) (hz : ∀ o, ¬ z a o) (t : To (· = a) s s') : Grow W z₀ s₀ z s' where
  keep := fun b o hb e => t.keep b o (fun h => Nat.lt_irrefl _ (Nat.lt_of_lt_of_le (Heap.lt_size e) (h ▸ ha))) (g.keep b o hb e)
  size := Nat.le_trans g.size t.size
  os := t.os.trans g.os
  gens := fun i x e => t.gens i x (g.gens i x e)
  bare := fun h => t.bare (g.bare h)
  le := g.le
  inn := fun b o e => t.keep b o (fun h => hz o (h ▸ e)) (g.inn b o e)
  new := g.new

theorem lookup_cons_self {x : Str} {v : Value} {ρ : List (Str × Value)} : ((x, v) :: ρ).lookup x = some v := by rw [List.lookup_cons]; simp
theorem lookup_cons_ne {x y : Str} {v : Value} {ρ : List (Str × Value)} (h : y ≠ x) : ((x, v) :: ρ).lookup y = ρ.lookup y := by
  rw [List.lookup_cons, beq_eq_false_iff_ne.mpr h]

/-- a store into the frame's own dict -/
theorem Inn.stS {x : Str} {v : Value} {Q : Unit → Shared → Prop} (I : Inn h₀ W z₀ s₀ env ρ z s) (hL : s₀.heap.objs.size ≤ env.locals) (hl : env.kindOf x = some .local)
    (h : ∀ s', Inn h₀ W z₀ s₀ env ((x, v) :: ρ) z s' → To (· = env.locals) s s' → s'.heap.objs.size = s.heap.objs.size → Q () s') : wpAny (model prog w) A (storeName env x v) Q E s := by
  obtain ⟨m, hn, hm⟩ := I.frame.ns
  refine wpAny_storeName_local hl hn (fun h' hn' hs' => ?_) (by rw [I.frame.fn]; rfl)
  have t := To.sameBut (tk := s.toks + 1) hs'
  refine h _ ⟨I.grow.store hL I.frame.nz t, ?_, I.base, I.apart⟩ t hs'.1
  have hne : ∀ y c, env.cells.lookup y = some c → c ≠ env.locals := fun y c hc e => by
    obtain ⟨⟨_, o, ho, hd⟩, _⟩ := I.frame.cz y c hc
    obtain ⟨o', es, ep, ho', hd', _⟩ := hn
    rw [e, ho'] at ho; cases ho; rw [hd'] at hd; cases hd
  exact {
    fn := I.frame.fn, gl := I.frame.gl, bi := I.frame.bi
    ns := ⟨_, hn', fun y u hk hv => by
      by_cases e : y = x
      · subst e; rw [lookup_cons_self] at hv; cases hv; simp
      · rw [lookup_cons_ne e] at hv; simp only [e, if_false]; exact hm y u hk hv⟩
    cell := fun y u hk hv => by
      have e : y ≠ x := fun e => by rw [e, hl] at hk; rcases hk with hk | hk <;> cases hk
      rw [lookup_cons_ne e] at hv
      obtain ⟨c, hc, hcell⟩ := I.frame.cell y u hk hv
      exact ⟨c, hc, hcell.sameBut hs' (hne y c hc)⟩
    nz := I.frame.nz
    cz := fun y c hc => let ⟨⟨u, hu⟩, h2⟩ := I.frame.cz y c hc; ⟨⟨u, hu.sameBut hs' (hne y c hc)⟩, h2⟩
    dist := I.frame.dist }

theorem Inn.st {x : Str} {v : Value} {Q : Unit → Shared → Prop} (I : Inn h₀ W z₀ s₀ env ρ z s) (hL : s₀.heap.objs.size ≤ env.locals) (hl : env.kindOf x = some .local)
    (h : ∀ s', Inn h₀ W z₀ s₀ env ((x, v) :: ρ) z s' → To (· = env.locals) s s' → Q () s') : wpAny (model prog w) A (storeName env x v) Q E s := I.stS hL hl fun s' J t _ => h s' J t

/-- a store into a cell of the frame's own -/
theorem Inn.stC {x : Str} {v : Value} {c : Addr} {Q : Unit → Shared → Prop} (I : Inn h₀ W z₀ s₀ env ρ z s) (hl : env.kindOf x = some .cell) (hc : env.cells.lookup x = some c) (hnew : s₀.heap.objs.size ≤ c)
    (h : ∀ s', Inn h₀ W z₀ s₀ env ((x, v) :: ρ) z s' → To (· = c) s s' → Q () s') : wpAny (model prog w) A (storeName env x v) Q E s := by
  obtain ⟨m, hn, hm⟩ := I.frame.ns
  obtain ⟨⟨v₀, hv₀⟩, hz⟩ := I.frame.cz x c hc
  refine wpAny_storeName_cell I.frame.fn hl hc hv₀ (fun h' hc' hs' => ?_)
  have t : To (· = c) s { s with heap := h' } := To.sameBut (tk := s.toks) hs'
  refine h _ ⟨I.grow.store hnew hz t, ?_, I.base, I.apart⟩ t
  have hLc : env.locals ≠ c := fun e => by
    obtain ⟨o, ho, hd⟩ := hv₀
    obtain ⟨o', es, ep, ho', hd', _⟩ := hn
    rw [← e, ho'] at ho; cases ho; rw [hd'] at hd; cases hd
  exact {
    fn := I.frame.fn, gl := I.frame.gl, bi := I.frame.bi
    ns := ⟨m, hn.sameBut hs' hLc, fun y u hk hv => by
      have e : y ≠ x := fun e => by rw [e, hl] at hk; cases hk
      rw [lookup_cons_ne e] at hv; exact hm y u hk hv⟩
    cell := fun y u hk hv => by
      by_cases e : y = x
      · subst e; rw [lookup_cons_self] at hv; cases hv; exact ⟨c, hc, hc'⟩
      · rw [lookup_cons_ne e] at hv
        obtain ⟨d, hd, hcell⟩ := I.frame.cell y u hk hv
        exact ⟨d, hd, hcell.sameBut hs' fun q => e (I.frame.dist y x d hd (q ▸ hc))⟩
    nz := I.frame.nz
    cz := fun y d hd => by
      obtain ⟨⟨u, hu⟩, h2⟩ := I.frame.cz y d hd
      by_cases q : d = c
      · subst q; exact ⟨⟨_, hc'⟩, h2⟩
      · exact ⟨⟨u, hu.sameBut hs' q⟩, h2⟩
    dist := I.frame.dist }

/-- a name of the frame's -/
theorem Inn.ld {x : Str} {pos : Pos} {v : Value} {Q : Value → Shared → Prop} (I : Inn h₀ W z₀ s₀ env ρ z s) (hv : ρ.lookup x = some v)
    (hk : env.kindOf x = some .local ∨ env.kindOf x = some .cell ∨ env.kindOf x = some .free) (h : Q v s)
    (hd : (x == ("__debug__" : Str)) = false := by decide) (hc : (x == ("__classdict__" : Str)) = false := by decide) : wpAny (model prog w) A (eval (.Name x pos) env) Q E s := by
  refine wpAny_Name ?_ hd
  rcases hk with hk | hk | hk
  · obtain ⟨m, hn, hm⟩ := I.frame.ns
    exact wpAny_loadName_local I.frame.fn hk hn (hm x v hk hv) h
  · obtain ⟨c, hc, hcell⟩ := I.frame.cell x v (.inl hk) hv
    exact wpAny_loadName_cell I.frame.fn hk hc hcell h
  · obtain ⟨c, hc', hcell⟩ := I.frame.cell x v (.inr hk) hv
    exact wpAny_loadName_free I.frame.fn hk hc' hcell h hc

/-- a name of the module's -/
theorem Inn.ldG {x : Str} {pos : Pos} {v : Value} {Q : Value → Shared → Prop} (I : Inn h₀ W z₀ s₀ env ρ z s) (G : Gd h₀ mg mb) (hv : mg x = some v)
    (hk : env.kindOf x = some .globalImplicit) (h : Q v s) (hd : (x == ("__debug__" : Str)) = false := by decide) : wpAny (model prog w) A (eval (.Name x pos) env) Q E s :=
  Calls.Name_function_global I.frame.fn hk (Calls.loadGlobal_global (I.frame.gl ▸ G.g.keeps I.keep0) hv h) hd
theorem Inn.ldB {x : Str} {pos : Pos} {v : Value} {Q : Value → Shared → Prop} (I : Inn h₀ W z₀ s₀ env ρ z s) (G : Gd h₀ mg mb) (hm : mg x = none) (hv : mb x = some v)
    (hk : env.kindOf x = some .globalImplicit) (h : Q v s) (hd : (x == ("__debug__" : Str)) = false := by decide) : wpAny (model prog w) A (eval (.Name x pos) env) Q E s :=
  Calls.Name_function_global I.frame.fn hk (Calls.loadGlobal_builtin (I.frame.gl ▸ G.g.keeps I.keep0) hm (I.frame.bi ▸ G.b.keeps I.keep0) hv h) hd

theorem lookup_bindL {kindOf : Str → Option NameKind} : ∀ (binds : List (Str × Value)) (m : Str → Option Value) (x : Str) (v : Value), kindOf x = some .local → binds.reverse.lookup x = some v → bindL kindOf binds m x = some v := by
  intro binds
  induction binds with
  | nil => intro m x v _ h; simp at h
  | cons p r ih =>
    intro m x v hk h
    obtain ⟨n, u⟩ := p
    unfold bindL
    rw [List.reverse_cons] at h
    by_cases hr : ∃ v', r.reverse.lookup x = some v'
    · obtain ⟨v', hv'⟩ := hr
      have : (r.reverse ++ [(n, u)]).lookup x = some v' := by rw [List.lookup_append, hv']; rfl
      rw [this] at h; cases h
      exact ih _ x v hk hv'
    · have hnone : r.reverse.lookup x = none := by cases e : r.reverse.lookup x with | none => rfl | some v' => exact absurd ⟨v', e⟩ hr
      rw [List.lookup_append, hnone, Option.none_or] at h
      have hxn : x = n := by
        rw [List.lookup_cons] at h
        cases hb : x == n with
        | true => exact beq_iff_eq.mp hb
        | false => rw [hb] at h; simp at h
      subst hxn
      simp at h; subst h
      rw [if_pos hk]
      have hm : ∀ (r : List (Str × Value)) (m : Str → Option Value), r.reverse.lookup x = none → m x = some u → bindL kindOf r m x = some u := by
        intro r
        induction r with
        | nil => intro m _ h; exact h
        | cons q r ih =>
          intro m hn h
          obtain ⟨k, y⟩ := q
          rw [List.reverse_cons, List.lookup_append] at hn
          cases e : r.reverse.lookup x with
          | some v' => rw [e] at hn; simp at hn
          | none =>
            rw [e, Option.none_or] at hn
            have hne : x ≠ k := fun e => by subst e; simp at hn
            unfold bindL
            refine ih _ e ?_
            split
            · simp only [hne, if_false]; exact h
            · exact h
      exact hm r _ hnone (by simp)
theorem lookup_bindC {kindOf : Str → Option NameKind} : ∀ (binds : List (Str × Value)) (m : Str → Option Value) (x : Str) (v : Value), kindOf x ≠ some .local → binds.reverse.lookup x = some v → bindC kindOf binds m x = some v := by
  intro binds
  induction binds with
  | nil => intro m x v _ h; simp at h
  | cons p r ih =>
    intro m x v hk h
    obtain ⟨n, u⟩ := p
    unfold bindC
    rw [List.reverse_cons] at h
    by_cases hr : ∃ v', r.reverse.lookup x = some v'
    · obtain ⟨v', hv'⟩ := hr
      have : (r.reverse ++ [(n, u)]).lookup x = some v' := by rw [List.lookup_append, hv']; rfl
      rw [this] at h; cases h
      exact ih _ x v hk hv'
    · have hnone : r.reverse.lookup x = none := by cases e : r.reverse.lookup x with | none => rfl | some v' => exact absurd ⟨v', e⟩ hr
      rw [List.lookup_append, hnone, Option.none_or] at h
      have hxn : x = n := by
        rw [List.lookup_cons] at h
        cases hb : x == n with
        | true => exact beq_iff_eq.mp hb
        | false => rw [hb] at h; simp at h
      subst hxn
      simp at h; subst h
      rw [if_neg hk]
      have hm : ∀ (r : List (Str × Value)) (m : Str → Option Value), r.reverse.lookup x = none → m x = some u → bindC kindOf r m x = some u := by
        intro r
        induction r with
        | nil => intro m _ h; exact h
        | cons q r ih =>
          intro m hn h
          obtain ⟨k, y⟩ := q
          rw [List.reverse_cons, List.lookup_append] at hn
          cases e : r.reverse.lookup x with
          | some v' => rw [e] at hn; simp at hn
          | none =>
            rw [e, Option.none_or] at hn
            have hne : x ≠ k := fun e => by subst e; simp at hn
            unfold bindC
            refine ih _ e ?_
            split
            · exact h
            · simp only [hne, if_false]; exact h
      exact hm r _ hnone (by simp)

/-- the frame that a call of a def enters -/
theorem enter_frame {nm : Str} {P : Arguments} {B : List Stmt} {S : Scope} {pm cd doc : Value} {a : Addr} {binds : List (Str × Value)} {s₁ : Shared} (hk : S.kind = .function)
    (hkind : ∀ x ∈ binds, S.names.lookup x.1 = some .local ∨ (S.names.lookup x.1 = some .cell ∧ ((cellsFrom (s.heap.objs.size + 1) S.names []).lookup x.1).isSome = true)) (hz : z.In s.heap) (hb : Base h₀ z)
    (x : InCallC s (callEnvC (Calls.docDef nm P B S pm cd doc) s.heap.objs.size a).locals (bindL (callEnvC (Calls.docDef nm P B S pm cd doc) s.heap.objs.size a).kindOf binds fun _ => none) (callEnvC (Calls.docDef nm P B S pm cd doc) s.heap.objs.size a).cells
        (bindC (callEnvC (Calls.docDef nm P B S pm cd doc) s.heap.objs.size a).kindOf binds fun _ => none) s₁) :
    Inn h₀ No z s (callEnvC (Calls.docDef nm P B S pm cd doc) s.heap.objs.size a) binds.reverse z s₁ := by
  obtain ⟨⟨⟨h₁, tk, rfl⟩, hns, hkeep, _⟩, hcell, hap, hab⟩ := x
  have hsz : s.heap.objs.size ≤ h₁.objs.size := Nat.le_of_lt hns.lt
  have t : To No s { s with heap := h₁, toks := tk } := To.heap hkeep hsz No
  refine ⟨Grow.same hz t, ?_, hb, Apart.no _⟩
  exact {
    fn := hk, gl := rfl, bi := rfl
    ns := ⟨_, hns, fun y v hky hv => lookup_bindL binds _ y v hky hv⟩
    cell := fun y v hky hv => by
      have hc : ∃ c, (callEnvC (Calls.docDef nm P B S pm cd doc) s.heap.objs.size a).cells.lookup y = some c := by
        have hm : (y, v) ∈ binds := List.mem_reverse.mp (mem_of_lookup hv)
        rcases hkind _ hm with h1 | ⟨_, h2⟩
        · exfalso
          have h1' : (callEnvC (Calls.docDef nm P B S pm cd doc) s.heap.objs.size a).kindOf y = some .local := h1
          rw [h1'] at hky; rcases hky with h | h <;> cases h
        · exact Option.isSome_iff_exists.mp h2
      obtain ⟨c, hc⟩ := hc
      refine ⟨c, hc, ?_⟩
      have := hcell y c hc
      rw [lookup_bindC binds _ y v (by rcases hky with h | h <;> rw [h] <;> decide) hv] at this
      exact this
    nz := fun o e => absurd (Heap.lt_size (hz _ _ e)) (Nat.lt_irrefl _)
    cz := fun y c hc => ⟨⟨_, hcell y c hc⟩, fun o e => absurd (Nat.lt_trans (hab y c (mem_of_lookup hc)) (Heap.lt_size (hz _ _ e))) (Nat.lt_irrefl _)⟩
    dist := fun y y' c hy hy' => name_of_addr hap (mem_of_lookup hy) (mem_of_lookup hy') }

end NB90
end
section
set_option autoImplicit false
open PySem PySem.W PyProof.Rows
open PySem.Builtin.Str (partsBetween occurrences)
set_option Elab.async false
namespace NB90
variable {h₀ : Heap} {mg mb : Str → Option Value} {W : Addr → Prop} {z₀ z z' : Fz} {s₀ s s' : Shared} {env : Env} {ρ : List (Str × Value)} {prog : Program} {w : World} {A : Around} {E : Value → Shared → Prop}

theorem Inn.to (I : Inn h₀ W z₀ s₀ env ρ z s) (t : To No s s') : Inn h₀ W z₀ s₀ env ρ z s' := I.up (Grow.same I.inn t)
theorem Inn.tok (I : Inn h₀ W z₀ s₀ env ρ z s) (k : Nat) : Inn h₀ W z₀ s₀ env ρ z { s with toks := k } := I.to (To.tok _ _ _)
theorem To.pushTok (W : Addr → Prop) (s : Shared) (o : Obj) (k : Nat) : To W s { s with heap := s.heap.push o, toks := k } :=
  ⟨fun _ _ _ e => Heap.get?_push_of_some o e, by simp, rfl, fun _ _ e => e, id⟩
theorem Inn.pushTmp (I : Inn h₀ W z₀ s₀ env ρ z s) (o : Obj) (k : Nat) : Inn h₀ W z₀ s₀ env ρ z { s with heap := s.heap.push o, toks := k } := I.to (To.pushTok _ _ _ _)
theorem Grow.push (hz : z.In s.heap) (o : Obj) (k : Nat) (hf : o.isFreed = false := by rfl) : Grow W z s (z.put s.heap.objs.size o) { s with heap := s.heap.push o, toks := k } :=
  (Grow.same hz (To.pushTok _ _ _ _)).put (Nat.le_refl _) (Heap.get?_push_size _ hf)
theorem Inn.push (I : Inn h₀ W z₀ s₀ env ρ z s) (o : Obj) (k : Nat) (hf : o.isFreed = false := by rfl) : Inn h₀ W z₀ s₀ env ρ (z.put s.heap.objs.size o) { s with heap := s.heap.push o, toks := k } :=
  I.up (Grow.push I.inn o k hf)

theorem Inn.int {i : Int} {k : Nat} {pos : Pos} {Q : Value → Shared → Prop} (I : Inn h₀ W z₀ s₀ env ρ z s) (h : ∀ t s', Inn h₀ W z₀ s₀ env ρ z s' → Q (.int i t) s') :
    wpAny (model prog w) A (eval (.Constant (.int i) k pos) env) Q E s := wpAny_Constant_int (h _ _ (I.tok _))
theorem Inn.str {x : Str} {k : Nat} {pos : Pos} {Q : Value → Shared → Prop} (I : Inn h₀ W z₀ s₀ env ρ z s) (h : ∀ t s', Inn h₀ W z₀ s₀ env ρ z s' → Q (.str x t) s') :
    wpAny (model prog w) A (eval (.Constant (.str x) k pos) env) Q E s := Calls.Constant_str (h _ _ (I.tok _))
theorem cnone {k : Nat} {pos : Pos} {Q : Value → Shared → Prop} (h : Q .none s) : wpAny (model prog w) A (eval (.Constant .none k pos) env) Q E s := wpAny_pure h
theorem cbool {b : Bool} {k : Nat} {pos : Pos} {Q : Value → Shared → Prop} (h : Q (.bool b) s) : wpAny (model prog w) A (eval (.Constant (.bool b) k pos) env) Q E s := wpAny_pure h

/-- a new list, frozen at once -/
theorem Inn.newList {vs : List Value} {ds : List PyData} {Q : Value → Shared → Prop} (I : Inn h₀ W z₀ s₀ env ρ z s) (hr : RdAll z vs ds) (hsz : vs.length ≤ sizeLine)
    (h : ∀ v z' s', z.le z' → Inn h₀ W z₀ s₀ env ρ z' s' → Rd z' v (.list ds) → Q v s') : wpAny (model prog w) A (newList vs) Q E s :=
  wpAny_newObj_type (h _ _ _ (Fz.put_le _ _ _) (I.push { cls := .type "list", data := .seq vs.toArray } s.toks) (Rd.list' (Fz.put_at _ _ _) (hr.mono (Fz.put_le _ _ _))))
    (by show vs.toArray.size ≤ sizeLine; rw [List.size_toArray]; exact hsz)

/-- an item of a list -/
theorem tail_list {value slice : Expr} {o : Value} {ds : List PyData} {k : Int} {t : Tok} {d : PyData} {Q : Value → Shared → Prop} (hz : z.In s.heap) (hr : Rd z o (.list ds)) (h0 : 0 ≤ k) (hk : k < 2 ^ 63) (hd : ds[k.toNat]? = some d)
    (h : ∀ v, Rd z v d → Q v s) (hs : ∀ l, subscripted slice false (.ref l) (.int k t) = operate [.ref l, .int k t] (getItem (.ref l) (.int k t)) := by intro _; rfl) :
    wpAny (model prog w) A (subscriptTail value slice o (.int k t)) Q E s := by
  obtain ⟨l, vs, rfl, hl, ha⟩ := hr.listIn hz
  obtain ⟨v, hv, hrd⟩ := ha.get hd
  exact tail_any hl.typeIs slot_list_getitem.lookup (wpAny_getItem_list hl h0 hk (by simpa using hv) (h v hrd)) (hs l)

/-- a cut: the parts, then the cut itself -/
noncomputable def CutOn (prog : Program) (w : World) (A : Around) (E : Value → Shared → Prop) (o vl vu : Value) (Q : Value → Shared → Prop) (s : Shared) : Prop :=
  ∃ T id, typeLookup (.type T) "__getitem__" = pure (some (.builtin id)) ∧ s.TypeIs o T ∧
    wpAny (model prog w) A (getItem o (.ref s.heap.objs.size)) Q E { s with heap := s.heap.push { cls := .type "slice", data := .fields #[vl, vu, .none] } }

theorem Cut_ {value : Expr} {lower upper : Option Expr} {p pos : Pos} {Q : Value → Shared → Prop}
    (h : wpAny (model prog w) A (eval value env) (fun o s₁ => wpAny (model prog w) A (evalPart lower env) (fun vl s₂ => wpAny (model prog w) A (evalPart upper env) (fun vu s₃ => CutOn prog w A E o vl vu Q s₃) E s₂) E s₁) E s) :
    wpAny (model prog w) A (eval (.Subscript value (.Slice lower upper none p) pos) env) Q E s := by
  refine Subscript_ (wpAny_mono h (fun o s₁ h₁ => wpAny_Slice (wpAny_mono h₁ (fun vl s₂ h₂ => wpAny_mono h₂ (fun vu s₃ h₃ => ?_) fun _ _ e => e) fun _ _ e => e)) fun _ _ e => e)
  obtain ⟨T, id, hl, hT, hg⟩ := h₃
  rw [evalPart_none]
  refine wpAny_pure (tail_any (T := T) ?_ hl hg rfl)
  cases o <;> first | exact hT | (obtain ⟨ob, ho, hc⟩ := hT; exact ⟨ob, Heap.get?_push_of_some _ ho, hc⟩)

theorem cut_list {o vl vu : Value} {lo hi : Option Int} {ds es : List PyData} {Q : Value → Shared → Prop} (I : Inn h₀ W z₀ s₀ env ρ z s) (hr : Rd z o (.list ds)) (hsz : ds.length ≤ sizeLine) (pl : IsPart vl lo) (pu : IsPart vu hi)
    (hp : ∀ vs : List Value, RdAll z vs ds → RdAll z (slicePick vs.toArray lo hi none).toList es)
    (h : ∀ v z' s', z.le z' → Inn h₀ W z₀ s₀ env ρ z' s' → Rd z' v (.list es) → Q v s') : CutOn prog w A E o vl vu Q s := by
  obtain ⟨l, vs, rfl, hl, ha⟩ := hr.listIn I.inn
  refine ⟨"list", _, slot_list_getitem.lookup, hl.typeIs, wpAny_getItem_list_slice (hl.push _) (Heap.IsSliceOf.new ..) pl pu .none (by simp) ?_ (by simp [ha.1]; exact hsz)⟩
  have I1 := I.pushTmp { cls := .type "slice", data := .fields #[vl, vu, .none] } s.toks
  refine h _ _ _ (Fz.put_le _ _ _) (I1.push { cls := .type "list", data := .seq (slicePick vs.toArray lo hi none) } s.toks) ?_
  have := hp vs ha
  exact .list (Fz.put_at _ _ _) rfl (by simp; rfl) this.1 (this.mono (Fz.put_le _ _ _)).2
theorem cut_upto {o : Value} {b : Nat} {t : Tok} {ds : List PyData} {Q : Value → Shared → Prop} (I : Inn h₀ W z₀ s₀ env ρ z s) (hr : Rd z o (.list ds)) (hsz : ds.length ≤ sizeLine)
    (h : ∀ v z' s', z.le z' → Inn h₀ W z₀ s₀ env ρ z' s' → Rd z' v (.list (ds.take b)) → Q v s') : CutOn prog w A E o .none (.int b t) Q s :=
  cut_list I hr hsz .none (.int b t) (fun vs ha => by rw [slicePick_upto']; simpa using ha.take b) h
theorem cut_from {o : Value} {a : Nat} {t : Tok} {ds : List PyData} {Q : Value → Shared → Prop} (I : Inn h₀ W z₀ s₀ env ρ z s) (hr : Rd z o (.list ds)) (hsz : ds.length ≤ sizeLine)
    (h : ∀ v z' s', z.le z' → Inn h₀ W z₀ s₀ env ρ z' s' → Rd z' v (.list (ds.drop a)) → Q v s') : CutOn prog w A E o (.int a t) .none Q s :=
  cut_list I hr hsz (.int a t) .none (fun vs ha => by rw [slicePick_from']; simpa using ha.drop a) h
theorem cut_butLast {o : Value} {t : Tok} {ds : List PyData} {Q : Value → Shared → Prop} (I : Inn h₀ W z₀ s₀ env ρ z s) (hr : Rd z o (.list ds)) (hsz : ds.length ≤ sizeLine)
    (h : ∀ v z' s', z.le z' → Inn h₀ W z₀ s₀ env ρ z' s' → Rd z' v (.list (ds.take (ds.length - 1))) → Q v s') : CutOn prog w A E o .none (.int (-1) t) Q s :=
  cut_list I hr hsz .none (.int (-1) t) (fun vs ha => by
    have := slicePick_butLast vs.toArray 1 (Nat.le_refl _)
    simp only [Int.natCast_one] at this
    rw [this]; simp only [List.size_toArray, ha.1]; simpa using ha.take (ds.length - 1)) h

theorem cut_str {x : Str} {t : Tok} {l u : Option (Int × Tok)} {Q : Value → Shared → Prop} (I : Inn h₀ W z₀ s₀ env ρ z s) (hsz : x.length ≤ sizeLine)
    (h : ∀ t' s', Inn h₀ W z₀ s₀ env ρ z s' → Q (.str (Txt.slice x (l.map (·.1)) (u.map (·.1))) t') s') : CutOn prog w A E (.str x t) (partValue l) (partValue u) Q s :=
  ⟨"str", _, F.slot_str_getitem.lookup, typeIs_str _ _ _, wpAny_getItem_str_slice (l := l) (u := u) (st := none) ⟨_, Heap.get?_push_size _ rfl, rfl, rfl⟩ rfl
    (post_val_or_str ⟨Nat.le_trans (Txt.slice_le x _ _) hsz, fun t' k => h t' _ (I.pushTmp _ k)⟩)⟩

theorem tail_str {value slice : Expr} {x : Str} {t u : Tok} {i : Int} {Q : Value → Shared → Prop} (I : Inn h₀ W z₀ s₀ env ρ z s) (hr : fitsSsize i = true) (hin : (Txt.charAt x i).isSome = true)
    (h : ∀ t' s', Inn h₀ W z₀ s₀ env ρ z s' → Q (.str (Txt.item x i) t') s')
    (hs : subscripted slice false (.str x t) (.int i u) = operate [.str x t, .int i u] (getItem (.str x t) (.int i u)) := by rfl) :
    wpAny (model prog w) A (subscriptTail value slice (.str x t) (.int i u)) Q E s :=
  tail_any (typeIs_str _ _ _) F.slot_str_getitem.lookup (SB.getItem hr hin (h _ _ (I.tok _))) hs

theorem add_list {o p : Value} {ds es : List PyData} {Q : Value → Shared → Prop} (I : Inn h₀ W z₀ s₀ env ρ z s) (hr : Rd z o (.list ds)) (hr' : Rd z p (.list es)) (hsz : ds.length + es.length ≤ sizeLine)
    (h : ∀ v z' s', z.le z' → Inn h₀ W z₀ s₀ env ρ z' s' → Rd z' v (.list (ds ++ es)) → Q v s') : wpAny (model prog w) A (binaryOp .Add o p) Q E s := by
  obtain ⟨l, vs, rfl, hl, ha⟩ := hr.listIn I.inn
  obtain ⟨b, ws, rfl, hb, hb'⟩ := hr'.listIn I.inn
  obtain ⟨⟨cls, dd, data, sl⟩, ho, hc, n, hd⟩ := id hl
  obtain ⟨⟨cls2, dd2, data2, sl2⟩, ho2, hc2, n2, hd2⟩ := id hb
  simp only at hc hd hc2 hd2
  subst hc hd hc2 hd2
  refine concat_meets ⟨_, ho, rfl⟩ ⟨_, ho2, rfl⟩ noFill_list_add seq_list_add PySem.F.slot_list_add PySem.F.entry_list_add (PySem.F.args_list_add_2 _ _) (list_addW l b vs.toArray ws.toArray n n2 dd dd2 sl sl2 (by simp [ha.1, hb'.1]; exact hsz)) ⟨ho, ho2, ?_⟩
  have e : vs.toArray ++ ws.toArray = (vs ++ ws).toArray := by simp
  rw [e]
  exact h _ _ _ (Fz.put_le _ _ _) (I.push { cls := .type "list", data := .seq (vs ++ ws).toArray } s.toks) (Rd.list' (Fz.put_at _ _ _) ((ha.append hb').mono (Fz.put_le _ _ _)))

theorem Inn.addStr {x y : Str} {t u : Tok} {Q : Value → Shared → Prop} (I : Inn h₀ W z₀ s₀ env ρ z s) (hsz : x.length + y.length ≤ sizeLine) (h : ∀ t' s', Inn h₀ W z₀ s₀ env ρ z s' → Q (.str (x ++ y) t') s') :
    wpAny (model prog w) A (binaryOp .Add (.str x t) (.str y u)) Q E s := SB.add (fun t' k => h t' _ (I.tok k)) hsz
theorem Inn.addInt {i j : Int} {t u : Tok} {Q : Value → Shared → Prop} (I : Inn h₀ W z₀ s₀ env ρ z s) (h : ∀ t' s', Inn h₀ W z₀ s₀ env ρ z s' → Q (.int (i + j) t') s') :
    wpAny (model prog w) A (binaryOp .Add (.int i t) (.int j u)) Q E s := add_int (h _ _ (I.tok _))

theorem len_list' {o : Value} {ds : List PyData} {Q : Value → Shared → Prop} (I : Inn h₀ W z₀ s₀ env ρ z s) (hr : Rd z o (.list ds)) (hsz : ds.length ≤ sizeLine) (h : ∀ t s', Inn h₀ W z₀ s₀ env ρ z s' → Q (.int ds.length t) s') :
    wpAny (model prog w) A (call (.builtin "len") [o]) Q E s := by
  obtain ⟨l, vs, rfl, hl, ha⟩ := hr.listIn I.inn
  refine Calls.call_len_list hl (by simp [ha.1]; unfold sizeLine at hsz; (first | with_reducible assumption | with_reducible exact Nat.add_le_add_left (by decide) _ | with_reducible exact Nat.le_trans (by assumption) (by decide) | with_reducible exact Nat.sub_succ_lt_self (by assumption) | with_reducible exact Nat.lt_of_lt_of_le (by assumption) (by assumption) | with_reducible exact Nat.le_trans (by assumption) (by assumption) | decide | omega)) ?_
  have e : ((vs.toArray.size : Nat) : Int) = ds.length := by simp [ha.1]
  rw [e]; exact h _ _ (I.tok _)

/-- split by a text of one sign or more -/
theorem split_call {x y : Str} {t u : Tok} {Q : Value → Shared → Prop} (I : Inn h₀ W z₀ s₀ env ρ z s) (hy : (y.length == 0) = false) (hx : x.length ≤ sizeLine) (hn : (partsBetween x (occurrences x y 0 x.length (x.length + 1)) y.length).length ≤ sizeLine)
    (h : ∀ v z' s', z.le z' → Inn h₀ W z₀ s₀ env ρ z' s' → Rd z' v (.list ((Txt.split x y).map .str)) → Q v s') : ∃ S, Meets (Builtin.«str.split» ⟨[.str x t, .str y u], []⟩) S ∧ S A (wants Q E) s := by
  have fin : ∀ (l : List (Str × Tok)) (k : Nat), l.map (·.1) = Txt.split x y → Q (.ref s.heap.objs.size) { s with heap := s.heap.push { cls := .type "list", data := .seq (strValues l).toArray }, toks := k } := fun l k e => by
    refine h _ _ _ (Fz.put_le _ _ _) (I.push { cls := .type "list", data := .seq (strValues l).toArray } k) (Rd.list' (Fz.put_at _ _ _) ?_)
    rw [← e]
    refine ⟨by simp [strValues], fun i v d hv hd => ?_⟩
    simp only [strValues, List.getElem?_map, Option.map_eq_some_iff] at hv hd
    obtain ⟨p, hp, rfl⟩ := hv
    obtain ⟨q, ⟨p', hp', rfl⟩, rfl⟩ := hd
    rw [hp] at hp'; cases hp'
    exact .str _ _
  cases h1 : (decide (x.length < y.length) || decide (Builtin.Str.strKind x < Builtin.Str.strKind y))
  · cases hf : (occurrences x y 0 x.length (x.length + 1)).isEmpty
    · refine ⟨_, meets_str_split_sep x y t u h1 hy hf hx hn, ?_⟩
      show wants Q E _ { s with toks := _, heap := s.heap.push { cls := .type "list", data := .seq (strsFrom s.toks (partsBetween x (occurrences x y 0 x.length (x.length + 1)) y.length)).toArray } }
      rw [strsFrom_eq]
      exact fin (numbered s.toks _) _ ((numbered_texts _ _).trans ((if_neg (ne_true_of_eq_false h1)).trans (if_neg (ne_true_of_eq_false hf))).symm)
    · exact ⟨_, meets_str_split_not_found x y t u h1 hy hf, fin [(x, t)] s.toks ((if_neg (ne_true_of_eq_false h1)).trans (if_pos hf)).symm⟩
  · exact ⟨_, meets_str_split_cannot_occur x y t u h1, fin [(x, t)] s.toks (if_pos h1).symm⟩

theorem Inn.split {x y : Str} {t : Tok} {pos : Pos} {a : Sem Value} {Q : Value → Shared → Prop} (_ : Inn h₀ W z₀ s₀ env ρ z s) (hy : (y.length == 0) = false) (hx : x.length ≤ sizeLine) (hn : (partsBetween x (occurrences x y 0 x.length (x.length + 1)) y.length).length ≤ sizeLine)
    (ha : wpAny (model prog w) A a (fun v s₁ => ∃ u z₁, v = .str y u ∧ Inn h₀ W z₀ s₀ env ρ z₁ s₁ ∧ ∀ v z' s', z₁.le z' → Inn h₀ W z₀ s₀ env ρ z' s' → Rd z' v (.list ((Txt.split x y).map .str)) → Q v s') E s) :
    MethodOnS prog w A E "split" (.str x t) pos [(false, a)] Q s := by
  refine ⟨"str", _, F.plainAttrs_str, F.slot_str_split, F.type_str_split, typeIs_str _ _ _, (fun _ e => nomatch e),
    method1_meets F.slot_str_split F.entry_str_split (wpAny_mono ha (fun v s₁ h₁ => ?_) fun _ _ e => e)⟩
  obtain ⟨u, z₁, rfl, I, hq⟩ := h₁
  exact ⟨typeIs_str _ _ _, F.args_str_split_2 _ _, split_call I hy hx hn hq⟩

theorem strs_of_rd {z : Fz} : ∀ {vs : List Value} {xs : List Str}, RdAll z vs (xs.map .str) → ∃ l : List (Str × Tok), vs = strValues l ∧ l.map (·.1) = xs
  | [], [], _ => ⟨[], rfl, rfl⟩
  | [], _ :: _, h => by have := h.1; simp at this
  | _ :: _, [], h => by have := h.1; simp at this
  | v :: vs, x :: xs, h => by
    obtain ⟨t, rfl⟩ := h.head.isStr
    obtain ⟨l, rfl, rfl⟩ := strs_of_rd h.tail
    exact ⟨(x, t) :: l, rfl, rfl⟩

theorem Inn.join {x : Str} {t : Tok} {pos : Pos} {a : Sem Value} {texts : List Str} {Q : Value → Shared → Prop} (_ : Inn h₀ W z₀ s₀ env ρ z s) (hok : JoinOk x texts = true)
    (ha : wpAny (model prog w) A a (fun v s₁ => ∃ z₁, Inn h₀ W z₀ s₀ env ρ z₁ s₁ ∧ Rd z₁ v (.list (texts.map .str)) ∧ ∀ t' s', Inn h₀ W z₀ s₀ env ρ z₁ s' → Q (.str (Txt.join x texts) t') s') E s) :
    MethodOnS prog w A E "join" (.str x t) pos [(false, a)] Q s := by
  refine SB.join (wpAny_mono ha (fun v s₁ h₁ => ?_) fun _ _ e => e)
  obtain ⟨z₁, I, hr, hq⟩ := h₁
  obtain ⟨l, vs, rfl, hl, hall⟩ := hr.listIn I.inn
  obtain ⟨ps, rfl, rfl⟩ := strs_of_rd hall
  exact ⟨l, ps, rfl, hl, _, rfl, hok, fun t' k => hq t' _ (I.tok k)⟩

end NB90
end
section
set_option autoImplicit false
open PySem PySem.W PyProof.Rows
set_option Elab.async false
namespace NB90
variable {h₀ : Heap} {mg mb : Str → Option Value} {W : Addr → Prop} {z₀ z z' z₁ : Fz} {s₀ s s' s₁ : Shared} {env : Env} {ρ : List (Str × Value)} {prog : Program} {w : World} {A : Around} {E : Value → Shared → Prop}

/-- a step that may change the places T and the generators from G on -/
structure Stp (T : Addr → Prop) (G : Nat) (s s' : Shared) : Prop where
  keep : ∀ b o, ¬ T b → s.heap.get? b = some o → s'.heap.get? b = some o
  size : s.heap.objs.size ≤ s'.heap.objs.size
  os : s'.os = s.os
  gens : ∀ (i : Nat) (x : GenState), i < G → s.gens[i]? = some x → s'.gens[i]? = some x
  bare : AllBare s.gens → AllBare s'.gens
theorem To.stp {T : Addr → Prop} {G : Nat} (t : To T s s') : Stp T G s s' := ⟨t.keep, t.size, t.os, fun i x _ e => t.gens i x e, t.bare⟩

theorem Grow.step {T : Addr → Prop} {G : Nat} (g : Grow W z₀ s₀ z s) (hT : ∀ a, T a → s₀.heap.objs.size ≤ a) (hG : s₀.gens.size ≤ G) (hz : ∀ a o, T a → ¬ z a o) (t : Stp T G s s') : Grow W z₀ s₀ z s' where
  keep := fun b o hb e => t.keep b o (fun h => Nat.lt_irrefl _ (Nat.lt_of_lt_of_le (Heap.lt_size e) (hT b h))) (g.keep b o hb e)
  size := Nat.le_trans g.size t.size
  os := t.os.trans g.os
  gens := fun i x e => t.gens i x (Nat.lt_of_lt_of_le (Array.getElem?_eq_some_iff.mp e).1 hG) (g.gens i x e)
  bare := fun h => t.bare (g.bare h)
  le := g.le
  inn := fun b o e => t.keep b o (fun h => hz b o h e) (g.inn b o e)
  new := g.new

theorem Inn.step {T : Addr → Prop} {G : Nat} (I : Inn h₀ W z₀ s₀ env ρ z s) (hT : ∀ a, T a → s₀.heap.objs.size ≤ a) (hG : s₀.gens.size ≤ G) (hz : ∀ a o, T a → ¬ z a o) (hA : Apart T env) (t : Stp T G s s') : Inn h₀ W z₀ s₀ env ρ z s' :=
  ⟨I.grow.step hT hG hz t,
   { fn := I.frame.fn, gl := I.frame.gl, bi := I.frame.bi
     ns := let ⟨m, hn, hm⟩ := I.frame.ns; ⟨m, hn.at' fun o e => t.keep _ o hA.1 e, hm⟩
     cell := fun x v hk hv => let ⟨c, hc, o, ho, hd⟩ := I.frame.cell x v hk hv; ⟨c, hc, o, t.keep _ o (hA.2 x c hc) ho, hd⟩
     nz := I.frame.nz
     cz := fun x c hc => let ⟨⟨v, o, ho, hd⟩, h2⟩ := I.frame.cz x c hc; ⟨⟨v, o, t.keep _ o (hA.2 x c hc) ho, hd⟩, h2⟩
     dist := I.frame.dist }, I.base, I.apart⟩

theorem Inn.weak {ρ' : List (Str × Value)} (I : Inn h₀ W z₀ s₀ env ρ z s) (h : ∀ x v, ρ'.lookup x = some v → ρ.lookup x = some v) : Inn h₀ W z₀ s₀ env ρ' z s :=
  ⟨I.grow, { I.frame with
     ns := let ⟨m, hn, hm⟩ := I.frame.ns; ⟨m, hn, fun x v hk hv => hm x v hk (h x v hv)⟩
     cell := fun x v hk hv => I.frame.cell x v hk (h x v hv) }, I.base, I.apart⟩
theorem weak_cons {x : Str} {v : Value} (hx : ρ.lookup x = none) : ∀ y u, ρ.lookup y = some u → ((x, v) :: ρ).lookup y = some u := fun y u h => by
  rw [lookup_cons_ne]; exact h
  intro e; rw [e, hx] at h; cases h

structure Iter (prog : Program) (w : World) (A : Around) (I : Addr) (G n : Nat) (P : Nat → Fz → Value → Prop) (St : Nat → (Addr → Prop) → Fz → Shared → Prop) : Prop where
  next : ∀ (i : Nat) (T : Addr → Prop) (z : Fz) (s : Shared) (Q : Option Value → Shared → Prop) (E : Value → Shared → Prop), i < n → z.In s.heap → St i T z s →
    (∀ v s' T', P i z v → St (i + 1) T' z s' → Stp T G s s' → (∀ a, T' a → (T a ∨ s.heap.objs.size ≤ a) ∧ a < s'.heap.objs.size) → Q (some v) s') → wpAny (model prog w) A (pyNext (.ref I)) Q E s
  stop : ∀ (T : Addr → Prop) (z : Fz) (s : Shared) (Q : Option Value → Shared → Prop) (E : Value → Shared → Prop), z.In s.heap → St n T z s → (∀ s', Stp T G s s' → Q none s') → wpAny (model prog w) A (pyNext (.ref I)) Q E s
  keep : ∀ (i : Nat) (T : Addr → Prop) (z z' : Fz) (s s' : Shared), St i T z s → z.le z' → (∀ a o, T a → s.heap.get? a = some o → s'.heap.get? a = some o) → (∀ (j : Nat) (x : GenState), s.gens[j]? = some x → s'.gens[j]? = some x) → St i T z' s'
  self : ∀ (i : Nat) (T : Addr → Prop) (z : Fz) (s : Shared) (Q : Value → Shared → Prop) (E : Value → Shared → Prop), z.In s.heap → St i T z s → Q (.ref I) s → wpAny (model prog w) A (pyIter (.ref I)) Q E s

/-- over a frozen list -/
theorem Iter.list {α : Type} {xs : List α} {enc : α → PyData} {I l : Addr} (hh : A.handled = none) (G : Nat) :
    Iter prog w A I G xs.length (fun i z v => ∀ a, xs[i]? = some a → Rd z v (enc a)) (fun i T z s => T = (· = I) ∧ Rd z (.ref l) (.list (xs.map enc)) ∧ s.heap.IsListIter I l i) where
  next := fun i T z s Q E hi hz ⟨hT, hr, hit⟩ h => by
    subst hT
    obtain ⟨l', vs, e, hl, ha⟩ := hr.listIn hz
    cases e
    obtain ⟨v, hv, hrd⟩ := ha.get (i := i) (d := enc xs[i]) (by simp [hi])
    refine wpAny_pyNext_list_item hit hl (by simpa using hv) fun h' hit' hs' => ?_
    exact h v _ (· = I) (fun a e => by rw [List.getElem?_eq_getElem hi] at e; cases e; exact hrd) ⟨rfl, hr, hit'⟩ (To.sameBut (tk := s.toks) hs').stp fun a ha => ⟨.inl ha, by obtain ⟨o, ho, _⟩ := hit'; rw [ha]; exact Heap.lt_size ho⟩
  stop := fun T z s Q E hz ⟨hT, hr, hit⟩ h => by
    subst hT
    obtain ⟨l', vs, e, hl, ha⟩ := hr.listIn hz
    cases e
    refine with_size (wpAny_pyNext_list_end hh hit hl (by simp [ha.1]) fun h' hs' hsz => h _ ⟨fun b o hb e => hs' b o hb e, hsz, rfl, fun _ _ _ e => e, id⟩)
  keep := fun i T z z' s s' ⟨hT, hr, hit⟩ hle hk _ => ⟨hT, hr.mono hle, let ⟨o, ho, r⟩ := hit; ⟨o, hk _ o (by rw [hT]) ho, r⟩⟩
  self := fun i T z s Q E hz ⟨_, hr, hit⟩ h => wpAny_pyIter_listiter hit h

/-- what a comprehension's turn has to give -/
noncomputable def Turn (h₀ : Heap) (W : Addr → Prop) (z₁ : Fz) (cenv : Env) (ρ : List (Str × Value)) (prog : Program) (w : World) (A : Around) (x : Str) (ifs : List Expr) (elt : Expr) (K : Heap → Prop) {α : Type} (enc : α → PyData) (p : α → Bool) (f : α → PyData) (a : α) : Prop :=
  ∀ (v : Value) (z : Fz) (s : Shared) (E : Value → Shared → Prop), Rd z v (enc a) → z₁.le z → Inn h₀ W z s cenv ((x, v) :: ρ) z s → K s.heap → (∀ a, W a → a < s.heap.objs.size ∧ ∀ o, ¬ z a o) →
    wpAny (model prog w) A (forIn ifs true fun c r => if r = true then do let ok ← isTrue c cenv (eval c cenv); pure (ForInStep.yield ok) else pure (ForInStep.yield r))
      (fun ok s' => ok = p a ∧ ∃ z', Grow W z s z' s' ∧ K s'.heap ∧ (p a = true → wpAny (model prog w) A (eval elt cenv) (fun y s'' => ∃ z'', Grow W z' s' z'' s'' ∧ Rd z'' y (f a) ∧ K s''.heap) E s')) E s

theorem take_filter {α β : Type} {xs : List α} (p : α → Bool) (f : α → β) {i : Nat} (hlt : i < xs.length) : ((xs.take (i + 1)).filter p).map f = ((xs.take i).filter p).map f ++ (if p xs[i] then [f xs[i]] else []) := by
  rw [List.take_add_one, List.getElem?_eq_getElem hlt, Option.toList_some, List.filter_append, List.map_append]
  cases hp : p xs[i] <;> simp [List.filter_cons, hp]

/-- what a loop's code is: how its turns are put together -/
noncomputable def LoopIs (prog : Program) (w : World) (A : Around) (c : Code) (I D : Addr) (x : Str) (px : Pos) (ifs : List Expr) (elt : Expr) (env : Env) (R : Result → Shared → Prop) : Prop :=
  ∀ (Iv : Nat → Shared → Prop), (∀ n s, Iv n s → wpAny (model prog w) A (pyNext (.ref I)) (fun r s₁ => match r with
      | none => R (.ok .next) s₁
      | some v => wpAny (model prog w) A (assign (.Name x px) env v) (fun _ s₂ =>
          wpAny (model prog w) A (forIn ifs true fun c r => if r = true then do let ok ← isTrue c env (eval c env); pure (ForInStep.yield ok) else pure (ForInStep.yield r)) (fun ok s₃ =>
            if ok = true then wpAny (model prog w) A (eval elt env) (fun x s₄ =>
              wpAny (model prog w) A (call (.builtin "list.append") [.ref D, x]) (fun _ s₅ => ∃ m, m < n ∧ Iv m s₅) (notedBy (model prog w) A env fun e s' => R (.error e) s') s₄) (notedBy (model prog w) A env fun e s' => R (.error e) s') s₃
            else ∃ m, m < n ∧ Iv m s₃) (notedBy (model prog w) A env fun e s' => R (.error e) s') s₂) (notedBy (model prog w) A env fun e s' => R (.error e) s') s₁) (notedBy (model prog w) A env fun e s' => R (.error e) s') s) →
    ∀ n s, Iv n s → codeAny (model prog w) A c R s
theorem loop_one {elt iter : Expr} {x : Str} {px : Pos} {ifs : List Expr} {scope : Scope} {pos : Pos} {I D : Addr} {R : Result → Shared → Prop} :
    LoopIs prog w A (.compLoop (.ListComp elt [⟨.Name x px, iter, ifs, 0⟩] scope pos) 0 (.ref I) (.ref D) env) I D x px ifs elt env R :=
  fun Iv turn n _ h => codeAny_compLoop_tests Iv turn n h

/-- places that a loop leaves as they are -/
noncomputable def XOk (X : Addr → Prop) (hq : Heap) (z : Fz) (s : Shared) : Prop := ∀ a, X a → (∀ o, ¬ z a o) ∧ a < s.heap.objs.size ∧ ∀ o, hq.get? a = some o → s.heap.get? a = some o
theorem XOk.up {X : Addr → Prop} {hq : Heap} (x : XOk X hq z s) (g : Grow W z s z' s') (hX : ∀ a, X a → ¬ W a) : XOk X hq z' s' := fun a ha => by
  obtain ⟨h1, h2, h3⟩ := x a ha
  exact ⟨fun p e => (g.new a p e).elim (h1 p) fun hl => Nat.lt_irrefl _ (Nat.lt_of_lt_of_le h2 hl), Nat.lt_of_lt_of_le h2 g.size, fun o e => g.keep a o (hX a ha) (h3 o e)⟩
theorem XOk.keep {X : Addr → Prop} {hq : Heap} (x : XOk X hq z s) (hs : s.heap.objs.size ≤ s'.heap.objs.size) (k : ∀ a o, X a → s.heap.get? a = some o → s'.heap.get? a = some o) : XOk X hq z s' := fun a ha => by
  obtain ⟨h1, h2, h3⟩ := x a ha
  exact ⟨h1, Nat.lt_of_lt_of_le h2 hs, fun o e => k a o ha (h3 o e)⟩

/-- where a comprehension's loop stands -/
inductive CI (h₀ : Heap) (W : Addr → Prop) (z₁ : Fz) (s₁ : Shared) (env : Env) (ρ : List (Str × Value)) (St : Nat → (Addr → Prop) → Fz → Shared → Prop) (N : Nat) (D Tx : Addr) (n : Nat) (s : Shared) (i : Nat) (T : Addr → Prop) (z : Fz) (ys : List Value) (L : List PyData) : Prop
  | mk : n = N - i → i ≤ N → Inn h₀ W z₁ s₁ env ρ z s → z₁.le z → St i T z s → (∀ a, T a → s₁.heap.objs.size ≤ a ∧ a < s.heap.objs.size ∧ ∀ o, ¬ z a o) → ¬ T D → ¬ T Tx → Apart T env → Tx < s.heap.objs.size → (∀ o, ¬ z D o) → s.heap.PlainList D ys.toArray →
      RdAll z ys L → CI h₀ W z₁ s₁ env ρ St N D Tx n s i T z ys L
theorem comp_loop {α : Type} {xs : List α} {enc : α → PyData} {p : α → Bool} {f : α → PyData} {elt : Expr} {x : Str} {px : Pos} {ifs : List Expr} {K : Heap → Prop} {I D Tx : Addr} {G : Nat} {c : Code} {pre : List PyData} {X : Addr → Prop} {hq : Heap}
    {St : Nat → (Addr → Prop) → Fz → Shared → Prop} {R : Result → Shared → Prop} (hcode : LoopIs prog w A c I D x px ifs elt env R) (It : Iter prog w A I G xs.length (fun i z v => ∀ a, xs[i]? = some a → Rd z v (enc a)) St) (hlen : pre.length + xs.length ≤ sizeLine)
    (hG : s₁.gens.size ≤ G) (hD : s₁.heap.objs.size ≤ D) (hDC : Apart (· = D) env)
    (store : ∀ (v : Value) (z : Fz) (s : Shared) (Q : Unit → Shared → Prop) (E : Value → Shared → Prop), Inn h₀ W z₁ s₁ env ρ z s → (∀ s', Inn h₀ W z₁ s₁ env ((x, v) :: ρ) z s' → To (· = Tx) s s' → Q () s') → wpAny (model prog w) A (storeName env x v) Q E s)
    (hTx : Tx ≠ D ∧ s₁.heap.objs.size ≤ Tx) (hx : ρ.lookup x = none) (hW : ∀ a, W a → a < s₁.heap.objs.size ∧ ∀ o, ¬ z₁ a o)
    (hK : ∀ h h' : Heap, (∀ a o, W a → h.get? a = some o → h'.get? a = some o) → K h → K h') (hX : ∀ a, X a → a ≠ D ∧ a ≠ Tx ∧ ¬ W a)
    (turn : ∀ a ∈ xs, Turn h₀ W z₁ env ρ prog w A x ifs elt K enc p f a)
    (fin : ∀ (z : Fz) (s : Shared) (ys : List Value), Inn h₀ W z₁ s₁ env ρ z s → z₁.le z → s.heap.PlainList D ys.toArray → RdAll z ys (pre ++ (xs.filter p).map f) → K s.heap → (∀ o, ¬ z D o) → XOk X hq z s → R (.ok .next) s) :
    ∀ (i : Nat) (T : Addr → Prop) (z : Fz) (s : Shared) (ys : List Value), i ≤ xs.length → Inn h₀ W z₁ s₁ env ρ z s → z₁.le z → St i T z s → (∀ a, T a → s₁.heap.objs.size ≤ a ∧ a < s.heap.objs.size ∧ ∀ o, ¬ z a o) → ¬ T D → ¬ T Tx → Apart T env → Tx < s.heap.objs.size → (∀ o, ¬ z D o) → s.heap.PlainList D ys.toArray →
      RdAll z ys (pre ++ ((xs.take i).filter p).map f) → K s.heap → XOk X hq z s → (∀ a, X a → ¬ T a) →
      codeAny (model prog w) A c R s := by
  intro i T z s ys hi J hle hst hT hTD hTTx hTC hTxl hDz hpl hall hKs hXs hXT
  refine hcode (fun n s => ∃ i T z ys, CI h₀ W z₁ s₁ env ρ St xs.length D Tx n s i T z ys (pre ++ ((xs.take i).filter p).map f) ∧ K s.heap ∧ XOk X hq z s ∧ (∀ a, X a → ¬ T a)) ?_ (xs.length - i) s ⟨i, T, z, ys, ⟨rfl, hi, J, hle, hst, hT, hTD, hTTx, hTC, hTxl, hDz, hpl, hall⟩, hKs, hXs, hXT⟩
  clear i T z s ys hi J hle hst hT hTD hTTx hTC hTxl hDz hpl hall hKs hXs hXT
  rintro n s ⟨i, T, z, ys, ⟨rfl, hi, J, hle, hst, hT, hTD, hTTx, hTC, hTxl, hDz, hpl, hall⟩, hKs, hXs, hXT⟩
  have hKT : ∀ {s' : Shared}, Stp T G s s' → K s.heap → K s'.heap := fun t hk => hK _ _ (fun a o hw e => t.keep a o (fun hta => Nat.lt_irrefl _ (Nat.lt_of_lt_of_le (hW a hw).1 (hT a hta).1)) e) hk
  by_cases hlt : i < xs.length
  · refine It.next i T z s _ _ hlt J.inn hst fun v s' T' hP hst' t hT' => ?_
    have J' := J.step (fun a ha => (hT a ha).1) hG (fun a o ha => (hT a ha).2.2 o) hTC t
    have hpl' : s'.heap.PlainList D ys.toArray := hpl.at fun o e => t.keep D o hTD e
    -- the places of the next step
    have hT1 : ∀ a, T' a → s₁.heap.objs.size ≤ a ∧ a < s'.heap.objs.size ∧ ∀ o, ¬ z a o := fun a ha => by
      obtain ⟨h1 | h1, h2⟩ := hT' a ha
      · exact ⟨(hT a h1).1, h2, (hT a h1).2.2⟩
      · exact ⟨Nat.le_trans J.grow.size h1, h2, fun o e => Nat.lt_irrefl _ (Nat.lt_of_lt_of_le (Heap.lt_size (J.inn _ _ e)) h1)⟩
    have hTD' : ¬ T' D := fun h => (hT' D h).1.elim hTD fun hl => Nat.lt_irrefl _ (Nat.lt_of_lt_of_le (Heap.lt_size hpl.choose_spec) hl)
    have hTTx' : ¬ T' Tx := fun h => (hT' Tx h).1.elim hTTx fun hl => Nat.lt_irrefl _ (Nat.lt_of_lt_of_le hTxl hl)
    have hTC' : Apart T' env := ⟨fun h => (hT' _ h).1.elim hTC.1 fun hl => by obtain ⟨m, hn, _⟩ := J.frame.ns; exact Nat.lt_irrefl _ (Nat.lt_of_lt_of_le hn.lt hl),
      fun y c hc h => (hT' _ h).1.elim (hTC.2 y c hc) fun hl => by obtain ⟨⟨_, hv⟩, _⟩ := J.frame.cz y c hc; exact Nat.lt_irrefl _ (Nat.lt_of_lt_of_le hv.lt hl)⟩
    refine wpAny_assign_Name (store v z s' _ _ J' fun s2 J2 t2 => ?_)
    have hrd : Rd z v (enc xs[i]) := hP xs[i] (List.getElem?_eq_getElem hlt)
    have hpl2 : s2.heap.PlainList D ys.toArray := hpl'.at fun o e => t2.keep D o (fun h => hTx.1 h.symm) e
    have hK2 : K s2.heap := hK _ _ (fun a o hw e => t2.keep a o (fun h => Nat.lt_irrefl _ (Nat.lt_of_lt_of_le (hW a hw).1 (h ▸ hTx.2))) e) (hKT t hKs)
    have hst2 : St (i + 1) T' z s2 := It.keep _ _ _ _ _ _ hst' (Fz.le.refl z) (fun a o ha e => t2.keep a o (fun h => hTTx' (h ▸ ha)) e) t2.gens
    refine wpAny_mono (turn xs[i] (List.getElem_mem hlt) v z s2 _ hrd hle J2.here hK2 fun a ha => ⟨Nat.lt_of_lt_of_le (hW a ha).1 J2.grow.size, fun o e => (J2.grow.new a o e).elim ((hW a ha).2 o) fun hl => Nat.lt_irrefl _ (Nat.lt_of_lt_of_le (hW a ha).1 hl)⟩) (fun ok s3 h3 => ?_) fun _ _ e => e
    obtain ⟨rfl, z3, g3, hK3, helt⟩ := h3
    have J3 := J2.up g3
    have hWD : ¬ W D := fun h => Nat.lt_irrefl _ (Nat.lt_of_lt_of_le (hW D h).1 hD)
    have hWT : ∀ a, T' a → ¬ W a := fun a ha h => Nat.lt_irrefl _ (Nat.lt_of_lt_of_le (hW a h).1 (hT1 a ha).1)
    have hpl3 : s3.heap.PlainList D ys.toArray := hpl2.at fun o e => g3.keep D o hWD e
    have hst3 : St (i + 1) T' z3 s3 := It.keep _ _ _ _ _ _ hst2 g3.le (fun a o ha e => g3.keep a o (hWT a ha) e) g3.gens
    have hT3 : ∀ a, T' a → s₁.heap.objs.size ≤ a ∧ a < s3.heap.objs.size ∧ ∀ o, ¬ z3 a o := fun a ha =>
      have hl2 := Nat.lt_of_lt_of_le (hT1 a ha).2.1 t2.size
      ⟨(hT1 a ha).1, Nat.lt_of_lt_of_le hl2 g3.size, fun o e => (g3.new a o e).elim ((hT1 a ha).2.2 o) fun hl => absurd hl2 (Nat.not_lt.mpr hl)⟩
    have hDz3 : ∀ o, ¬ z3 D o := fun o e => (g3.new D o e).elim (hDz o) fun hl => absurd (Heap.lt_size hpl2.choose_spec) (Nat.not_lt.mpr hl)
    have hTxl3 : Tx < s3.heap.objs.size := Nat.lt_of_lt_of_le hTxl (Nat.le_trans t.size (Nat.le_trans t2.size g3.size))
    have htake := take_filter p f hlt
    have hX1 : XOk X hq z s' := hXs.keep t.size fun a o ha e => t.keep a o (hXT a ha) e
    have hX2 : XOk X hq z s2 := hX1.keep t2.size fun a o ha e => t2.keep a o (hX a ha).2.1 e
    have hX3 : XOk X hq z3 s3 := hX2.up g3 fun a ha => (hX a ha).2.2
    have hXT' : ∀ a, X a → ¬ T' a := fun a ha h => (hT' a h).1.elim (hXT a ha) fun hl => Nat.lt_irrefl _ (Nat.lt_of_lt_of_le (hXs a ha).2.1 hl)
    cases hp : p xs[i] with
    | false =>
      rw [if_neg Bool.false_ne_true]
      refine ⟨xs.length - (i + 1), by (first | with_reducible assumption | with_reducible exact Nat.add_le_add_left (by decide) _ | with_reducible exact Nat.le_trans (by assumption) (by decide) | with_reducible exact Nat.sub_succ_lt_self (by assumption) | with_reducible exact Nat.lt_of_lt_of_le (by assumption) (by assumption) | with_reducible exact Nat.le_trans (by assumption) (by assumption) | decide | omega), i + 1, T', z3, ys, ⟨rfl, hlt, J3.weak (weak_cons hx), hle.trans g3.le, hst3, hT3, hTD', hTTx', hTC', hTxl3, hDz3, hpl3, ?_⟩, hK3, hX3, hXT'⟩
      rw [htake, hp]; simpa using hall.mono g3.le
    | true =>
      rw [if_pos rfl]
      refine wpAny_mono (helt hp) (fun y s4 h4 => ?_) fun _ _ e => e
      obtain ⟨z4, g4, hry, hK4⟩ := h4
      have J4 := J3.up g4
      have hpl4 : s4.heap.PlainList D ys.toArray := hpl3.at fun o e => g4.keep D o hWD e
      have hDz4 : ∀ o, ¬ z4 D o := fun o e => (g4.new D o e).elim (hDz3 o) fun hl => absurd (Heap.lt_size hpl3.choose_spec) (Nat.not_lt.mpr hl)
      have hT4 : ∀ a, T' a → s₁.heap.objs.size ≤ a ∧ a < s4.heap.objs.size ∧ ∀ o, ¬ z4 a o := fun a ha =>
        ⟨(hT3 a ha).1, Nat.lt_of_lt_of_le (hT3 a ha).2.1 g4.size, fun o e => (g4.new a o e).elim ((hT3 a ha).2.2 o) fun hl => absurd (hT3 a ha).2.1 (Nat.not_lt.mpr hl)⟩
      have hst4 : St (i + 1) T' z4 s4 := It.keep _ _ _ _ _ _ hst3 g4.le (fun a o ha e => g4.keep a o (hWT a ha) e) g4.gens
      have hys : ys.length ≤ pre.length + xs.length := by
        rw [hall.1, List.length_append, List.length_map]
        exact Nat.add_le_add_left (Nat.le_trans (List.length_filter_le _ _) (by rw [List.length_take]; (first | with_reducible assumption | with_reducible exact Nat.add_le_add_left (by decide) _ | with_reducible exact Nat.le_trans (by assumption) (by decide) | with_reducible exact Nat.sub_succ_lt_self (by assumption) | with_reducible exact Nat.lt_of_lt_of_le (by assumption) (by assumption) | with_reducible exact Nat.le_trans (by assumption) (by assumption) | decide | omega))) _
      refine wpAny_list_append_plain hpl4 (fun h' hpl5 hs5 => ?_) (by simp; (first | with_reducible assumption | with_reducible exact Nat.add_le_add_left (by decide) _ | with_reducible exact Nat.le_trans (by assumption) (by decide) | with_reducible exact Nat.sub_succ_lt_self (by assumption) | with_reducible exact Nat.lt_of_lt_of_le (by assumption) (by assumption) | with_reducible exact Nat.le_trans (by assumption) (by assumption) | decide | omega))
      have t5 : To (· = D) s4 { s4 with heap := h' } := To.sameBut (tk := s4.toks) hs5
      have J5 : Inn h₀ W z₁ s₁ env ((x, v) :: ρ) z4 { s4 with heap := h' } := J4.step (T := (· = D)) (G := G) (fun a ha => ha ▸ hD) hG (fun a o ha => ha ▸ hDz4 o) hDC t5.stp
      refine ⟨xs.length - (i + 1), by (first | with_reducible assumption | with_reducible exact Nat.add_le_add_left (by decide) _ | with_reducible exact Nat.le_trans (by assumption) (by decide) | with_reducible exact Nat.sub_succ_lt_self (by assumption) | with_reducible exact Nat.lt_of_lt_of_le (by assumption) (by assumption) | with_reducible exact Nat.le_trans (by assumption) (by assumption) | decide | omega), i + 1, T', z4, ys ++ [y], ⟨rfl, hlt, J5.weak (weak_cons hx), hle.trans (g3.le.trans g4.le), It.keep _ _ _ _ _ _ hst4 (Fz.le.refl _) (fun a o ha e => t5.keep a o (fun h => hTD' (h ▸ ha)) e) t5.gens,
        fun a ha => ⟨(hT4 a ha).1, Nat.lt_of_lt_of_le (hT4 a ha).2.1 t5.size, (hT4 a ha).2.2⟩, hTD', hTTx', hTC', Nat.lt_of_lt_of_le hTxl3 (Nat.le_trans g4.size t5.size), hDz4, by simpa using hpl5, ?_⟩, ?_, ?_, hXT'⟩
      · rw [htake, hp, ← List.append_assoc]; simpa using (hall.mono (g3.le.trans g4.le)).snoc hry
      · exact hK _ _ (fun a o hw e => t5.keep a o (fun h => hWD (h ▸ hw)) e) hK4
      · exact (hX3.up g4 fun a ha => (hX a ha).2.2).keep t5.size fun a o ha e => t5.keep a o (hX a ha).1 e
  · have hin : i = xs.length := by (first | with_reducible assumption | with_reducible exact Nat.add_le_add_left (by decide) _ | with_reducible exact Nat.le_trans (by assumption) (by decide) | with_reducible exact Nat.sub_succ_lt_self (by assumption) | with_reducible exact Nat.lt_of_lt_of_le (by assumption) (by assumption) | with_reducible exact Nat.le_trans (by assumption) (by assumption) | decide | omega)
    subst hin
    refine It.stop T z s _ _ J.inn hst fun s' t => ?_
    refine fin z s' ys (J.step (fun a ha => (hT a ha).1) hG (fun a o ha => (hT a ha).2.2 o) hTC t) hle (hpl.at fun o e => t.keep D o hTD e) (by simpa using hall) (hKT t hKs) hDz (hXs.keep t.size fun a o ha e => t.keep a o (hXT a ha) e)

end NB90
end
section
set_option autoImplicit false
open PySem PySem.W PyProof.Rows
set_option Elab.async false
namespace NB90
variable {h₀ : Heap} {mg mb : Str → Option Value} {W : Addr → Prop} {z₀ z z' z₁ : Fz} {s₀ s s' s₁ : Shared} {env : Env} {ρ : List (Str × Value)} {prog : Program} {w : World} {A : Around} {E : Value → Shared → Prop}

theorem closure_go (env : Env) : ∀ (names : List (Str × NameKind)) (acc : List (Str × Addr)), (∀ q ∈ names, q.2 = .free → ∃ c, env.cells.lookup q.1 = some c) → (∀ n c, acc.lookup n = some c → env.cells.lookup n = some c) →
    ∃ cl, (forIn names acc (fun x r => match x with | (name, kind) => if kind == .free then (do let a ← cellOf env name; pure (ForInStep.yield ((name, a) :: r))) else pure (ForInStep.yield r)) : Sem (List (Str × Addr))) = pure cl ∧
      (∀ n c, cl.lookup n = some c → env.cells.lookup n = some c) ∧ (∀ n c, acc.lookup n = some c → cl.lookup n = some c) ∧ (∀ n, (n, .free) ∈ names → cl.lookup n = env.cells.lookup n)
  | [], acc, _, h => ⟨acc, rfl, h, fun _ _ e => e, fun _ e => nomatch e⟩
  | (n, k) :: r, acc, hf, h => by
    have hr : ∀ q ∈ r, q.2 = .free → ∃ c, env.cells.lookup q.1 = some c := fun q hq => hf q (List.mem_cons_of_mem _ hq)
    by_cases hk : k = .free
    · subst hk
      obtain ⟨c, hc⟩ := hf (n, .free) List.mem_cons_self rfl
      have h' : ∀ m d, ((n, c) :: acc).lookup m = some d → env.cells.lookup m = some d := fun m d e => by
        rw [List.lookup_cons] at e
        cases hb : m == n with
        | true => rw [hb] at e; cases e; rw [beq_iff_eq.mp hb]; exact hc
        | false => rw [hb] at e; exact h m d e
      obtain ⟨cl, e, h1, h2, h3⟩ := closure_go env r ((n, c) :: acc) hr h'
      refine ⟨cl, ?_, h1, fun m d hd => ?_, fun m hm => ?_⟩
      · rw [List.forIn_cons]
        simp only [beq_self_eq_true, if_true, cellOf, hc]
        exact e
      · refine h2 m d ?_
        rw [List.lookup_cons]
        cases hb : m == n with
        | true => rw [beq_iff_eq.mp hb] at hd; have := h n d hd; rw [hc] at this; cases this; rfl
        | false => exact hd
      · rcases List.mem_cons.mp hm with e' | hm
        · cases e'
          have := h2 n c (by rw [List.lookup_cons]; simp)
          rw [this, hc]
        · exact h3 m hm
    · have hkb : (k == NameKind.free) = false := by simpa using hk
      obtain ⟨cl, e, h1, h2, h3⟩ := closure_go env r acc hr h
      refine ⟨cl, ?_, h1, h2, fun m hm => ?_⟩
      · rw [List.forIn_cons]
        simp only [hkb, Bool.false_eq_true, if_false]
        exact e
      · rcases List.mem_cons.mp hm with e' | hm
        · cases e'; exact absurd rfl hk
        · exact h3 m hm

theorem closure_of {scope : Scope} (hf : ∀ q ∈ scope.names, q.2 = .free → ∃ c, env.cells.lookup q.1 = some c) :
    ∃ cl, closureFor scope env = pure cl ∧ (∀ n c, cl.lookup n = some c → env.cells.lookup n = some c) ∧ (∀ n, (n, .free) ∈ scope.names → cl.lookup n = env.cells.lookup n) := by
  obtain ⟨cl, e, h1, _, h3⟩ := closure_go env scope.names [] hf (fun _ _ e => nomatch e)
  refine ⟨cl, ?_, h1, h3⟩
  exact congrArg (fun t : Sem (List (Str × Addr)) => t >>= fun x => pure x) e

theorem newEnv_comp {scope : Scope} {cl : List (Str × Addr)} {Q : Env → Shared → Prop}
    (h : Q { scope, locals := s.heap.objs.size, globals := env.globals, cells := cellsFrom (s.heap.objs.size + 1) scope.names cl, qual := env.qual, func := none, code := env.code, frame := env.frame, builtins := env.builtins }
      { s with heap := pushCells (s.heap.push { cls := .type "dict", data := .dict #[] }) scope.names }) :
    wpAny (model prog w) A (newFunctionEnv scope env.globals cl [] env.qual none .none (some env)) Q E s := by
  simp only [newFunctionEnv, Option.isSome_some, if_true]
  refine wpAny_bind (wpAny_alloc ?_)
  refine wpAny_bind (wpAny_layCells _ (fun name kind cells => by cases hkc : kind == NameKind.cell <;> simp) _ _ _ _ ?_)
  have e : ({ s with heap := s.heap.push { cls := .type "dict", data := .dict #[] } } : Shared).heap.objs.size = s.heap.objs.size + 1 := Heap.size_push ..
  rw [e]
  exact wpAny_bind (wpAny_pure (wpAny_pure h))

/-- the scope that a comprehension's frame has -/
noncomputable def reS (scope S : Scope) : Scope := { scope with names := scope.names.map fun (n, k) => if (k == .free && S.kind == .function && S.names.lookup n == some .cell) then (n, .cell) else (n, k) }
theorem relabel_eq {scope S : Scope} (h : env.scope = S) : relabel scope env = reS scope S := by subst h; rfl

theorem kind_of {S : Scope} {x : Str} {k : NameKind} (h : env.scope = S) (hk : S.names.lookup x = some k) : env.kindOf x = some k := by rw [← hk, ← h]; rfl

theorem lookup_relabel_cell {S : Scope} : ∀ {names : List (Str × NameKind)} {x : Str}, names.lookup x = some .cell →
    (names.map fun (n, k) => if (k == NameKind.free && S.kind == .function && S.names.lookup n == some .cell) then (n, NameKind.cell) else (n, k)).lookup x = some .cell
  | [], _, h => by simp at h
  | (n, k) :: r, x, h => by
    have ih := @lookup_relabel_cell S r x
    show List.lookup x ((if (k == NameKind.free && S.kind == .function && S.names.lookup n == some .cell) = true then (n, NameKind.cell) else (n, k)) :: _) = _
    cases hx : x == n with
    | true =>
      simp only [List.lookup_cons, hx] at h
      cases h
      simp [List.lookup_cons, hx]
    | false =>
      simp only [List.lookup_cons, hx] at h
      by_cases hc : (k == NameKind.free && S.kind == .function && S.names.lookup n == some .cell) = true
      · rw [if_pos hc]; simp only [List.lookup_cons, hx]; exact ih h
      · rw [if_neg hc]; simp only [List.lookup_cons, hx]; exact ih h

/-- the names that a comprehension sees of the frame around it -/
noncomputable def frees (scope : Scope) (ρ : List (Str × Value)) : List (Str × Value) := ρ.filter fun q => scope.names.lookup q.1 == some .free
theorem frees_lookup {scope : Scope} : ∀ {ρ : List (Str × Value)} {x : Str} {v : Value}, (frees scope ρ).lookup x = some v → ρ.lookup x = some v ∧ scope.names.lookup x = some .free
  | [], _, _, h => by simp [frees] at h
  | (n, u) :: r, x, v, h => by
    unfold frees at h
    rw [List.filter_cons] at h
    split at h
    · rename_i hf
      rw [List.lookup_cons] at h ⊢
      cases hb : x == n with
      | true => rw [hb] at h; cases h; rw [beq_iff_eq.mp hb]; exact ⟨rfl, beq_iff_eq.mp hf⟩
      | false => rw [hb] at h; exact frees_lookup (ρ := r) h
    · rename_i hf
      have := frees_lookup (ρ := r) h
      refine ⟨?_, this.2⟩
      rw [lookup_cons_ne]; exact this.1
      intro e; subst e; exact hf (beq_iff_eq.mpr this.2)

theorem gap {a b c : Nat} (h : a < b) (hb : b ≤ c) (ha : c ≤ a) : False := by (first | with_reducible assumption | with_reducible exact Nat.add_le_add_left (by decide) _ | with_reducible exact Nat.le_trans (by assumption) (by decide) | with_reducible exact Nat.sub_succ_lt_self (by assumption) | with_reducible exact Nat.lt_of_lt_of_le (by assumption) (by assumption) | with_reducible exact Nat.le_trans (by assumption) (by assumption) | decide | omega)
theorem lookup_cons_neA {x y : Str} {v : Addr} {ρ : List (Str × Addr)} (h : y ≠ x) : ((x, v) :: ρ).lookup y = ρ.lookup y := by
  rw [List.lookup_cons, beq_eq_false_iff_ne.mpr h]
/-- the frame of a comprehension, right behind its making -/
theorem comp_frame {S scope : Scope} {cl : List (Str × Addr)} {x : Str} (I : Inn h₀ W z₀ s₀ env ρ z s) (hS : env.scope = S) (hk : scope.kind = .function) (hW : ∀ a, W a → a < s.heap.objs.size)
    (hcl1 : ∀ n c, cl.lookup n = some c → env.cells.lookup n = some c) (hcl2 : ∀ n, (n, .free) ∈ scope.names → cl.lookup n = env.cells.lookup n)
    (hfree : ∀ q ∈ scope.names, q.2 = .free → (S.names.lookup q.1 = some .cell ∨ S.names.lookup q.1 = some .free) ∧ ∃ u, ρ.lookup q.1 = some u)
    (hs1 : To No s s₁) (own : Bool) (hcf : ∀ n acc, cellsFrom n scope.names acc = if own then (x, n) :: acc else acc) (hpc : ∀ h : Heap, pushCells h scope.names = if own then h.push { cls := .type "cell", data := .cell none } else h)
    (hxo : own = true → scope.names.lookup x = some .cell) {cenv : Env}
    (hce : cenv = { scope := relabel scope env, locals := s₁.heap.objs.size, globals := env.globals, cells := cellsFrom (s₁.heap.objs.size + 1) scope.names cl, qual := env.qual, func := none, code := env.code, frame := env.frame, builtins := env.builtins }) :
    Inn h₀ W z s cenv (frees scope ρ) z { s₁ with heap := pushCells (s₁.heap.push { cls := .type "dict", data := .dict #[] }) scope.names } ∧ cenv.scope = reS scope S ∧ s.heap.objs.size ≤ cenv.locals ∧
      (own = true → cenv.cells.lookup x = some (s₁.heap.objs.size + 1)) := by
  have hsz : (s₁.heap.push { cls := .type "dict", data := .dict #[] }).objs.size = s₁.heap.objs.size + 1 := Heap.size_push ..
  have hkeep : ∀ b o, s₁.heap.get? b = some o → (pushCells (s₁.heap.push { cls := .type "dict", data := .dict #[] }) scope.names).get? b = some o := fun b o e => pushCells_keeps _ _ b o (Heap.get?_push_of_some _ e)
  have hsize : s₁.heap.objs.size ≤ (pushCells (s₁.heap.push { cls := .type "dict", data := .dict #[] }) scope.names).objs.size := by
    rw [hpc]; cases own <;> simp [Heap.size_push] <;> (first | with_reducible assumption | with_reducible exact Nat.add_le_add_left (by decide) _ | with_reducible exact Nat.le_trans (by assumption) (by decide) | with_reducible exact Nat.sub_succ_lt_self (by assumption) | with_reducible exact Nat.lt_of_lt_of_le (by assumption) (by assumption) | with_reducible exact Nat.le_trans (by assumption) (by assumption) | decide | omega)
  have t : To No s { s₁ with heap := pushCells (s₁.heap.push { cls := .type "dict", data := .dict #[] }) scope.names } := hs1.trans (To.heap (tk := s₁.toks) hkeep hsize No)
  have hcl : ∀ n c, cl.lookup n = some c → c < s.heap.objs.size := fun n c e => let ⟨⟨_, hc⟩, _⟩ := I.frame.cz n c (hcl1 n c e); hc.lt
  have hsc : cenv.scope = reS scope S := by rw [hce]; exact relabel_eq hS
  have hcells : cenv.cells = if own then (x, s₁.heap.objs.size + 1) :: cl else cl := by rw [hce]; exact hcf _ _
  have hlook : ∀ n c, cenv.cells.lookup n = some c → (own = true ∧ n = x ∧ c = s₁.heap.objs.size + 1) ∨ (cl.lookup n = some c ∧ (own = true → n ≠ x)) := fun n c e => by
    rw [hcells] at e
    cases own with
    | false => exact .inr ⟨by simpa using e, fun h => by cases h⟩
    | true =>
      rw [if_pos rfl, List.lookup_cons] at e
      cases hb : n == x with
      | true => rw [hb] at e; cases e; exact .inl ⟨rfl, beq_iff_eq.mp hb, rfl⟩
      | false => rw [hb] at e; exact .inr ⟨e, fun _ => beq_eq_false_iff_ne.mp hb⟩
  have hown : own = true → Heap.IsCell (pushCells (s₁.heap.push { cls := .type "dict", data := .dict #[] }) scope.names) (s₁.heap.objs.size + 1) none := fun ho => by
    rw [hpc, ho, if_pos rfl]
    refine ⟨{ cls := .type "cell", data := .cell none }, ?_, rfl⟩
    rw [← hsz]; exact Heap.get?_push_size _ rfl
  refine ⟨⟨Grow.same I.inn t, ?_, I.base, ⟨fun h => ?_, fun n c hc h => ?_⟩⟩, hsc, by rw [hce]; exact hs1.size, fun ho => by rw [hcells, ho, if_pos rfl, List.lookup_cons]; simp⟩
  · exact {
      fn := by rw [hsc]; exact hk
      gl := by rw [hce]; exact I.frame.gl
      bi := by rw [hce]; exact I.frame.bi
      ns := ⟨fun _ => none, by rw [hce]; exact (Heap.Ns.new s₁.heap (.type "dict")).keeps (pushCells_keeps _ _), fun y u hky hv => by
        exfalso
        have hf := (frees_lookup hv).2
        have : cenv.kindOf y ≠ some .local := fun hl => by
          rw [Env.kindOf, hsc] at hl
          have key : ∀ (names : List (Str × NameKind)), names.lookup y = some .free → (names.map fun (n, k) => if (k == NameKind.free && S.kind == .function && S.names.lookup n == some .cell) then (n, NameKind.cell) else (n, k)).lookup y ≠ some .local := by
            intro names
            induction names with
            | nil => intro h; simp at h
            | cons q r ih =>
              obtain ⟨n, k⟩ := q
              intro h
              show List.lookup y ((if (k == NameKind.free && S.kind == .function && S.names.lookup n == some .cell) = true then (n, NameKind.cell) else (n, k)) :: _) ≠ _
              rw [List.lookup_cons] at h
              cases hb : y == n with
              | true =>
                rw [hb] at h; cases h
                split <;> simp [List.lookup_cons, hb]
              | false =>
                rw [hb] at h
                split <;> simpa [List.lookup_cons, hb] using ih h
          exact key _ hf hl
        exact this hky⟩
      cell := fun y u hky hv => by
        obtain ⟨hv', hf⟩ := frees_lookup hv
        have hm : (y, NameKind.free) ∈ scope.names := mem_of_lookup hf
        obtain ⟨hkk, _⟩ := hfree _ hm rfl
        have hkk' : env.kindOf y = some .cell ∨ env.kindOf y = some .free := by rw [Env.kindOf, hS]; exact hkk
        obtain ⟨c, hc, hcell⟩ := I.frame.cell y u hkk' hv'
        have hyx : own = true → y ≠ x := fun ho e => by rw [e, hxo ho] at hf; cases hf
        refine ⟨c, ?_, hcell.keeps fun b o e => t.keep b o (fun x => x) e⟩
        rw [hcells]
        have : cl.lookup y = some c := by rw [hcl2 y hm]; exact hc
        cases own with
        | false => simpa using this
        | true => rw [if_pos rfl, lookup_cons_neA (hyx rfl)]; exact this
      nz := fun o e => by
        rw [hce] at e
        exact absurd (Heap.lt_size (I.inn _ _ e)) (Nat.not_lt.mpr hs1.size)
      cz := fun n c hc => by
        rcases hlook n c hc with ⟨ho, rfl, rfl⟩ | ⟨hc', _⟩
        · exact ⟨⟨_, hown ho⟩, fun o e => gap (Heap.lt_size (I.inn _ _ e)) hs1.size (Nat.le_succ _)⟩
        · obtain ⟨⟨v, hv⟩, h2⟩ := I.frame.cz n c (hcl1 n c hc')
          exact ⟨⟨v, hv.keeps fun b o e => t.keep b o (fun x => x) e⟩, h2⟩
      dist := fun n n' c hc hc' => by
        rcases hlook n c hc with ⟨_, e1, e2⟩ | ⟨h1, _⟩ <;> rcases hlook n' c hc' with ⟨_, e3, e4⟩ | ⟨h2, _⟩
        · rw [e1, e3]
        · exact (gap (hcl _ _ h2) hs1.size (by rw [e2]; exact Nat.le_succ _)).elim
        · exact (gap (hcl _ _ h1) hs1.size (by rw [e4]; exact Nat.le_succ _)).elim
        · exact I.frame.dist _ _ _ (hcl1 _ _ h1) (hcl1 _ _ h2) }
  · rw [hce] at h; exact gap (hW _ h) hs1.size (Nat.le_refl _)
  · rcases hlook n c hc with ⟨ho, rfl, rfl⟩ | ⟨h1, _⟩
    · exact gap (hW _ h) hs1.size (Nat.le_succ _)
    · exact I.apart.2 n c (hcl1 n c h1) h

end NB90
end
section
set_option autoImplicit false
open PySem PySem.W PyProof.Rows
set_option Elab.async false
namespace NB90
variable {h₀ : Heap} {mg mb : Str → Option Value} {W : Addr → Prop} {z₀ z z' z₁ : Fz} {s₀ s s' s₁ : Shared} {env : Env} {ρ : List (Str × Value)} {prog : Program} {w : World} {A : Around} {E : Value → Shared → Prop}

/-- the shape of a comprehension's scope: whether its one variable is a cell -/
structure CompScope (scope : Scope) (x : Str) (own : Bool) : Prop where
  kind : scope.kind = .function
  cf : ∀ n acc, cellsFrom n scope.names acc = if own then (x, n) :: acc else acc
  pc : ∀ h : Heap, pushCells h scope.names = if own then h.push { cls := .type "cell", data := .cell none } else h
  isCell : own = true → scope.names.lookup x = some .cell
  isLoc : own = false → scope.names.lookup x = some .local
  names : ∀ y ∈ scope.names, y.2 = .local → scope.names.lookup y.1 = some .local

theorem frees_none {scope : Scope} {x : Str} (h : scope.names.lookup x ≠ some .free) : (frees scope ρ).lookup x = none := by
  cases e : (frees scope ρ).lookup x with
  | none => rfl
  | some v => exact absurd (frees_lookup e).2 h

theorem comp_setup {α : Type} {xs : List α} {enc : α → PyData} {elt iter : Expr} {x : Str} {px : Pos} {ifs : List Expr} {rest : List Comprehension} {S scope : Scope} {own : Bool} {cl : List (Str × Addr)} {pos : Pos} {K : Heap → Prop} {I : Addr} {T : Addr → Prop} {G : Nat}
    {St : Nat → (Addr → Prop) → Fz → Shared → Prop} {R : Value → Addr → Result → Shared → Prop} {sI : Shared}
    (J : Inn h₀ W z₀ s₀ env ρ z s) (hS : env.scope = S) (cs : CompScope scope x own) (hW : ∀ a, W a → a < s.heap.objs.size ∧ ∀ o, ¬ z a o)
    (hcl1 : ∀ n c, cl.lookup n = some c → env.cells.lookup n = some c) (hcl2 : ∀ n, (n, .free) ∈ scope.names → cl.lookup n = env.cells.lookup n)
    (hfree : ∀ q ∈ scope.names, q.2 = .free → (S.names.lookup q.1 = some .cell ∨ S.names.lookup q.1 = some .free) ∧ ∃ u, ρ.lookup q.1 = some u)
    (tI : To No s sI) (It : Iter prog w A I G xs.length (fun i z v => ∀ a, xs[i]? = some a → Rd z v (enc a)) St) (hst : St 0 T z sI)
    (hT : ∀ a, T a → s.heap.objs.size ≤ a ∧ a < sI.heap.objs.size)
    (hK : ∀ h h' : Heap, (∀ a o, W a → h.get? a = some o → h'.get? a = some o) → K h → K h') (hKs : K sI.heap)
    (loop : ∀ (cenv : Env) (D Tx : Addr) (s4 : Shared), Inn h₀ W z s cenv (frees scope ρ) z s4 → cenv.scope = reS scope S → s.heap.objs.size ≤ cenv.locals → s.heap.objs.size ≤ D → Apart (· = D) cenv →
      (∀ (v : Value) (z' : Fz) (s' : Shared) (Q : Unit → Shared → Prop) (E : Value → Shared → Prop), Inn h₀ W z s cenv (frees scope ρ) z' s' →
        (∀ s'', Inn h₀ W z s cenv ((x, v) :: frees scope ρ) z' s'' → To (· = Tx) s' s'' → Q () s'') → wpAny (model prog w) A (storeName cenv x v) Q E s') →
      Tx ≠ D ∧ s.heap.objs.size ≤ Tx → (own = false → Tx = cenv.locals) → (frees scope ρ).lookup x = none → St 0 T z s4 → (∀ a, T a → s.heap.objs.size ≤ a ∧ a < s4.heap.objs.size ∧ ∀ o, ¬ z a o) → ¬ T D → ¬ T Tx → Apart T cenv → Tx < s4.heap.objs.size →
      (∀ o, ¬ z D o) → s4.heap.PlainList D ([] : List Value).toArray → K s4.heap →
      codeAny (model prog w) A (.compLoop (.ListComp elt (⟨.Name x px, iter, ifs, 0⟩ :: rest) scope pos) 0 (.ref I) (.ref D) cenv) (R (.ref D) cenv.locals) s4) :
    wpAny (model prog w) A (newList []) (fun acc s₃ => wpAny (model prog w) A (newFunctionEnv scope env.globals cl [] env.qual none .none (some env)) (fun cenv s₄ =>
      codeAny (model prog w) A (.compStart (.ListComp elt (⟨.Name x px, iter, ifs, 0⟩ :: rest) scope pos) 0 (.ref I) acc { cenv with scope := relabel scope env }) (R acc cenv.locals) s₄) E s₃) E sI := by
  refine wpAny_newObj_type (newEnv_comp ?_)
  dsimp only
  have t1 : To No s { sI with heap := sI.heap.push { cls := .type "list", dict := none, data := .seq ([] : List Value).toArray } } := tI.trans (To.push No sI _)
  have hCF := comp_frame (x := x) J hS cs.kind (fun a ha => (hW a ha).1) hcl1 hcl2 hfree t1 own cs.cf cs.pc cs.isCell rfl
  have hDs : (sI.heap.push { cls := .type "list", dict := none, data := .seq ([] : List Value).toArray }).objs.size = sI.heap.objs.size + 1 := Heap.size_push ..
  have hDsize : s.heap.objs.size ≤ sI.heap.objs.size := tI.size
  generalize hce : ({ scope := relabel scope env, locals := (sI.heap.push { cls := .type "list", dict := none, data := .seq ([] : List Value).toArray }).objs.size, globals := env.globals, cells := cellsFrom ((sI.heap.push { cls := .type "list", dict := none, data := .seq ([] : List Value).toArray }).objs.size + 1) scope.names cl, qual := env.qual, func := none, code := env.code, frame := env.frame, builtins := env.builtins } : Env) = cenv at hCF
  have hloc : cenv.locals = sI.heap.objs.size + 1 := by rw [← hce]; exact hDs
  rw [show (sI.heap.push { cls := .type "list", dict := none, data := .seq ([] : List Value).toArray }).objs.size = cenv.locals from by rw [← hce]]
  generalize hs4 : ({ sI with heap := pushCells ((sI.heap.push { cls := .type "list", dict := none, data := .seq ([] : List Value).toArray }).push { cls := .type "dict", data := .dict #[] }) scope.names } : Shared) = s4 at hCF
  obtain ⟨J4, hsc, hCge, hxc⟩ := hCF
  have keep4 : ∀ b o, sI.heap.get? b = some o → s4.heap.get? b = some o := fun b o e => by rw [← hs4]; exact pushCells_keeps _ _ b o (Heap.get?_push_of_some _ (Heap.get?_push_of_some _ e))
  have hD4 : s4.heap.PlainList sI.heap.objs.size ([] : List Value).toArray := ⟨0, by rw [← hs4]; exact pushCells_keeps _ _ _ _ (Heap.get?_push_of_some _ (Heap.get?_push_size _ rfl))⟩
  have hsz4 : sI.heap.objs.size < s4.heap.objs.size := Heap.lt_size hD4.choose_spec
  have hst4 : St 0 T z s4 := It.keep _ _ _ _ _ _ hst (Fz.le.refl z) (fun a o _ e => keep4 a o e) (fun j y e => by rw [← hs4]; exact e)
  have hTz : ∀ a o, T a → ¬ z a o := fun a o ha e => gap (Heap.lt_size (J.inn a o e)) (hT a ha).1 (Nat.le_refl _)
  have hDz : ∀ o, ¬ z sI.heap.objs.size o := fun o e => gap (Heap.lt_size (J.inn _ o e)) hDsize (Nat.le_refl _)
  have hcellge : ∀ y c, cenv.cells.lookup y = some c → c < s.heap.objs.size ∨ sI.heap.objs.size + 2 ≤ c := fun y c hc => by
    have hcc : cenv.cells = if own then (x, sI.heap.objs.size + 1 + 1) :: cl else cl := by rw [← hce]; dsimp only; rw [cs.cf, hDs]
    rw [hcc] at hc
    have old : cl.lookup y = some c → c < s.heap.objs.size := fun e => let ⟨⟨_, hv⟩, _⟩ := J.frame.cz y c (hcl1 y c e); hv.lt
    cases own with
    | false => exact .inl (old (by simpa using hc))
    | true =>
      rw [if_pos rfl, List.lookup_cons] at hc
      cases hb : y == x with
      | true => rw [hb] at hc; cases hc; exact .inr (Nat.le_refl _)
      | false => rw [hb] at hc; exact .inl (old hc)
  have hTC : Apart T cenv := ⟨fun h => by rw [hloc] at h; exact gap (hT _ h).2 (Nat.le_succ _) (Nat.le_refl _), fun y c hc h => by
    rcases hcellge y c hc with h1 | h1
    · exact gap h1 (hT c h).1 (Nat.le_refl _)
    · exact gap (hT c h).2 (Nat.le_trans (Nat.le_succ _) (Nat.le_succ _)) h1⟩
  have hDC : Apart (· = sI.heap.objs.size) cenv := ⟨fun h => by have h' : cenv.locals = sI.heap.objs.size := h; rw [hloc] at h'; exact absurd h' (Nat.succ_ne_self _), fun y c hc h => by
    have h' : c = sI.heap.objs.size := h
    rcases hcellge y c hc with h1 | h1
    · rw [h'] at h1; exact gap h1 hDsize (Nat.le_refl _)
    · rw [h'] at h1; exact absurd h1 (by simp)⟩
  have hK4 : K s4.heap := hK _ _ (fun a o _ e => keep4 a o e) hKs
  let Tx : Addr := if own then sI.heap.objs.size + 2 else sI.heap.objs.size + 1
  have hTxge : sI.heap.objs.size + 1 ≤ Tx := by show _ ≤ (if own then _ else _); cases own <;> simp
  have hTxl : Tx < s4.heap.objs.size := by
    show (if own then sI.heap.objs.size + 2 else sI.heap.objs.size + 1) < _
    rw [← hs4]
    dsimp only
    rw [cs.pc]
    cases own <;> simp [Heap.size_push]
  have store : ∀ (v : Value) (z' : Fz) (s' : Shared) (Q : Unit → Shared → Prop) (E : Value → Shared → Prop), Inn h₀ W z s cenv (frees scope ρ) z' s' →
      (∀ s'', Inn h₀ W z s cenv ((x, v) :: frees scope ρ) z' s'' → To (· = Tx) s' s'' → Q () s'') → wpAny (model prog w) A (storeName cenv x v) Q E s' := by
    intro v z' s' Q E J' h
    cases hown : own with
    | false =>
      have hl : (reS scope S).names.lookup x = some .local := by subst hS; exact lookup_relabel_local (cs.isLoc hown)
      refine J'.st hCge (kind_of hsc hl) fun s'' J'' t'' => h s'' J'' ?_
      have : Tx = cenv.locals := by show (if own then _ else _) = _; rw [hown, hloc]; rfl
      rw [this]; exact t''
    | true =>
      have hTx : Tx = sI.heap.objs.size + 1 + 1 := by show (if own then _ else _) = _; rw [hown]; rfl
      refine J'.stC (c := sI.heap.objs.size + 1 + 1) (kind_of hsc (lookup_relabel_cell (cs.isCell hown))) (by have := hxc hown; rw [hDs] at this; exact this) (Nat.le_trans hDsize (Nat.le_trans (Nat.le_succ _) (Nat.le_succ _))) fun s'' J'' t'' => h s'' J'' ?_
      rw [hTx]; exact t''
  have hx : (frees scope ρ).lookup x = none := frees_none (by cases hown : own with | false => rw [cs.isLoc hown]; nofun | true => rw [cs.isCell hown]; nofun)
  have loop : codeAny (model prog w) A (.compLoop (.ListComp elt (⟨.Name x px, iter, ifs, 0⟩ :: rest) scope pos) 0 (.ref I) (.ref sI.heap.objs.size) cenv) (R (.ref sI.heap.objs.size) cenv.locals) s4 :=
    loop cenv _ Tx s4 J4 hsc hCge hDsize hDC store ⟨fun h => absurd (h ▸ hTxge) (by simp), Nat.le_trans hDsize (Nat.le_trans (Nat.le_succ _) hTxge)⟩ (fun q => by show (if own then _ else _) = _; rw [q, hloc]; rfl) hx hst4
      (fun a ha => ⟨(hT a ha).1, Nat.lt_trans (hT a ha).2 hsz4, fun o => hTz a o ha⟩) (fun h => gap (hT _ h).2 (Nat.le_refl _) (Nat.le_refl _)) (fun h => gap (hT _ h).2 (Nat.le_refl _) (Nat.le_trans (Nat.le_succ _) hTxge)) hTC hTxl hDz hD4 hK4
  exact codeAny_compStart_list loop (It.self 0 T z s4 _ _ J4.inn hst4 loop)

theorem comp_run {α : Type} {xs : List α} {enc : α → PyData} {p : α → Bool} {f : α → PyData} {elt iter : Expr} {x : Str} {px : Pos} {ifs : List Expr} {S scope : Scope} {own : Bool} {cl : List (Str × Addr)} {pos : Pos} {K : Heap → Prop} {I : Addr} {T : Addr → Prop} {G : Nat}
    {St : Nat → (Addr → Prop) → Fz → Shared → Prop} {R : Value → Addr → Result → Shared → Prop} {sI : Shared}
    (J : Inn h₀ W z₀ s₀ env ρ z s) (hS : env.scope = S) (cs : CompScope scope x own) (hW : ∀ a, W a → a < s.heap.objs.size ∧ ∀ o, ¬ z a o)
    (hcl1 : ∀ n c, cl.lookup n = some c → env.cells.lookup n = some c) (hcl2 : ∀ n, (n, .free) ∈ scope.names → cl.lookup n = env.cells.lookup n)
    (hfree : ∀ q ∈ scope.names, q.2 = .free → (S.names.lookup q.1 = some .cell ∨ S.names.lookup q.1 = some .free) ∧ ∃ u, ρ.lookup q.1 = some u)
    (tI : To No s sI) (It : Iter prog w A I G xs.length (fun i z v => ∀ a, xs[i]? = some a → Rd z v (enc a)) St) (hlen : xs.length ≤ sizeLine) (hst : St 0 T z sI)
    (hT : ∀ a, T a → s.heap.objs.size ≤ a ∧ a < sI.heap.objs.size) (hG : s.gens.size ≤ G)
    (hK : ∀ h h' : Heap, (∀ a o, W a → h.get? a = some o → h'.get? a = some o) → K h → K h') (hKs : K sI.heap)
    (turn : ∀ cenv : Env, cenv.scope = reS scope S → ∀ a ∈ xs, Turn h₀ W z cenv (frees scope ρ) prog w A x ifs elt K enc p f a)
    (fin : ∀ (D C : Addr) (z' : Fz) (s' : Shared), s.heap.objs.size ≤ C → (∃ m, s'.heap.Ns C m) → Grow W z s z' s' → (∀ o, ¬ z' C o) → Rd z' (.ref D) (.list ((xs.filter p).map f)) → K s'.heap → R (.ref D) C (.ok .next) s') :
    wpAny (model prog w) A (newList []) (fun acc s₃ => wpAny (model prog w) A (newFunctionEnv scope env.globals cl [] env.qual none .none (some env)) (fun cenv s₄ =>
      codeAny (model prog w) A (.compStart (.ListComp elt [⟨.Name x px, iter, ifs, 0⟩] scope pos) 0 (.ref I) acc { cenv with scope := relabel scope env }) (R acc cenv.locals) s₄) E s₃) E sI := by
  refine comp_setup J hS cs hW hcl1 hcl2 hfree tI It hst hT hK hKs fun cenv D Tx s4 J4 hsc hCge hDsize hDC store hTx _ hx hst4 hT4 hTD hTTx hTC hTxl hDz hD4 hK4 => ?_
  refine comp_loop (pre := []) (X := No) (hq := s4.heap) loop_one It (by simpa using hlen) hG hDsize hDC store hTx hx hW hK nofun
    (turn cenv hsc) (fun z' s' ys J' hle hpl hall hK' hDz' _ => ?_) 0 T z s4 [] (Nat.zero_le _) J4 (Fz.le.refl z) hst4 hT4 hTD hTTx hTC hTxl hDz hD4 (by simpa using RdAll.nil z) hK4 nofun nofun
  obtain ⟨n, hn⟩ := hpl
  have g' := J'.grow.put (a := D) hDsize hn
  obtain ⟨m, hm, _⟩ := J'.frame.ns
  refine fin _ _ _ s' hCge ⟨m, hm⟩ g' (fun o e => e.elim (J'.frame.nz o) fun h => hDC.1 h.1) (Rd.list' (Fz.put_at _ _ _) (hall.mono (Fz.put_le _ _ _))) hK'

end NB90
end
section
set_option autoImplicit false
open PySem PySem.W PyProof.Rows
set_option Elab.async false
namespace NB90
variable {h₀ : Heap} {mg mb : Str → Option Value} {W : Addr → Prop} {z₀ z z' z₁ : Fz} {s₀ s s' s₁ : Shared} {env : Env} {ρ : List (Str × Value)} {prog : Program} {w : World} {A : Around} {E : Value → Shared → Prop}

noncomputable def freeOk (scope S : Scope) (ρ : List (Str × Value)) : Bool := scope.names.all fun q => q.2 != .free || ((S.names.lookup q.1 == some .cell || S.names.lookup q.1 == some .free) && (ρ.lookup q.1).isSome)
theorem freeOk.all {scope S : Scope} (h : freeOk scope S ρ = true) : ∀ q ∈ scope.names, q.2 = .free → (S.names.lookup q.1 = some .cell ∨ S.names.lookup q.1 = some .free) ∧ ∃ u, ρ.lookup q.1 = some u := by
  intro q hq hf
  have := List.all_eq_true.mp h q hq
  rw [hf] at this
  simp only [bne_self_eq_false, Bool.false_or, Bool.and_eq_true, Bool.or_eq_true, beq_iff_eq] at this
  exact ⟨this.1, Option.isSome_iff_exists.mp this.2⟩

/-- after a comprehension: the frame around it, once its own dict has been let go -/
theorem comp_after {C : Addr} {s' : Shared} {h' : Heap} (J : Inn h₀ W z₀ s₀ env ρ z s) (hC : s.heap.objs.size ≤ C) (g : Grow W z s z' s') (hz : ∀ o, ¬ z' C o) (hs : Heap.SameBut C s'.heap h') : Inn h₀ W z₀ s₀ env ρ z' { s' with heap := h' } :=
  J.up (g.store hC hz (To.sameBut (tk := s'.toks) hs))

section
variable {α : Type} {xs : List α} {enc : α → PyData} {p : α → Bool} {f : α → PyData} {elt iter : Expr} {x : Str} {px : Pos} {ifs : List Expr} {S scope : Scope} {own : Bool} {pos : Pos} {K : Heap → Prop}

/-- a comprehension over any iterator -/
theorem ev_compI {Q : Value → Shared → Prop} (hS : env.scope = S) (cs : CompScope scope x own) (hfree : freeOk scope S ρ = true) (hlen : xs.length ≤ sizeLine)
    (hK : ∀ h h' : Heap, (∀ a o, W a → h.get? a = some o → h'.get? a = some o) → K h → K h') (J : Inn h₀ W z₀ s₀ env ρ z s) (hW : ∀ a, W a → a < s.heap.objs.size ∧ ∀ o, ¬ z a o)
    (h : wpAny (model prog w) A (eval iter env) (fun xv s₁ => wpAny (model prog w) A (pyIter xv) (fun it s₂ => ∃ I T G St, it = .ref I ∧ To No s s₂ ∧ Iter prog w A I G xs.length (fun i z v => ∀ a, xs[i]? = some a → Rd z v (enc a)) St ∧ St 0 T z s₂ ∧
      (∀ a, T a → s.heap.objs.size ≤ a ∧ a < s₂.heap.objs.size) ∧ s.gens.size ≤ G ∧ K s₂.heap) E s₁) E s)
    (turn : ∀ cenv : Env, cenv.scope = reS scope S → ∀ a ∈ xs, Turn h₀ W z cenv (frees scope ρ) prog w A x ifs elt K enc p f a)
    (fin : ∀ v z' s', z.le z' → Inn h₀ W z₀ s₀ env ρ z' s' → Rd z' v (.list ((xs.filter p).map f)) → K s'.heap → Grow W z s z' s' → Q v s')
    (hs : ∀ x, foldedSetIterable iter env x = pure x := by intro _; rfl) :
    wpAny (model prog w) A (eval (.ListComp elt [⟨.Name x px, iter, ifs, 0⟩] scope pos) env) Q E s := by
  rw [eval_ListComp]
  have hfr := freeOk.all hfree
  obtain ⟨cl, hclos, hcl1, hcl2⟩ := closure_of (env := env) (scope := scope) (fun q hq hf => by
    obtain ⟨hk, u, hu⟩ := hfr q hq hf
    obtain ⟨c, hc, _⟩ := J.frame.cell q.1 u (by rw [Env.kindOf, hS]; exact hk) hu
    exact ⟨c, hc⟩)
  refine wpAny_comprehension_free (use := none) rfl hs hclos cs.kind cs.names (wpAny_mono h (fun xv s₁ h₁ => wpAny_mono h₁ (fun it s₂ h₂ => ?_) fun _ _ e => e) fun _ _ e => e)
  obtain ⟨I, T, G, St, rfl, t2, It, hst, hT, hG, hKs⟩ := h₂
  refine comp_run (R := fun acc C => compPost (model prog w) A E none Q acc C) J hS cs hW hcl1 hcl2 hfr t2 It hlen hst hT hG hK hKs turn ?_
  intro D C z' s' hC hns g hz hr hK'
  obtain ⟨m, hm⟩ := hns
  refine ⟨m, hm, fun h' hs' => ?_⟩
  have hK2 : K h' := hK _ _ (fun a o hw e => hs'.extBut a o (fun e => gap (hW a hw).1 hC (by rw [e]; exact Nat.le_refl _)) e) hK'
  exact fin _ z' _ g.le (comp_after J hC g hz hs') hr hK2 (g.store hC hz (To.sameBut (tk := s'.toks) hs'))

/-- a comprehension over a frozen list, given behind the evaluation of the list -/
theorem list_src {xv : Value} (hh : A.handled = none) (J : Inn h₀ W z₀ s₀ env ρ z s) (hr : Rd z xv (.list (xs.map enc))) (hKs : K s.heap) (hK : ∀ h h' : Heap, (∀ a o, W a → h.get? a = some o → h'.get? a = some o) → K h → K h') :
    wpAny (model prog w) A (pyIter xv) (fun it s₂ => ∃ I T G St, it = .ref I ∧ To No s s₂ ∧ Iter prog w A I G xs.length (fun i z v => ∀ a, xs[i]? = some a → Rd z v (enc a)) St ∧ St 0 T z s₂ ∧
      (∀ a, T a → s.heap.objs.size ≤ a ∧ a < s₂.heap.objs.size) ∧ s.gens.size ≤ G ∧ K s₂.heap) E s := by
  obtain ⟨l, vs, rfl, hl, ha⟩ := hr.listIn J.inn
  refine wpAny_pyIter_list hl ?_
  refine ⟨_, _, s.gens.size, _, rfl, To.push No s _, Iter.list hh _, ⟨rfl, hr, _, Heap.get?_push_size _ rfl, rfl, rfl⟩, fun a ha => ⟨ha ▸ Nat.le_refl _, by rw [ha]; simp⟩, Nat.le_refl _, hK _ _ (fun a o _ e => Heap.get?_push_of_some _ e) hKs⟩

theorem closure_at (J : Inn h₀ W z₀ s₀ env ρ z s) (hS : env.scope = S) (hfree : freeOk scope S ρ = true) :
    ∃ cl, closureFor scope env = pure cl ∧ (∀ n c, cl.lookup n = some c → env.cells.lookup n = some c) ∧ (∀ n, (n, .free) ∈ scope.names → cl.lookup n = env.cells.lookup n) :=
  closure_of (env := env) (scope := scope) (fun q hq hf => by
    obtain ⟨hk, u, hu⟩ := freeOk.all hfree q hq hf
    obtain ⟨c, hc, _⟩ := J.frame.cell q.1 u (by rw [Env.kindOf, hS]; exact hk) hu
    exact ⟨c, hc⟩)

theorem ev_comp {Q : Value → Shared → Prop} (hh : A.handled = none) (hS : env.scope = S) (cs : CompScope scope x own) (hfree : freeOk scope S ρ = true) (hlen : xs.length ≤ sizeLine)
    (hK : ∀ h h' : Heap, (∀ a o, W a → h.get? a = some o → h'.get? a = some o) → K h → K h') (J : Inn h₀ W z₀ s₀ env ρ z s)
    (h : wpAny (model prog w) A (eval iter env) (fun xv s₁ => ∃ z₁, Inn h₀ W z₀ s₀ env ρ z₁ s₁ ∧ Rd z₁ xv (.list (xs.map enc)) ∧ K s₁.heap ∧ (∀ a, W a → a < s₁.heap.objs.size ∧ ∀ o, ¬ z₁ a o) ∧
      (∀ cenv : Env, cenv.scope = reS scope S → ∀ a ∈ xs, Turn h₀ W z₁ cenv (frees scope ρ) prog w A x ifs elt K enc p f a) ∧
      (∀ v z' s', z₁.le z' → Inn h₀ W z₀ s₀ env ρ z' s' → Rd z' v (.list ((xs.filter p).map f)) → K s'.heap → Q v s')) E s)
    (hs : ∀ x, foldedSetIterable iter env x = pure x := by intro _; rfl) :
    wpAny (model prog w) A (eval (.ListComp elt [⟨.Name x px, iter, ifs, 0⟩] scope pos) env) Q E s := by
  rw [eval_ListComp]
  obtain ⟨cl, hclos, hcl1, hcl2⟩ := closure_at J hS hfree
  refine wpAny_comprehension_free (use := none) rfl hs hclos cs.kind cs.names (wpAny_mono h (fun xv s₁ h₁ => ?_) fun _ _ e => e)
  obtain ⟨z₁, J₁, hr, hKs, hW, turn, fin⟩ := h₁
  refine wpAny_mono (list_src (E := E) hh J₁ hr hKs hK) (fun it s₂ h₂ => ?_) fun _ _ e => e
  obtain ⟨I, T, G, St, rfl, t2, It, hst, hT, hG, hKs⟩ := h₂
  refine comp_run (R := fun acc C => compPost (model prog w) A E none Q acc C) J₁ hS cs hW hcl1 hcl2 (freeOk.all hfree) t2 It hlen hst hT hG hK hKs turn ?_
  intro D C z' s' hC hns g hz hr hK'
  obtain ⟨m, hm⟩ := hns
  refine ⟨m, hm, fun h' hs' => ?_⟩
  have hK2 : K h' := hK _ _ (fun a o hw e => hs'.extBut a o (fun e => gap (hW a hw).1 hC (by rw [e]; exact Nat.le_refl _)) e) hK'
  exact fin _ z' _ g.le (comp_after J₁ hC g hz hs') hr hK2

theorem swaps_true {S : Scope} {elt : Expr} {gens : List Comprehension} {sc : Scope} {vpos tpos : Pos} {t : Str} {n : Nat} (hS : env.scope = S)
    (h : (!S.kind.isAnnotationScope && S.kind == .function && S.names.lookup t == some .local && tpos.line == vpos.line && !(sc.names.any fun (n, k) => n == t && (k == .local || k == .cell))) = true) :
    swapsWith (.ListComp elt gens sc vpos) (some (.Name t tpos)) n env = pure true := by
  simp only [Bool.and_eq_true, Bool.not_eq_true'] at h
  obtain ⟨⟨⟨⟨h1, h2⟩, h3⟩, h4⟩, h5⟩ := h
  show (pure (env.blockKind == .function && env.kindOf t == some .local && tpos.line == vpos.line && !(sc.names.any fun (n, k) => n == t && (k == .local || k == .cell))) : Sem Bool) = pure true
  unfold Env.blockKind Env.kindOf
  rw [hS, h1]
  simp only [Bool.false_eq_true, if_false]
  rw [h2, h3, h4, h5]; rfl

/-- the statement «y = [..]» where y is a plain local -/
theorem assign_comp {Q : Flow → Shared → Prop} {y : Str} {py spos : Pos} (hh : A.handled = none) (hS : env.scope = S) (cs : CompScope scope x own) (hfree : freeOk scope S ρ = true) (hlen : xs.length ≤ sizeLine)
    (hsw : (!S.kind.isAnnotationScope && S.kind == .function && S.names.lookup y == some .local && py.line == pos.line && !(scope.names.any fun (n, k) => n == y && (k == .local || k == .cell))) = true)
    (hK : ∀ h h' : Heap, (∀ a o, W a → h.get? a = some o → h'.get? a = some o) → K h → K h') (J : Inn h₀ W z₀ s₀ env ρ z s) (hL : s₀.heap.objs.size ≤ env.locals)
    (h : wpAny (model prog w) A (eval iter env) (fun xv s₁ => ∃ z₁, Inn h₀ W z₀ s₀ env ρ z₁ s₁ ∧ Rd z₁ xv (.list (xs.map enc)) ∧ K s₁.heap ∧ (∀ a, W a → a < s₁.heap.objs.size ∧ ∀ o, ¬ z₁ a o) ∧
      (∀ cenv : Env, cenv.scope = reS scope S → ∀ a ∈ xs, Turn h₀ W z₁ cenv (frees scope ρ) prog w A x ifs elt K enc p f a) ∧
      (∀ v z' s', z₁.le z' → Inn h₀ W z₀ s₀ env ((y, v) :: ρ) z' s' → Rd z' v (.list ((xs.filter p).map f)) → K s'.heap → Q .next s')) E s)
    (hs : ∀ x, foldedSetIterable iter env x = pure x := by intro _; rfl) :
    wpAny (model prog w) A (exec (.Assign [.Name y py] (.ListComp elt [⟨.Name x px, iter, ifs, 0⟩] scope pos) spos) env) Q E s := by
  rw [exec_Assign_Name_used _ _ _ _ (swaps_true hS hsw)]
  have hy : env.kindOf y = some .local := by
    simp only [Bool.and_eq_true, Bool.not_eq_true', beq_iff_eq] at hsw
    exact kind_of hS hsw.1.1.2
  refine wpAny_bind (wpAny_standAt (wpAny_bind ?_))
  show wpAny _ A (do let _ ← comprehension (.ListComp elt [⟨.Name x px, iter, ifs, 0⟩] scope pos) scope env _ (newList []) false (eval iter env) (some (assign (.Name y py) env))) _ _ s
  obtain ⟨cl, hclos, hcl1, hcl2⟩ := closure_at J hS hfree
  refine wpAny_bind (wpAny_mono (wpAny_comprehension_free (use := some (assign (.Name y py) env)) (Q := fun _ s' => Q .next s') rfl hs hclos cs.kind cs.names
    (wpAny_mono h (fun xv s₁ h₁ => ?_) fun _ _ e => e)) (fun _ s' hq => wpAny_pure (wpAny_pure hq)) fun _ _ e => e)
  obtain ⟨z₁, J₁, hr, hKs, hW, turn, fin⟩ := h₁
  refine wpAny_mono (list_src (E := E) hh J₁ hr hKs hK) (fun it s₂ h₂ => ?_) fun _ _ e => e
  obtain ⟨I, T, G, St, rfl, t2, It, hst, hT, hG, hKs⟩ := h₂
  refine comp_run (R := fun acc C => compPost (model prog w) A E (some (assign (.Name y py) env)) (fun _ s' => Q .next s') acc C) J₁ hS cs hW hcl1 hcl2 (freeOk.all hfree) t2 It hlen hst hT hG hK hKs turn ?_
  intro D C z' s' hC hns g hz hr hK'
  obtain ⟨m, hm⟩ := hns
  show wpAny _ A (assign (.Name y py) env (.ref D)) _ _ _
  have J' := J₁.up g
  have hLlt : env.locals < s₁.heap.objs.size := let ⟨_, hn, _⟩ := J₁.frame.ns; hn.lt
  have hCL : C ≠ env.locals := fun e => gap hLlt hC (by rw [e]; exact Nat.le_refl _)
  refine wpAny_assign_Name (J'.st hL hy fun s2 J2 t2' => ?_)
  refine ⟨m, hm.at' (fun o e => t2'.keep C o hCL e), fun h' hs' => ?_⟩
  have hKs2 : K s2.heap := hK _ _ (fun a o hw e => t2'.keep a o (fun e => J₁.apart.1 (e ▸ hw)) e) hK'
  have hK2 : K h' := hK _ _ (fun a o hw e => hs'.extBut a o (fun e => gap (hW a hw).1 hC (by rw [e]; exact Nat.le_refl _)) e) hKs2
  have hCA : Apart (· = C) env := ⟨fun h => hCL h.symm, fun n c hc h => by
    have h' : c = C := h
    obtain ⟨⟨_, hv⟩, _⟩ := J₁.frame.cz n c hc
    exact gap hv.lt hC (by rw [h']; exact Nat.le_refl _)⟩
  refine fin _ z' _ g.le (J2.step (T := (· = C)) (G := s₀.gens.size) (fun a ha => ha ▸ Nat.le_trans J₁.grow.size hC) (Nat.le_refl _) (fun a o ha => ha ▸ hz o) hCA (To.sameBut (tk := s2.toks) hs').stp) hr hK2

end
end NB90
end
section
set_option autoImplicit false
open PySem PySem.W PyProof.Rows
open PySem.Builtin.Str (partsBetween occurrences)
set_option Elab.async false
set_option maxRecDepth 100000
namespace NB90
variable {h₀ : Heap} {mg mb : Str → Option Value} {W : Addr → Prop} {z₀ z z' z₁ : Fz} {s₀ s s' s₁ : Shared} {env : Env} {ρ : List (Str × Value)} {prog : Program} {w : World} {A : Around} {E : Value → Shared → Prop}

/-- room left around: frames and C units -/
structure Room (A : Around) (n : Nat) : Prop where
  hh : A.handled = none
  depth : A.depth + n < 1000
  units : A.units + 10 * n + 100 < 9900
theorem Room.le {A : Around} {n m : Nat} (r : Room A n) (h : m ≤ n) : Room A m := ⟨r.hh, by have := r.depth; (first | with_reducible assumption | with_reducible exact Nat.add_le_add_left (by decide) _ | with_reducible exact Nat.le_trans (by assumption) (by decide) | with_reducible exact Nat.sub_succ_lt_self (by assumption) | with_reducible exact Nat.lt_of_lt_of_le (by assumption) (by assumption) | with_reducible exact Nat.le_trans (by assumption) (by assumption) | decide | omega), by have := r.units; (first | with_reducible assumption | with_reducible exact Nat.add_le_add_left (by decide) _ | with_reducible exact Nat.le_trans (by assumption) (by decide) | with_reducible exact Nat.sub_succ_lt_self (by assumption) | with_reducible exact Nat.lt_of_lt_of_le (by assumption) (by assumption) | with_reducible exact Nat.le_trans (by assumption) (by assumption) | decide | omega)⟩
theorem Room.deeper {A : Around} {n : Nat} (r : Room A (n + 1)) (env : Env) : Room (A.deeper env) n :=
  ⟨r.hh, by have := r.depth; show A.depth + 1 + n < 1000; (first | with_reducible assumption | with_reducible exact Nat.add_le_add_left (by decide) _ | with_reducible exact Nat.le_trans (by assumption) (by decide) | with_reducible exact Nat.sub_succ_lt_self (by assumption) | with_reducible exact Nat.lt_of_lt_of_le (by assumption) (by assumption) | with_reducible exact Nat.le_trans (by assumption) (by assumption) | decide | omega), by have := r.units; show A.units + 3 + 10 * n + 100 < 9900; (first | with_reducible assumption | with_reducible exact Nat.add_le_add_left (by decide) _ | with_reducible exact Nat.le_trans (by assumption) (by decide) | with_reducible exact Nat.sub_succ_lt_self (by assumption) | with_reducible exact Nat.lt_of_lt_of_le (by assumption) (by assumption) | with_reducible exact Nat.le_trans (by assumption) (by assumption) | decide | omega)⟩
theorem Room.in1 {A : Around} {n : Nat} (r : Room A (n + 1)) : Room A.in1 n :=
  ⟨r.hh, by have := r.depth; show A.depth + n < 1000; (first | with_reducible assumption | with_reducible exact Nat.add_le_add_left (by decide) _ | with_reducible exact Nat.le_trans (by assumption) (by decide) | with_reducible exact Nat.sub_succ_lt_self (by assumption) | with_reducible exact Nat.lt_of_lt_of_le (by assumption) (by assumption) | with_reducible exact Nat.le_trans (by assumption) (by assumption) | decide | omega), by have := r.units; show A.units + 1 + 10 * n + 100 < 9900; (first | with_reducible assumption | with_reducible exact Nat.add_le_add_left (by decide) _ | with_reducible exact Nat.le_trans (by assumption) (by decide) | with_reducible exact Nat.sub_succ_lt_self (by assumption) | with_reducible exact Nat.lt_of_lt_of_le (by assumption) (by assumption) | with_reducible exact Nat.le_trans (by assumption) (by assumption) | decide | omega)⟩
theorem Room.lt {A : Around} {n : Nat} (r : Room A n) : A.depth < recursionLimit := by have := r.depth; show A.depth < 1000; (first | with_reducible assumption | with_reducible exact Nat.add_le_add_left (by decide) _ | with_reducible exact Nat.le_trans (by assumption) (by decide) | with_reducible exact Nat.sub_succ_lt_self (by assumption) | with_reducible exact Nat.lt_of_lt_of_le (by assumption) (by assumption) | with_reducible exact Nat.le_trans (by assumption) (by assumption) | decide | omega)
theorem Room.un {A : Around} {n : Nat} (r : Room A n) : A.units + 64 < cLine := by have := r.units; show A.units + 64 < 9900; (first | with_reducible assumption | with_reducible exact Nat.add_le_add_left (by decide) _ | with_reducible exact Nat.le_trans (by assumption) (by decide) | with_reducible exact Nat.sub_succ_lt_self (by assumption) | with_reducible exact Nat.lt_of_lt_of_le (by assumption) (by assumption) | with_reducible exact Nat.le_trans (by assumption) (by assumption) | decide | omega)

noncomputable def stAt (i : Nat) : Stmt := PySem.Challenge.pw_nb0090_01.main.body.getD i (.Pass default)
noncomputable def clsBody : Stmt → List Stmt
  | .ClassDef _ _ _ b _ _ _ _ _ _ _ => b
  | _ => []
noncomputable def mtAt (i : Nat) : Stmt := (clsBody (stAt 11)).getD i (.Pass default)
noncomputable def pBodyRestore : { b : List Stmt // ∃ a P d r t S u n p, stAt 2 = .FunctionDef a P b d r t S u n p } := ⟨_, _, _, _, _, _, _, _, _, _, rfl⟩
noncomputable def pArgsRestore : { P : Arguments // ∃ a b d r t S u n p, stAt 2 = .FunctionDef a P b d r t S u n p } := ⟨_, _, _, _, _, _, _, _, _, _, rfl⟩
noncomputable def pScopeRestore : { S : Scope // ∃ a P b d r t u n p, stAt 2 = .FunctionDef a P b d r t S u n p } := ⟨_, _, _, _, _, _, _, _, _, _, rfl⟩
noncomputable def pBodyLine : { b : List Stmt // ∃ a P d r t S u n p, stAt 13 = .FunctionDef a P b d r t S u n p } := ⟨_, _, _, _, _, _, _, _, _, _, rfl⟩
noncomputable def pArgsLine : { P : Arguments // ∃ a b d r t S u n p, stAt 13 = .FunctionDef a P b d r t S u n p } := ⟨_, _, _, _, _, _, _, _, _, _, rfl⟩
noncomputable def pScopeLine : { S : Scope // ∃ a P b d r t u n p, stAt 13 = .FunctionDef a P b d r t S u n p } := ⟨_, _, _, _, _, _, _, _, _, _, rfl⟩
noncomputable def pBodyUp : { b : List Stmt // ∃ a P d r t S u n p, stAt 14 = .FunctionDef a P b d r t S u n p } := ⟨_, _, _, _, _, _, _, _, _, _, rfl⟩
noncomputable def pArgsUp : { P : Arguments // ∃ a b d r t S u n p, stAt 14 = .FunctionDef a P b d r t S u n p } := ⟨_, _, _, _, _, _, _, _, _, _, rfl⟩
noncomputable def pScopeUp : { S : Scope // ∃ a P b d r t u n p, stAt 14 = .FunctionDef a P b d r t S u n p } := ⟨_, _, _, _, _, _, _, _, _, _, rfl⟩
noncomputable def pBodyTold : { b : List Stmt // ∃ a P d r t S u n p, stAt 15 = .FunctionDef a P b d r t S u n p } := ⟨_, _, _, _, _, _, _, _, _, _, rfl⟩
noncomputable def pArgsTold : { P : Arguments // ∃ a b d r t S u n p, stAt 15 = .FunctionDef a P b d r t S u n p } := ⟨_, _, _, _, _, _, _, _, _, _, rfl⟩
noncomputable def pScopeTold : { S : Scope // ∃ a P b d r t u n p, stAt 15 = .FunctionDef a P b d r t S u n p } := ⟨_, _, _, _, _, _, _, _, _, _, rfl⟩
noncomputable def pBodyTagged : { b : List Stmt // ∃ a P d r t S u n p, stAt 16 = .FunctionDef a P b d r t S u n p } := ⟨_, _, _, _, _, _, _, _, _, _, rfl⟩
noncomputable def pArgsTagged : { P : Arguments // ∃ a b d r t S u n p, stAt 16 = .FunctionDef a P b d r t S u n p } := ⟨_, _, _, _, _, _, _, _, _, _, rfl⟩
noncomputable def pScopeTagged : { S : Scope // ∃ a P b d r t u n p, stAt 16 = .FunctionDef a P b d r t S u n p } := ⟨_, _, _, _, _, _, _, _, _, _, rfl⟩
noncomputable def pBodyShort : { b : List Stmt // ∃ a P d r t S u n p, stAt 17 = .FunctionDef a P b d r t S u n p } := ⟨_, _, _, _, _, _, _, _, _, _, rfl⟩
noncomputable def pArgsShort : { P : Arguments // ∃ a b d r t S u n p, stAt 17 = .FunctionDef a P b d r t S u n p } := ⟨_, _, _, _, _, _, _, _, _, _, rfl⟩
noncomputable def pScopeShort : { S : Scope // ∃ a P b d r t u n p, stAt 17 = .FunctionDef a P b d r t S u n p } := ⟨_, _, _, _, _, _, _, _, _, _, rfl⟩
noncomputable def pBodyHeads : { b : List Stmt // ∃ a P d r t S u n p, stAt 18 = .FunctionDef a P b d r t S u n p } := ⟨_, _, _, _, _, _, _, _, _, _, rfl⟩
noncomputable def pArgsHeads : { P : Arguments // ∃ a b d r t S u n p, stAt 18 = .FunctionDef a P b d r t S u n p } := ⟨_, _, _, _, _, _, _, _, _, _, rfl⟩
noncomputable def pScopeHeads : { S : Scope // ∃ a P b d r t u n p, stAt 18 = .FunctionDef a P b d r t S u n p } := ⟨_, _, _, _, _, _, _, _, _, _, rfl⟩
noncomputable def pBodyRefused : { b : List Stmt // ∃ a P d r t S u n p, stAt 19 = .FunctionDef a P b d r t S u n p } := ⟨_, _, _, _, _, _, _, _, _, _, rfl⟩
noncomputable def pArgsRefused : { P : Arguments // ∃ a b d r t S u n p, stAt 19 = .FunctionDef a P b d r t S u n p } := ⟨_, _, _, _, _, _, _, _, _, _, rfl⟩
noncomputable def pScopeRefused : { S : Scope // ∃ a P b d r t u n p, stAt 19 = .FunctionDef a P b d r t S u n p } := ⟨_, _, _, _, _, _, _, _, _, _, rfl⟩
noncomputable def pBodyLaw : { b : List Stmt // ∃ a P d r t S u n p, stAt 20 = .FunctionDef a P b d r t S u n p } := ⟨_, _, _, _, _, _, _, _, _, _, rfl⟩
noncomputable def pArgsLaw : { P : Arguments // ∃ a b d r t S u n p, stAt 20 = .FunctionDef a P b d r t S u n p } := ⟨_, _, _, _, _, _, _, _, _, _, rfl⟩
noncomputable def pScopeLaw : { S : Scope // ∃ a P b d r t u n p, stAt 20 = .FunctionDef a P b d r t S u n p } := ⟨_, _, _, _, _, _, _, _, _, _, rfl⟩
noncomputable def pBodyInit : { b : List Stmt // ∃ a P d r t S u n p, mtAt 0 = .FunctionDef a P b d r t S u n p } := ⟨_, _, _, _, _, _, _, _, _, _, rfl⟩
noncomputable def pArgsInit : { P : Arguments // ∃ a b d r t S u n p, mtAt 0 = .FunctionDef a P b d r t S u n p } := ⟨_, _, _, _, _, _, _, _, _, _, rfl⟩
noncomputable def pScopeInit : { S : Scope // ∃ a P b d r t u n p, mtAt 0 = .FunctionDef a P b d r t S u n p } := ⟨_, _, _, _, _, _, _, _, _, _, rfl⟩
noncomputable def pBodyNames : { b : List Stmt // ∃ a P d r t S u n p, mtAt 1 = .FunctionDef a P b d r t S u n p } := ⟨_, _, _, _, _, _, _, _, _, _, rfl⟩
noncomputable def pArgsNames : { P : Arguments // ∃ a b d r t S u n p, mtAt 1 = .FunctionDef a P b d r t S u n p } := ⟨_, _, _, _, _, _, _, _, _, _, rfl⟩
noncomputable def pScopeNames : { S : Scope // ∃ a P b d r t u n p, mtAt 1 = .FunctionDef a P b d r t S u n p } := ⟨_, _, _, _, _, _, _, _, _, _, rfl⟩

/-- a call of a def of the text that raises nothing -/
theorem call_def {n : Nat} {nm : Str} {P : Arguments} {B : List Stmt} {S : Scope} {a : Addr} {cd : Value} {vals : List Value} {binds : List (Str × Value)} {Q : Value → Shared → Prop} (r : Room A (n + 1)) (lim : h₀.NoLimit) (f : FnOk h₀ nm P B S a cd)
    (hz : z.In s.heap) (hb : Base h₀ z) (hbind : ∀ pm doc, bindArgs (Calls.docDef nm P B S pm cd doc) ⟨vals, []⟩ = pure binds)
    (hkind : ∀ L, (binds.all fun x => S.names.lookup x.1 == some .local || (S.names.lookup x.1 == some .cell && ((cellsFrom (L + 1) S.names []).lookup x.1).isSome)) = true)
    (hfl : S.isCoroutine = false ∧ S.isGenerator = false ∧ S.kind = .function)
    (h : ∀ env s₁, env.scope = S → s.heap.objs.size ≤ env.locals ∧ (∀ x c, env.cells.lookup x = some c → s.heap.objs.size ≤ c) ∧ env.cells = cellsFrom (env.locals + 1) S.names [] ∧ env.frame = some env.locals → Inn h₀ No z s env binds.reverse z s₁ → Room (A.deeper env) n →
      wpAny (model prog w) (A.deeper env) (execs B env) (fun fl s' => Q (match fl with | .ret v => v | _ => .none) s') (fun _ _ => False) s₁) :
    wpAny (model prog w) A (call (.ref a) vals) Q E s := by
  obtain ⟨o, pm, doc, ho, hd⟩ := f.at_
  have hk' : ∀ x ∈ binds, S.names.lookup x.1 = some .local ∨ (S.names.lookup x.1 = some .cell ∧ ((cellsFrom (s.heap.objs.size + 1) S.names []).lookup x.1).isSome = true) := fun x hx => by
    have := List.all_eq_true.mp (hkind s.heap.objs.size) x hx
    simp only [Bool.or_eq_true, Bool.and_eq_true, beq_iff_eq] at this
    exact this
  refine wpAny_call (codeAny_call_cells (fd := Calls.docDef nm P B S pm cd doc) r.lt (hz _ _ (hb _ _ ho)) hd (lim.keeps fun b o e => hz _ _ (hb _ _ e)) (f.code.keeps fun b o e => hz _ _ (hb _ _ e)) rfl (hbind pm doc) rfl hk' ?_ hfl.1 hfl.2.1 hfl.2.2)
  intro s₁ x
  refine wpAny_mono (h _ s₁ rfl ⟨Nat.le_refl _, fun y c hc => ?_, rfl, rfl⟩ (enter_frame hfl.2.2 hk' hz hb x) (r.deeper _)) (fun fl s' hq => ?_) fun _ _ e => e.elim
  · exact Nat.le_of_lt (x.above y c (mem_of_lookup hc))
  · cases fl <;> exact hq

noncomputable def notStar : Expr → Bool
  | .Starred _ _ => false
  | _ => true
theorem star1 {e : Expr} {rest : List Expr} (h : notStar e = true) : starEach (e :: rest) env = (false, eval e env) :: starEach rest env := by
  cases e <;> first | rfl | cases h
theorem star0 {e : Expr} (h : notStar e = true) : starEach [e] env = [(false, eval e env)] := star1 h
noncomputable def plainBase : Expr → Bool
  | .Call (.Name _ _) [] [] _ => false
  | _ => true
theorem base1 {o : Expr} {n : Str} {whole : Sem Value} (h : plainBase o = true) : attributeBase o n env whole = whole := by
  unfold attributeBase
  split
  · cases h
  · rfl
/-- a method of one argument on a str -/
theorem meth1 {o e : Expr} {name : Str} {apos pos : Pos} {Q : Value → Shared → Prop} (ok : (plainBase o && notStar e && apos.endLine == pos.line) = true)
    (h : wpAny (model prog w) A (eval o env) (fun ov s₁ => MethodOnS prog w A E name ov pos [(false, eval e env)] Q s₁) E s) :
    wpAny (model prog w) A (eval (.Call (.Attribute o name apos) [e] [] pos) env) Q E s := by
  simp only [Bool.and_eq_true] at ok
  exact Call_method1 (base1 ok.1.1) (star0 ok.1.2) ok.2 h

/-- a call of a def of the text by its name -/
theorem ev_call {fx : Str} {p pos : Pos} {e : Expr} {rest : List Expr} {a : Addr} {nm : Str} {P : Arguments} {B : List Stmt} {S : Scope} {cd : Value} {Q : Value → Shared → Prop} (J : Inn h₀ W z₀ s₀ env ρ z s) (G : Gd h₀ mg mb) (f : FnOk h₀ nm P B S a cd)
    (hg : mg fx = some (.ref a)) (hk : env.kindOf fx = some .globalImplicit) (hd : (fx == ("__debug__" : Str)) = false) (ok : notStar e = true)
    (h : wpAny (model prog w) A (spliced (backTo pos (starEach (e :: rest) env))) (fun vs s₁ => ∃ z₁, Inn h₀ W z₀ s₀ env ρ z₁ s₁ ∧ wpAny (model prog w) A (call (.ref a) vs) Q E s₁) E s) :
    wpAny (model prog w) A (eval (.Call (.Name fx p) (e :: rest) [] pos) env) Q E s := by
  refine Call_ (J.ldG G hg hk ?_ hd)
  obtain ⟨o, pm, doc, ho, hdat⟩ := f.at_
  refine callWith_def hdat (wpAny_mono h (fun vs s₁ h₁ => ?_) fun _ _ e => e) (star1 ok)
  obtain ⟨z₁, J₁, hc⟩ := h₁
  exact ⟨J₁.keep0 _ _ ho, hc⟩
/-- a call of a built-in by its name -/
theorem ev_callB {fx : Str} {p pos : Pos} {e : Expr} {id : String} {Q : Value → Shared → Prop} (J : Inn h₀ W z₀ s₀ env ρ z s) (G : Gd h₀ mg mb)
    (hg : mg fx = none) (hb : mb fx = some (.builtin id)) (hk : env.kindOf fx = some .globalImplicit) (hd : (fx == ("__debug__" : Str)) = false) (ok : notStar e = true)
    (h : wpAny (model prog w) A (eval e env) (fun v s₁ => wpAny (model prog w) A (call (.builtin id) [v]) Q E s₁) E s) :
    wpAny (model prog w) A (eval (.Call (.Name fx p) [e] [] pos) env) Q E s := by
  refine Call_name1 (star0 ok) (J.ldB G hg hb hk (PySem.callWith_builtin1 h) hd)
theorem ev_callT {fx : Str} {p pos : Pos} {e : Expr} {T : String} {Q : Value → Shared → Prop} (J : Inn h₀ W z₀ s₀ env ρ z s) (G : Gd h₀ mg mb)
    (hg : mg fx = none) (hb : mb fx = some (.type T)) (hk : env.kindOf fx = some .globalImplicit) (hd : (fx == ("__debug__" : Str)) = false) (ok : notStar e = true)
    (h : wpAny (model prog w) A (eval e env) (fun v s₁ => wpAny (model prog w) A (call (.type T) [v]) Q E s₁) E s) :
    wpAny (model prog w) A (eval (.Call (.Name fx p) [e] [] pos) env) Q E s := by
  refine Call_name1 (star0 ok) (J.ldB G hg hb hk (PySem.callWith_type1 h) hd)
theorem arg_c {e : Expr} {rest : List Expr} {pos : Pos} {Q : List Value → Shared → Prop} (ok : notStar e = true)
    (h : wpAny (model prog w) A (eval e env) (fun v s₁ => wpAny (model prog w) A (spliced (backTo pos (starEach rest env))) (fun vs s₂ => Q (v :: vs) s₂) E s₁) E s) :
    wpAny (model prog w) A (spliced (backTo pos (starEach (e :: rest) env))) Q E s := args_cons h (star1 ok)
theorem arg_n {pos : Pos} {Q : List Value → Shared → Prop} (h : Q [] s) : wpAny (model prog w) A (spliced (backTo pos (starEach [] env))) Q E s := args_nil h
theorem ev_list {elts : List Expr} {pos : Pos} {Q : Value → Shared → Prop} (h : wpAny (model prog w) A (spliced (backTo pos (starEach elts env))) (fun vs s₁ => wpAny (model prog w) A (newList vs) Q E s₁) E s) :
    wpAny (model prog w) A (eval (.List elts pos) env) Q E s := List_ h
theorem ev_cmp {l r : Expr} {op : CmpOp} {pos : Pos} {Q : Value → Shared → Prop} (hm : behindInMarks op r = false)
    (h : wpAny (model prog w) A (eval l env) (fun a s₁ => wpAny (model prog w) A (eval r env) (fun b s₂ => wpAny (model prog w) A (compareOp op a b) Q E s₂) E s₁) E s) :
    wpAny (model prog w) A (eval (.Compare l [op] [r] pos) env) Q E s := wpAny_Compare1 h hm
theorem test_cmp {l r : Expr} {op : CmpOp} {pos : Pos} {whole : Sem Value} {Q : Bool → Shared → Prop} (hm : behindInMarks op r = false)
    (h : wpAny (model prog w) A (eval l env) (fun a s₁ => wpAny (model prog w) A (eval r env) (fun b s₂ => wpAny (model prog w) A (compareOp op a b) (fun v s₃ => wpAny (model prog w) A (truthy v) Q E s₃) E s₂) E s₁) E s) :
    wpAny (model prog w) A (isTrue (.Compare l [op] [r] pos) env whole) Q E s := wpAny_isTrue_Compare1 h hm

noncomputable def dot : Str := ⟨#[46]⟩
theorem dot_eq : Str.ofString "." = dot := by decide +kernel
theorem le_line {n : Nat} (h : n ≤ 10000) : n ≤ sizeLine := by unfold sizeLine; (first | with_reducible assumption | with_reducible exact Nat.add_le_add_left (by decide) _ | with_reducible exact Nat.le_trans (by assumption) (by decide) | with_reducible exact Nat.sub_succ_lt_self (by assumption) | with_reducible exact Nat.lt_of_lt_of_le (by assumption) (by assumption) | with_reducible exact Nat.le_trans (by assumption) (by assumption) | decide | omega)

theorem split_room {x : Str} (hx : x.length ≤ 1000) : (partsBetween x (occurrences x dot 0 x.length (x.length + 1)) dot.length).length ≤ sizeLine := by
  rw [len_partsBetween]
  have := StrLaws.occ_length_le_len x dot 0 x.length (x.length + 1)
  exact le_line (by (first | with_reducible assumption | with_reducible exact Nat.add_le_add_left (by decide) _ | with_reducible exact Nat.le_trans (by assumption) (by decide) | with_reducible exact Nat.sub_succ_lt_self (by assumption) | with_reducible exact Nat.lt_of_lt_of_le (by assumption) (by assumption) | with_reducible exact Nat.le_trans (by assumption) (by assumption) | decide | omega))
theorem split_len_le {x : Str} (hx : x.length ≤ 1000) : (Txt.split x dot).length ≤ 1001 := by
  have := split_weight x dot (Nat.le_refl 1)
  (first | with_reducible assumption | with_reducible exact Nat.add_le_add_left (by decide) _ | with_reducible exact Nat.le_trans (by assumption) (by decide) | with_reducible exact Nat.sub_succ_lt_self (by assumption) | with_reducible exact Nat.lt_of_lt_of_le (by assumption) (by assumption) | with_reducible exact Nat.le_trans (by assumption) (by assumption) | decide | omega)
theorem weight_take (l : List Str) (n : Nat) : ((l.take n).map (·.length)).sum + (l.take n).length ≤ (l.map (·.length)).sum + l.length := by
  conv => rhs; rw [← List.take_append_drop n l]
  rw [List.map_append, List.sum_append, List.length_append]
  (first | with_reducible assumption | with_reducible exact Nat.add_le_add_left (by decide) _ | with_reducible exact Nat.le_trans (by assumption) (by decide) | with_reducible exact Nat.sub_succ_lt_self (by assumption) | with_reducible exact Nat.lt_of_lt_of_le (by assumption) (by assumption) | with_reducible exact Nat.le_trans (by assumption) (by assumption) | decide | omega)
theorem join_room {x : Str} (hx : x.length ≤ 1000) (n : Nat) : JoinOk dot ((Txt.split x dot).take n) = true := by
  have h1 := split_weight x dot (Nat.le_refl 1)
  have h2 := weight_take (Txt.split x dot) n
  exact joinOk_of_weight (by (first | with_reducible assumption | with_reducible exact Nat.add_le_add_left (by decide) _ | with_reducible exact Nat.le_trans (by assumption) (by decide) | with_reducible exact Nat.sub_succ_lt_self (by assumption) | with_reducible exact Nat.lt_of_lt_of_le (by assumption) (by assumption) | with_reducible exact Nat.le_trans (by assumption) (by assumption) | decide | omega)) (by decide)

/-- '.'.join(name.split('.')[:-1]) -/
noncomputable def upS (x : Str) : Str := Txt.join dot ((Txt.split x dot).take ((Txt.split x dot).length - 1))

end NB90
end
section
set_option autoImplicit false
open PySem PySem.W PyProof.Rows
set_option Elab.async false
set_option maxRecDepth 100000
namespace NB90
variable {h₀ : Heap} {mg mb : Str → Option Value} {W : Addr → Prop} {z₀ z z' z₁ : Fz} {s₀ s s' s₁ : Shared} {env : Env} {ρ : List (Str × Value)} {prog : Program} {w : World} {A : Around} {E : Value → Shared → Prop}

theorem up_spec {n : Nat} {a : Addr} {cd : Value} {x : Str} {t : Tok} {Q : Value → Shared → Prop} (r : Room A (n + 1)) (lim : h₀.NoLimit) (f : FnOk h₀ (Str.ofString "_law_up") pArgsUp.1 pBodyUp.1 pScopeUp.1 a cd)
    (hz : z.In s.heap) (hb : Base h₀ z) (hx : x.length ≤ 1000) (h : ∀ t' z' s', Grow No z s z' s' → Q (.str (upS x) t') s') :
    wpAny (model prog w) A (call (.ref a) [.str x t]) Q E s := by
  refine call_def (binds := [(Str.ofString "name", .str x t)]) r lim f hz hb (fun pm doc => rfl) (fun L => rfl) ⟨rfl, rfl, rfl⟩ fun env s₁ hS hcn J r' => ?_
  simp only [pBodyUp, dot_eq]
  with_reducible refine wpAny_execs_cons (wpAny_Return_some (meth1 ?_ ?_))
  · rfl
  with_reducible refine J.str fun t1 s1 J => ?_
  with_reducible refine J.join (texts := (Txt.split x dot).take ((Txt.split x dot).length - 1)) (join_room hx _) (Cut_ (meth1 ?_ ?_))
  · rfl
  refine J.ld (v := .str x t) rfl (.inl (kind_of hS rfl)) ?_
  refine J.split (y := dot) rfl (le_line (by (first | with_reducible assumption | with_reducible exact Nat.add_le_add_left (by decide) _ | with_reducible exact Nat.le_trans (by assumption) (by decide) | with_reducible exact Nat.sub_succ_lt_self (by assumption) | with_reducible exact Nat.lt_of_lt_of_le (by assumption) (by assumption) | with_reducible exact Nat.le_trans (by assumption) (by assumption) | decide | omega))) (split_room hx) (J.str fun t2 s2 J => ?_)
  refine ⟨t2, z, rfl, J, fun v z3 s3 hle J hr => ?_⟩
  with_reducible refine evalPart_none_step (evalPart_some_step (wpAny_UnaryOp (J.int fun t4 s4 J => neg_int ?_)))
  refine cut_butLast (t := s4.toks) (J.tok _) hr (by have := split_len_le hx; simp only [List.length_map]; exact le_line (by (first | with_reducible assumption | with_reducible exact Nat.add_le_add_left (by decide) _ | with_reducible exact Nat.le_trans (by assumption) (by decide) | with_reducible exact Nat.sub_succ_lt_self (by assumption) | with_reducible exact Nat.lt_of_lt_of_le (by assumption) (by assumption) | with_reducible exact Nat.le_trans (by assumption) (by assumption) | decide | omega))) fun v z5 s5 hle5 J hr5 => ?_
  refine ⟨z5, J, by simpa using hr5, fun t6 s6 J => ?_⟩
  exact h _ _ _ J.grow

end NB90
end
section
set_option autoImplicit false
open PySem PySem.W PyProof.Rows
set_option Elab.async false
namespace NB90
variable {h₀ : Heap} {mg mb : Str → Option Value} {W : Addr → Prop} {z₀ z z' z₁ : Fz} {s₀ s s' s₁ : Shared} {env : Env} {ρ : List (Str × Value)} {prog : Program} {w : World} {A : Around} {E : Value → Shared → Prop}

/-- ints, strs and lists of such, to a depth -/
noncomputable def Ok : Nat → PyData → Prop
  | _, .int _ => True
  | _, .str x => PyData.strOk x = true
  | 0, .list _ => False
  | n + 1, .list ds => ∀ d ∈ ds, Ok n d
  | _, _ => False

theorem Ok.lay : ∀ (n : Nat) (d : PyData), Ok n d → d.canLay0 = true ∧ d.depth ≤ n := by
  have all : ∀ (n : Nat), (∀ d, Ok n d → d.canLay0 = true ∧ d.depth ≤ n) → ∀ ds : List PyData, (∀ d ∈ ds, Ok n d) → PyData.canLayAll0 ds = true ∧ PyData.depthAll ds ≤ n := by
    intro n ih ds
    induction ds with
    | nil => intro _; simp [PyData.canLayAll0, PyData.depthAll]
    | cons d ds hi =>
      intro h
      have q1 := ih d (h d (.head _))
      have q2 := hi fun x hx => h x (.tail _ hx)
      have := q1.2; have := q2.2
      simp only [PyData.canLayAll0, PyData.depthAll, q1.1, q2.1, Bool.and_self, true_and]
      (first | with_reducible assumption | with_reducible exact Nat.add_le_add_left (by decide) _ | with_reducible exact Nat.le_trans (by assumption) (by decide) | with_reducible exact Nat.sub_succ_lt_self (by assumption) | with_reducible exact Nat.lt_of_lt_of_le (by assumption) (by assumption) | with_reducible exact Nat.le_trans (by assumption) (by assumption) | decide | omega)
  intro n
  induction n with
  | zero => intro d h; cases d <;> simp_all [Ok, PyData.canLay0, PyData.depth]
  | succ n ih =>
    intro d h
    cases d with
    | list ds =>
      have q := all n ih ds h
      have := q.2
      simp only [PyData.canLay0, PyData.depth, q.1, true_and]
      (first | with_reducible assumption | with_reducible exact Nat.add_le_add_left (by decide) _ | with_reducible exact Nat.le_trans (by assumption) (by decide) | with_reducible exact Nat.sub_succ_lt_self (by assumption) | with_reducible exact Nat.lt_of_lt_of_le (by assumption) (by assumption) | with_reducible exact Nat.le_trans (by assumption) (by assumption) | decide | omega)
    | _ => simp_all [Ok, PyData.canLay0, PyData.depth]

theorem Ok.eqv : ∀ (n k : Nat) (d e : PyData), Ok n d → Ok k e → (PyData.eqv d e = true ↔ d = e) := by
  have all : ∀ (n : Nat), (∀ k d e, Ok n d → Ok k e → (PyData.eqv d e = true ↔ d = e)) → ∀ (k : Nat) (ds es : List PyData), (∀ d ∈ ds, Ok n d) → (∀ d ∈ es, Ok k d) → (PyData.eqvAll ds es = true ↔ ds = es) := by
    intro n ih k ds
    induction ds with
    | nil => intro es _ _; cases es <;> simp [PyData.eqvAll]
    | cons d ds hi =>
      intro es h1 h2
      cases es with
      | nil => simp [PyData.eqvAll]
      | cons e es =>
        have q1 := ih k d e (h1 d (.head _)) (h2 e (.head _))
        have q2 := hi es (fun x hx => h1 x (.tail _ hx)) fun x hx => h2 x (.tail _ hx)
        simp only [PyData.eqvAll, Bool.and_eq_true, q1, q2, List.cons.injEq]
  intro n
  induction n with
  | zero => intro k d e h1 h2; cases d <;> cases e <;> cases k <;> simp_all [Ok, PyData.eqv]
  | succ n ih =>
    intro k d e h1 h2
    cases d with
    | list ds =>
      cases e with
      | list es =>
        cases k with
        | zero => simp [Ok] at h2
        | succ k => simp only [PyData.eqv, PyData.list.injEq]; exact all n ih k ds es h1 h2
      | _ => cases k <;> simp_all [Ok, PyData.eqv]
    | _ => cases e <;> cases k <;> simp_all [Ok, PyData.eqv]

theorem Ok.shaped {n : Nat} {d : PyData} (hn : n ≤ 8) (h : Ok n d) : SeqAt.shaped d = true := by
  have := Ok.lay n d h
  unfold SeqAt.shaped
  rw [this.1]
  simp only [Bool.true_and, decide_eq_true_eq]
  (first | with_reducible assumption | with_reducible exact Nat.add_le_add_left (by decide) _ | with_reducible exact Nat.le_trans (by assumption) (by decide) | with_reducible exact Nat.sub_succ_lt_self (by assumption) | with_reducible exact Nat.lt_of_lt_of_le (by assumption) (by assumption) | with_reducible exact Nat.le_trans (by assumption) (by assumption) | decide | omega)

open Classical in
theorem eqv_decide {n k : Nat} {d e : PyData} (h1 : Ok n d) (h2 : Ok k e) : PyData.eqv d e = decide (d = e) := by
  by_cases h : d = e
  · rw [decide_eq_true h]; exact (Ok.eqv n k d e h1 h2).mpr h
  · rw [decide_eq_false h]; exact Bool.eq_false_iff.mpr fun x => h ((Ok.eqv n k d e h1 h2).mp x)

theorem cmp_eq {n k m : Nat} {a b : Value} {d e : PyData} {c : Bool} {Q : Value → Shared → Prop} (r : Room A m) (hz : z.In s.heap) (ra : Rd z a d) (rb : Rd z b e) (hd : Ok n d) (he : Ok k e) (hn : n ≤ 8) (hk : k ≤ 8) (hc : c = true ↔ d = e)
    (h : Q (.bool c) s) : wpAny (model prog w) A (compareOp .Eq a b) Q E s := by
  obtain ⟨as, h1⟩ := ra.reads hz
  obtain ⟨bs, h2⟩ := rb.reads hz
  refine SeqAt.compareEq_shaped h1 h2 (hd.shaped hn) (he.shaped hk) r.un ?_
  have : PyData.eqv d e = c := Bool.eq_iff_iff.mpr ((Ok.eqv n k d e hd he).trans hc.symm)
  rw [this]; exact h
theorem cmp_ne {n k m : Nat} {a b : Value} {d e : PyData} {c : Bool} {Q : Value → Shared → Prop} (r : Room A m) (hz : z.In s.heap) (ra : Rd z a d) (rb : Rd z b e) (hd : Ok n d) (he : Ok k e) (hn : n ≤ 8) (hk : k ≤ 8) (hc : c = true ↔ d = e)
    (h : Q (.bool (!c)) s) : wpAny (model prog w) A (compareOp .NotEq a b) Q E s := by
  obtain ⟨as, h1⟩ := ra.reads hz
  obtain ⟨bs, h2⟩ := rb.reads hz
  refine SeqAt.compareNe_shaped h1 h2 (hd.shaped hn) (he.shaped hk) r.un ?_
  have : PyData.eqv d e = c := Bool.eq_iff_iff.mpr ((Ok.eqv n k d e hd he).trans hc.symm)
  rw [this]; exact h

/-- a row: a list of texts -/
noncomputable def row (r : List Str) : PyData := .list (r.map .str)
/-- a text that is short and plain -/
noncomputable def Sn (x : Str) : Prop := x.length ≤ 1000 ∧ ∀ c ∈ x.cps.toList, c < 128
theorem Sn.ok {x : Str} (h : Sn x) : PyData.strOk x = true := by
  unfold PyData.strOk
  rw [Array.all_eq_true_iff_forall_mem]
  intro c hc
  have := h.2 c (Array.mem_toList_iff.mpr hc)
  simp only [decide_eq_true_eq]
  (first | with_reducible assumption | with_reducible exact Nat.add_le_add_left (by decide) _ | with_reducible exact Nat.le_trans (by assumption) (by decide) | with_reducible exact Nat.sub_succ_lt_self (by assumption) | with_reducible exact Nat.lt_of_lt_of_le (by assumption) (by assumption) | with_reducible exact Nat.le_trans (by assumption) (by assumption) | decide | omega)
theorem row_ok {r : List Str} (h : ∀ x ∈ r, Sn x) : Ok 1 (row r) := by
  unfold row Ok
  intro d hd
  obtain ⟨x, hx, rfl⟩ := List.mem_map.mp hd
  simp only [Ok]
  exact (h x hx).ok
theorem map_inj {α β : Type} {f : α → β} (hf : ∀ a b, f a = f b → a = b) : ∀ {xs ys : List α}, xs.map f = ys.map f → xs = ys
  | [], [], _ => rfl
  | [], _ :: _, h => by simp at h
  | _ :: _, [], h => by simp at h
  | x :: xs, y :: ys, h => by
    simp only [List.map_cons, List.cons.injEq] at h
    rw [hf x y h.1, map_inj hf h.2]
theorem row_inj {a b : List Str} (h : row a = row b) : a = b := map_inj (fun _ _ e => by cases e; rfl) (PyData.list.inj h)
theorem row_take (r : List Str) (n : Nat) : PyData.list ((r.map .str).take n) = row (r.take n) := by unfold row; rw [List.map_take]
end NB90
end
section
set_option autoImplicit false
open PySem PySem.W PyProof.Rows
set_option Elab.async false
set_option maxRecDepth 100000
namespace NB90
variable {h₀ : Heap} {mg mb : Str → Option Value} {W : Addr → Prop} {z₀ z z' z₁ : Fz} {s₀ s s' s₁ : Shared} {env : Env} {ρ : List (Str × Value)} {prog : Program} {w : World} {A : Around} {E : Value → Shared → Prop}

noncomputable def RowOk (r : List Str) : Prop := r.length ≤ 1001 ∧ ∀ x ∈ r, Sn x
noncomputable def headsL (rows : List (List Str)) (parts : List Str) : List (List Str) := rows.filter fun r => parts.take r.length == r

theorem heads_spec {n : Nat} {a : Addr} {cd : Value} {rows : List (List Str)} {parts : List Str} {vr vp : Value} {Q : Value → Shared → Prop} (r : Room A (n + 1)) (G : Gd h₀ mg mb) (f : FnOk h₀ (Str.ofString "_law_heads") pArgsHeads.1 pBodyHeads.1 pScopeHeads.1 a cd)
    (hz : z.In s.heap) (hb : Base h₀ z) (hr : Rd z vr (.list (rows.map row))) (hp : Rd z vp (row parts)) (hn : rows.length ≤ 1000) (hrows : ∀ r ∈ rows, RowOk r) (hparts : RowOk parts)
    (h : ∀ v z' s', Grow No z s z' s' → Rd z' v (.list ((headsL rows parts).map row)) → Q v s') :
    wpAny (model prog w) A (call (.ref a) [vr, vp]) Q E s := by
  refine call_def (binds := [(Str.ofString "rows", vr), (Str.ofString "parts", vp)]) r G.lim f hz hb (fun pm doc => rfl) (fun L => rfl) ⟨rfl, rfl, rfl⟩ fun env s₁ hS hcn J r' => ?_
  simp only [pBodyHeads]
  with_reducible refine wpAny_execs_cons (wpAny_Return_some (ev_comp (xs := rows) (enc := row) (p := fun r => parts.take r.length == r) (f := row) (K := fun _ => True) (own := false) r'.hh hS ?cs ?fr (le_line (by (first | with_reducible assumption | with_reducible exact Nat.add_le_add_left (by decide) _ | with_reducible exact Nat.le_trans (by assumption) (by decide) | with_reducible exact Nat.sub_succ_lt_self (by assumption) | with_reducible exact Nat.lt_of_lt_of_le (by assumption) (by assumption) | with_reducible exact Nat.le_trans (by assumption) (by assumption) | decide | omega))) (fun _ _ _ _ => trivial) J ?src ?hs))
  case cs => exact ⟨rfl, fun _ _ => rfl, fun _ => rfl, nofun, fun _ => rfl, by decide⟩
  case fr => rfl
  case hs => intro _; rfl
  refine J.ld (v := vr) rfl (.inl (kind_of hS rfl)) ?_
  refine ⟨z, J, hr, trivial, nofun, fun cenv hC rw hrw v z1 s1 E1 hv hle J1 _ _ => ?_, fun v z' s' hle J hv _ => h v z' s' J.grow hv⟩
  obtain ⟨hrl, hrs⟩ := hrows rw hrw
  have hp1 := hp.mono hle
  with_reducible refine wpAny_tests_one (test_cmp ?_ (Cut_ ?_))
  · rfl
  refine J1.ld (v := vp) rfl (.inr (.inl (kind_of hC rfl))) ?_
  with_reducible refine evalPart_none_step (evalPart_some_step (ev_callB J1 G G.len.1 G.len.2 (kind_of hC ?_) ?_ ?_ ?_))
  · rfl
  · decide
  · rfl
  refine J1.ld (v := v) rfl (.inl (kind_of hC rfl)) ?_
  refine len_list' J1 hv (by simp only [List.length_map]; exact le_line (by (first | with_reducible assumption | with_reducible exact Nat.add_le_add_left (by decide) _ | with_reducible exact Nat.le_trans (by assumption) (by decide) | with_reducible exact Nat.sub_succ_lt_self (by assumption) | with_reducible exact Nat.lt_of_lt_of_le (by assumption) (by assumption) | with_reducible exact Nat.le_trans (by assumption) (by assumption) | decide | omega))) fun t2 s2 J2 => ?_
  refine cut_upto J2 hp1 (by simp only [List.length_map]; exact le_line (by have := hparts.1; (first | with_reducible assumption | with_reducible exact Nat.add_le_add_left (by decide) _ | with_reducible exact Nat.le_trans (by assumption) (by decide) | with_reducible exact Nat.sub_succ_lt_self (by assumption) | with_reducible exact Nat.lt_of_lt_of_le (by assumption) (by assumption) | with_reducible exact Nat.le_trans (by assumption) (by assumption) | decide | omega))) fun v3 z3 s3 hle3 J3 hr3 => ?_
  refine J3.ld (v := v) rfl (.inl (kind_of hC rfl)) ?_
  have hv3 := hv.mono hle3
  simp only [List.length_map] at hr3
  rw [row_take] at hr3
  refine cmp_eq (c := parts.take rw.length == rw) r' J3.inn hr3 hv3 (row_ok fun x hx => hparts.2 x (List.mem_of_mem_take hx)) (row_ok hrs) (by (first | with_reducible assumption | with_reducible exact Nat.add_le_add_left (by decide) _ | with_reducible exact Nat.le_trans (by assumption) (by decide) | with_reducible exact Nat.sub_succ_lt_self (by assumption) | with_reducible exact Nat.lt_of_lt_of_le (by assumption) (by assumption) | with_reducible exact Nat.le_trans (by assumption) (by assumption) | decide | omega)) (by (first | with_reducible assumption | with_reducible exact Nat.add_le_add_left (by decide) _ | with_reducible exact Nat.le_trans (by assumption) (by decide) | with_reducible exact Nat.sub_succ_lt_self (by assumption) | with_reducible exact Nat.lt_of_lt_of_le (by assumption) (by assumption) | with_reducible exact Nat.le_trans (by assumption) (by assumption) | decide | omega)) ?_ ?_
  · rw [beq_iff_eq]; exact ⟨fun e => by rw [e], row_inj⟩
  refine wpAny_truthy_bool ⟨rfl, z3, ?_, trivial, fun hp => ?_⟩
  · exact J3.grow
  · refine J3.ld (v := v) rfl (.inl (kind_of hC rfl)) ⟨z3, Grow.refl J3.inn, hv3, trivial⟩
end NB90
end
section
set_option autoImplicit false
open PySem PySem.W PyProof.Rows
set_option Elab.async false
set_option maxRecDepth 100000
namespace NB90
variable {h₀ : Heap} {mg mb : Str → Option Value} {W : Addr → Prop} {z₀ z z' z₁ : Fz} {s₀ s s' s₁ : Shared} {env : Env} {ρ : List (Str × Value)} {prog : Program} {w : World} {A : Around} {E : Value → Shared → Prop}

/-- over a range from nought by ones -/
theorem Iter.range {I : Addr} (hh : A.handled = none) (G n : Nat) :
    Iter prog w A I G (List.range n).length (fun i z v => ∀ a, (List.range n)[i]? = some a → Rd z v (.int (a : Nat))) (fun i T _ s => T = (· = I) ∧ IsRangeIter s.heap I (i : Nat) ((n : Int) - (i : Nat)) 1) where
  next := fun i T z s Q E hi hz ⟨hT, hit⟩ h => by
    subst hT
    rw [List.length_range] at hi
    refine wpAny_pyNext_range_item hit (by (first | with_reducible assumption | with_reducible exact Nat.add_le_add_left (by decide) _ | with_reducible exact Nat.le_trans (by assumption) (by decide) | with_reducible exact Nat.sub_succ_lt_self (by assumption) | with_reducible exact Nat.lt_of_lt_of_le (by assumption) (by assumption) | with_reducible exact Nat.le_trans (by assumption) (by assumption) | decide | omega)) fun h' hit' hs' => ?_
    refine h _ _ (· = I) (fun a e => ?_) ⟨rfl, ?_⟩ (To.sameBut (tk := s.toks + 1) hs').stp fun a ha => ⟨.inl ha, by rw [ha]; exact Heap.lt_size hit'⟩
    · have : i = a := by simpa [List.getElem?_range hi] using e
      subst this; exact .int _ _
    · have e1 : ((i : Nat) : Int) + 1 = ((i + 1 : Nat) : Int) := by push_cast; rfl
      have e2 : (n : Int) - (i : Nat) - 1 = (n : Int) - ((i + 1 : Nat) : Int) := by push_cast; (first | with_reducible assumption | with_reducible exact Nat.add_le_add_left (by decide) _ | with_reducible exact Nat.le_trans (by assumption) (by decide) | with_reducible exact Nat.sub_succ_lt_self (by assumption) | with_reducible exact Nat.lt_of_lt_of_le (by assumption) (by assumption) | with_reducible exact Nat.le_trans (by assumption) (by assumption) | decide | omega)
      rw [e1, e2] at hit'; exact hit'
  stop := fun T z s Q E hz ⟨hT, hit⟩ h => by
    subst hT
    rw [List.length_range] at hit
    exact with_size (wpAny_pyNext_range_end hh hit (by (first | with_reducible assumption | with_reducible exact Nat.add_le_add_left (by decide) _ | with_reducible exact Nat.le_trans (by assumption) (by decide) | with_reducible exact Nat.sub_succ_lt_self (by assumption) | with_reducible exact Nat.lt_of_lt_of_le (by assumption) (by assumption) | with_reducible exact Nat.le_trans (by assumption) (by assumption) | decide | omega)) fun h' hs' hsz => h _ ⟨fun b o hb e => hs' b o hb e, hsz, rfl, fun _ _ _ e => e, id⟩)
  keep := fun i T z z' s s' ⟨hT, hit⟩ _ hk _ => ⟨hT, hk _ _ (by rw [hT]) hit⟩
  self := fun i T z s Q E hz ⟨_, hit⟩ h => by
    exact wpAny_pyIter_rangeiter hit h

section
variable {α : Type} {xs : List α} {enc : α → PyData} {p : α → Bool} {f : α → PyData} {elt iter : Expr} {x : Str} {px : Pos} {ifs : List Expr} {S scope : Scope} {own : Bool} {pos : Pos} {K : Heap → Prop}
/-- «y = [..]» over any iterator -/
theorem assign_compI {Q : Flow → Shared → Prop} {y : Str} {py spos : Pos} (hS : env.scope = S) (cs : CompScope scope x own) (hfree : freeOk scope S ρ = true) (hlen : xs.length ≤ sizeLine)
    (hsw : (!S.kind.isAnnotationScope && S.kind == .function && S.names.lookup y == some .local && py.line == pos.line && !(scope.names.any fun (n, k) => n == y && (k == .local || k == .cell))) = true)
    (hK : ∀ h h' : Heap, (∀ a o, W a → h.get? a = some o → h'.get? a = some o) → K h → K h') (J : Inn h₀ W z₀ s₀ env ρ z s) (hL : s₀.heap.objs.size ≤ env.locals) (hW : ∀ a, W a → a < s.heap.objs.size ∧ ∀ o, ¬ z a o)
    (h : wpAny (model prog w) A (eval iter env) (fun xv s₁ => wpAny (model prog w) A (pyIter xv) (fun it s₂ => ∃ I T G St, it = .ref I ∧ To No s s₂ ∧ Iter prog w A I G xs.length (fun i z v => ∀ a, xs[i]? = some a → Rd z v (enc a)) St ∧ St 0 T z s₂ ∧
      (∀ a, T a → s.heap.objs.size ≤ a ∧ a < s₂.heap.objs.size) ∧ s.gens.size ≤ G ∧ K s₂.heap) E s₁) E s)
    (turn : ∀ cenv : Env, cenv.scope = reS scope S → ∀ a ∈ xs, Turn h₀ W z cenv (frees scope ρ) prog w A x ifs elt K enc p f a)
    (fin : ∀ v z' s', z.le z' → Inn h₀ W z₀ s₀ env ((y, v) :: ρ) z' s' → Rd z' v (.list ((xs.filter p).map f)) → K s'.heap → Q .next s')
    (hs : ∀ x, foldedSetIterable iter env x = pure x) :
    wpAny (model prog w) A (exec (.Assign [.Name y py] (.ListComp elt [⟨.Name x px, iter, ifs, 0⟩] scope pos) spos) env) Q E s := by
  rw [exec_Assign_Name_used _ _ _ _ (swaps_true hS hsw)]
  have hy : env.kindOf y = some .local := by
    simp only [Bool.and_eq_true, Bool.not_eq_true', beq_iff_eq] at hsw
    exact kind_of hS hsw.1.1.2
  refine wpAny_bind (wpAny_standAt (wpAny_bind ?_))
  show wpAny _ A (do let _ ← comprehension (.ListComp elt [⟨.Name x px, iter, ifs, 0⟩] scope pos) scope env _ (newList []) false (eval iter env) (some (assign (.Name y py) env))) _ _ s
  obtain ⟨cl, hclos, hcl1, hcl2⟩ := closure_at J hS hfree
  refine wpAny_bind (wpAny_mono (wpAny_comprehension_free (use := some (assign (.Name y py) env)) (Q := fun _ s' => Q .next s') rfl hs hclos cs.kind cs.names
    (wpAny_mono h (fun xv s₁ h₁ => wpAny_mono h₁ (fun it s₂ h₂ => ?_) fun _ _ e => e) fun _ _ e => e)) (fun _ s' hq => wpAny_pure (wpAny_pure hq)) fun _ _ e => e)
  obtain ⟨I, T, G, St, rfl, t2, It, hst, hT, hG, hKs⟩ := h₂
  refine comp_run (R := fun acc C => compPost (model prog w) A E (some (assign (.Name y py) env)) (fun _ s' => Q .next s') acc C) J hS cs hW hcl1 hcl2 (freeOk.all hfree) t2 It hlen hst hT hG hK hKs turn ?_
  intro D C z' s' hC hns g hz hr hK'
  obtain ⟨m, hm⟩ := hns
  show wpAny _ A (assign (.Name y py) env (.ref D)) _ _ _
  have J' := J.up g
  have hLlt : env.locals < s.heap.objs.size := let ⟨_, hn, _⟩ := J.frame.ns; hn.lt
  have hCL : C ≠ env.locals := fun e => gap hLlt hC (by rw [e]; exact Nat.le_refl _)
  refine wpAny_assign_Name (J'.st hL hy fun s2 J2 t2' => ?_)
  refine ⟨m, hm.at' (fun o e => t2'.keep C o hCL e), fun h' hs' => ?_⟩
  have hKs2 : K s2.heap := hK _ _ (fun a o hw e => t2'.keep a o (fun e => J.apart.1 (e ▸ hw)) e) hK'
  have hK2 : K h' := hK _ _ (fun a o hw e => hs'.extBut a o (fun e => gap (hW a hw).1 hC (by rw [e]; exact Nat.le_refl _)) e) hKs2
  have hCA : Apart (· = C) env := ⟨fun h => hCL h.symm, fun n c hc h => by
    have h' : c = C := h
    obtain ⟨⟨_, hv⟩, _⟩ := J.frame.cz n c hc
    exact gap hv.lt hC (by rw [h']; exact Nat.le_refl _)⟩
  exact fin _ z' _ g.le (J2.step (T := (· = C)) (G := s₀.gens.size) (fun a ha => ha ▸ Nat.le_trans J.grow.size hC) (Nat.le_refl _) (fun a o ha => ha ▸ hz o) hCA (To.sameBut (tk := s2.toks) hs').stp) hr hK2

/-- the range as a source -/
theorem range_src {n : Nat} {t : Tok} (hh : A.handled = none) (hn : n ≤ 100000) (J : Inn h₀ No z s₀ env ρ z s) :
    wpAny (model prog w) A (call (.type "range") [.int n t]) (fun xv s₁ => wpAny (model prog w) A (pyIter xv) (fun it s₂ => ∃ I T G St, it = .ref I ∧ To No s₀ s₂ ∧ Iter prog w A I G (List.range n).length (fun i z v => ∀ a, (List.range n)[i]? = some a → Rd z v (.int (a : Nat))) St ∧ St 0 T z s₂ ∧
      (∀ a, T a → s₀.heap.objs.size ≤ a ∧ a < s₂.heap.objs.size) ∧ s₀.gens.size ≤ G ∧ True) E s₁) E s := by
  refine call_range_1 (wpAny_pyIter_range (IsRange.new _ _ _ _ _ _ _) (small_one (by (first | with_reducible assumption | with_reducible exact Nat.add_le_add_left (by decide) _ | with_reducible exact Nat.le_trans (by assumption) (by decide) | with_reducible exact Nat.sub_succ_lt_self (by assumption) | with_reducible exact Nat.lt_of_lt_of_le (by assumption) (by assumption) | with_reducible exact Nat.le_trans (by assumption) (by assumption) | decide | omega)) (by (first | with_reducible assumption | with_reducible exact Nat.add_le_add_left (by decide) _ | with_reducible exact Nat.le_trans (by assumption) (by decide) | with_reducible exact Nat.sub_succ_lt_self (by assumption) | with_reducible exact Nat.lt_of_lt_of_le (by assumption) (by assumption) | with_reducible exact Nat.le_trans (by assumption) (by assumption) | decide | omega)) (by (first | with_reducible assumption | with_reducible exact Nat.add_le_add_left (by decide) _ | with_reducible exact Nat.le_trans (by assumption) (by decide) | with_reducible exact Nat.sub_succ_lt_self (by assumption) | with_reducible exact Nat.lt_of_lt_of_le (by assumption) (by assumption) | with_reducible exact Nat.le_trans (by assumption) (by assumption) | decide | omega)) (by (first | with_reducible assumption | with_reducible exact Nat.add_le_add_left (by decide) _ | with_reducible exact Nat.le_trans (by assumption) (by decide) | with_reducible exact Nat.sub_succ_lt_self (by assumption) | with_reducible exact Nat.lt_of_lt_of_le (by assumption) (by assumption) | with_reducible exact Nat.le_trans (by assumption) (by assumption) | decide | omega))) ?_)
  have t1 : To No s₀ s := J.grow.toTo
  refine ⟨_, _, s₀.gens.size, _, rfl, (t1.trans (To.pushTok No s _ _)).trans (To.push No _ _), Iter.range hh _ n, ⟨rfl, ?_⟩, fun a ha => ⟨ha ▸ ?_, by rw [ha]; simp⟩, Nat.le_refl _, trivial⟩
  · have e : Builtin.Range.rangeSize 0 (n : Int) 1 = (n : Int) - ((0 : Nat) : Int) := by rw [rangeSize_one]; split <;> (first | with_reducible assumption | with_reducible exact Nat.add_le_add_left (by decide) _ | with_reducible exact Nat.le_trans (by assumption) (by decide) | with_reducible exact Nat.sub_succ_lt_self (by assumption) | with_reducible exact Nat.lt_of_lt_of_le (by assumption) (by assumption) | with_reducible exact Nat.le_trans (by assumption) (by assumption) | decide | omega)
    rw [e]; exact Heap.get?_push_size _ rfl
  · show s₀.heap.objs.size ≤ (s.heap.push _).objs.size
    rw [Heap.size_push]; exact Nat.le_succ_of_le t1.size
end

theorem no_lt {n : Nat} : ∀ a, No a → a < n ∧ ∀ o, ¬ z a o := fun _ h => h.elim
noncomputable def menuL : List Str := [Str.ofString "a", Str.ofString "b", Str.ofString "ab", Str.ofString ""]
noncomputable def tagL : List Str := [Str.ofString "  ", Str.ofString "- ", Str.ofString "+ ", Str.ofString "? "]
noncomputable def pickS (l : List Str) (i : Int) : Str := l.getD i.toNat Str.empty
noncomputable def partsL (x : Int) : List Str := (List.range (1 + (x.fdiv 4).fmod 3).toNat).map fun k => pickS menuL (((x.fdiv 12).fdiv (4 ^ k)).fmod 4)
noncomputable def lineS (x : Int) : Str := pickS tagL (x.fmod 4) ++ Txt.join dot (partsL x)

theorem pick_get {l : List Str} {i : Int} (h : i.toNat < l.length) : (l.map PyData.str)[i.toNat]? = some (.str (pickS l i)) := by
  unfold pickS
  rw [List.getElem?_map, List.getD_eq_getElem?_getD, List.getElem?_eq_getElem h]; rfl
theorem fmod_bd (x : Int) {m : Int} (hm : 0 < m) : 0 ≤ x.fmod m ∧ x.fmod m < m := ⟨Int.fmod_nonneg_of_pos x hm, Int.fmod_lt_of_pos x hm⟩
theorem partsL_len (x : Int) : (partsL x).length ≤ 3 := by
  unfold partsL
  rw [List.length_map, List.length_range]
  have := fmod_bd (x.fdiv 4) (show (0 : Int) < 3 by decide)
  (first | with_reducible assumption | with_reducible exact Nat.add_le_add_left (by decide) _ | with_reducible exact Nat.le_trans (by assumption) (by decide) | with_reducible exact Nat.sub_succ_lt_self (by assumption) | with_reducible exact Nat.lt_of_lt_of_le (by assumption) (by assumption) | with_reducible exact Nat.le_trans (by assumption) (by assumption) | decide | omega)
theorem pickS_mem {l : List Str} {i : Int} (h : i.toNat < l.length) : pickS l i ∈ l := by
  unfold pickS
  rw [List.getD_eq_getElem?_getD, List.getElem?_eq_getElem h]; exact List.getElem_mem h
theorem partsL_mem (x : Int) : ∀ p ∈ partsL x, p ∈ menuL := by
  intro p hp
  obtain ⟨k, _, rfl⟩ := List.mem_map.mp hp
  refine pickS_mem ?_
  have := fmod_bd ((x.fdiv 12).fdiv (4 ^ k)) (show (0 : Int) < 4 by decide)
  show _ < 4
  (first | with_reducible assumption | with_reducible exact Nat.add_le_add_left (by decide) _ | with_reducible exact Nat.le_trans (by assumption) (by decide) | with_reducible exact Nat.sub_succ_lt_self (by assumption) | with_reducible exact Nat.lt_of_lt_of_le (by assumption) (by assumption) | with_reducible exact Nat.le_trans (by assumption) (by assumption) | decide | omega)
theorem menu_short : ∀ p ∈ menuL, p.length ≤ 2 := by decide
theorem tag_short : ∀ p ∈ tagL, p.length = 2 := by decide
theorem sum_le {l : List Str} {n : Nat} (h : ∀ p ∈ l, p.length ≤ n) : (l.map (·.length)).sum ≤ l.length * n := by
  induction l with
  | nil => simp
  | cons a l ih =>
    have h1 := h a (.head _)
    have h2 := ih fun p hp => h p (.tail _ hp)
    simp only [List.map_cons, List.sum_cons, List.length_cons, Nat.add_mul]
    (first | with_reducible assumption | with_reducible exact Nat.add_le_add_left (by decide) _ | with_reducible exact Nat.le_trans (by assumption) (by decide) | with_reducible exact Nat.sub_succ_lt_self (by assumption) | with_reducible exact Nat.lt_of_lt_of_le (by assumption) (by assumption) | with_reducible exact Nat.le_trans (by assumption) (by assumption) | decide | omega)
theorem parts_room (x : Int) : JoinOk dot (partsL x) = true := by
  have h1 := sum_le fun p hp => menu_short p (partsL_mem x p hp)
  have h2 := partsL_len x
  exact joinOk_of_weight (by (first | with_reducible assumption | with_reducible exact Nat.add_le_add_left (by decide) _ | with_reducible exact Nat.le_trans (by assumption) (by decide) | with_reducible exact Nat.sub_succ_lt_self (by assumption) | with_reducible exact Nat.lt_of_lt_of_le (by assumption) (by assumption) | with_reducible exact Nat.le_trans (by assumption) (by assumption) | decide | omega)) (by decide)
theorem join_len (x : Int) : (Txt.join dot (partsL x)).length ≤ 1000 := by
  have h1 := sum_le fun p hp => menu_short p (partsL_mem x p hp)
  have h2 := partsL_len x
  have h3 : (Str.join dot (partsL x)).length ≤ _ := StrLaws.join_length_le dot (partsL x)
  have e : Txt.join dot (partsL x) = Str.join dot (partsL x) := StrLaws.glued_eq_join _ _
  rw [e]
  have : dot.length = 1 := rfl
  rw [this] at h3
  (first | with_reducible assumption | with_reducible exact Nat.add_le_add_left (by decide) _ | with_reducible exact Nat.le_trans (by assumption) (by decide) | with_reducible exact Nat.sub_succ_lt_self (by assumption) | with_reducible exact Nat.lt_of_lt_of_le (by assumption) (by assumption) | with_reducible exact Nat.le_trans (by assumption) (by assumption) | decide | omega)

theorem line_spec {n : Nat} {a : Addr} {cd : Value} {x : Int} {t : Tok} {Q : Value → Shared → Prop} (r : Room A (n + 1)) (G : Gd h₀ mg mb) (f : FnOk h₀ (Str.ofString "_law_line") pArgsLine.1 pBodyLine.1 pScopeLine.1 a cd)
    (hz : z.In s.heap) (hb : Base h₀ z) (h : ∀ t' z' s', Grow No z s z' s' → Q (.str (lineS x) t') s') :
    wpAny (model prog w) A (call (.ref a) [.int x t]) Q E s := by
  refine call_def (binds := [(Str.ofString "x", .int x t)]) r G.lim f hz hb (fun pm doc => rfl) (fun L => rfl) ⟨rfl, rfl, rfl⟩ fun env s₁ hS hcn J r' => ?_
  simp only [pBodyLine, dot_eq]
  have hm3 := fmod_bd (x.fdiv 4) (show (0 : Int) < 3 by decide)
  have hnn : (1 + (x.fdiv 4).fmod 3) = (((1 + (x.fdiv 4).fmod 3).toNat : Nat) : Int) := by (first | with_reducible assumption | with_reducible exact Nat.add_le_add_left (by decide) _ | with_reducible exact Nat.le_trans (by assumption) (by decide) | with_reducible exact Nat.sub_succ_lt_self (by assumption) | with_reducible exact Nat.lt_of_lt_of_le (by assumption) (by assumption) | with_reducible exact Nat.le_trans (by assumption) (by assumption) | decide | omega)
  with_reducible refine wpAny_execs_cons (assign_compI (xs := List.range (1 + (x.fdiv 4).fmod 3).toNat) (enc := fun k => .int (k : Nat)) (p := fun _ => true) (f := fun k => .str (pickS menuL (((x.fdiv 12).fdiv (4 ^ k)).fmod 4))) (K := fun _ => True) (own := false)
    hS ?cs ?fr ?len ?sw (fun _ _ _ _ => trivial) J hcn.1 no_lt ?src ?turn ?fin ?hs)
  case cs => exact ⟨rfl, fun _ _ => rfl, fun _ => rfl, nofun, fun _ => rfl, by decide⟩
  case fr => rfl
  case len => rw [List.length_range]; exact le_line (by (first | with_reducible assumption | with_reducible exact Nat.add_le_add_left (by decide) _ | with_reducible exact Nat.le_trans (by assumption) (by decide) | with_reducible exact Nat.sub_succ_lt_self (by assumption) | with_reducible exact Nat.lt_of_lt_of_le (by assumption) (by assumption) | with_reducible exact Nat.le_trans (by assumption) (by assumption) | decide | omega))
  case sw => rfl
  case hs => intro _; rfl
  case src =>
    have J0 := J.here
    with_reducible refine ev_callT J0 G G.range.1 G.range.2 (kind_of hS ?_) ?_ ?_ (wpAny_BinOp (J0.int fun t1 s1 J1 => wpAny_BinOp (wpAny_BinOp ?_)))
    · rfl
    · decide
    · rfl
    refine J1.ld (v := .int x t) rfl (.inr (.inl (kind_of hS rfl))) (J1.int fun t2 s2 J2 => ?_)
    refine floordiv_int (by decide) (J2.tok _ |>.int fun t3 s3 J3 => mod_int' (by decide) (J3.tok _ |>.addInt fun t4 s4 J4 => ?_)) (Or.inl (PyProof.noPylong_of_log2 (by decide +kernel)))
    rw [hnn]
    exact range_src r'.hh (by (first | with_reducible assumption | with_reducible exact Nat.add_le_add_left (by decide) _ | with_reducible exact Nat.le_trans (by assumption) (by decide) | with_reducible exact Nat.sub_succ_lt_self (by assumption) | with_reducible exact Nat.lt_of_lt_of_le (by assumption) (by assumption) | with_reducible exact Nat.le_trans (by assumption) (by assumption) | decide | omega)) J4
  case turn =>
    intro cenv hC k hk v z1 s1 E1 hv hle J1 _ _
    obtain ⟨tk, rfl⟩ := hv.isInt
    rw [List.mem_range] at hk
    refine wpAny_tests_nil ⟨rfl, z1, Grow.refl J1.inn, trivial, fun _ => ?_⟩
    with_reducible refine Subscript_ (ev_list (arg_c ?_ (J1.str fun t2 s2 J2 => arg_c ?_ (J2.str fun t3 s3 J3 => arg_c ?_ (J3.str fun t4 s4 J4 => arg_c ?_ (J4.str fun t5 s5 J5 => arg_n ?_))))))
    · rfl
    · rfl
    · rfl
    · rfl
    refine J5.newList (ds := menuL.map .str) (.cons (.str _ _) (.cons (.str _ _) (.cons (.str _ _) (.cons (.str _ _) (.nil _))))) (le_line (by show 4 ≤ 10000; (first | with_reducible assumption | with_reducible exact Nat.add_le_add_left (by decide) _ | with_reducible exact Nat.le_trans (by assumption) (by decide) | with_reducible exact Nat.sub_succ_lt_self (by assumption) | with_reducible exact Nat.lt_of_lt_of_le (by assumption) (by assumption) | with_reducible exact Nat.le_trans (by assumption) (by assumption) | decide | omega))) fun vl z6 s6 hle6 J6 hr6 => ?_
    with_reducible refine wpAny_BinOp (wpAny_BinOp (wpAny_BinOp ?_))
    refine J6.ld (v := .int x t) rfl (.inr (.inl (kind_of hC rfl))) (J6.int fun t7 s7 J7 => ?_)
    refine floordiv_int (by decide) ?_ (Or.inl (PyProof.noPylong_of_log2 (by decide +kernel)))
    with_reducible refine wpAny_BinOp ((J7.tok _).int fun t8 s8 J8 => ?_)
    refine J8.ld (v := .int k tk) rfl (.inl (kind_of hC rfl)) ?_
    have hk2 : k ≤ 2 := by (first | with_reducible assumption | with_reducible exact Nat.add_le_add_left (by decide) _ | with_reducible exact Nat.le_trans (by assumption) (by decide) | with_reducible exact Nat.sub_succ_lt_self (by assumption) | with_reducible exact Nat.lt_of_lt_of_le (by assumption) (by assumption) | with_reducible exact Nat.le_trans (by assumption) (by assumption) | decide | omega)
    refine pow_int_small (by (first | with_reducible assumption | with_reducible exact Nat.add_le_add_left (by decide) _ | with_reducible exact Nat.le_trans (by assumption) (by decide) | with_reducible exact Nat.sub_succ_lt_self (by assumption) | with_reducible exact Nat.lt_of_lt_of_le (by assumption) (by assumption) | with_reducible exact Nat.le_trans (by assumption) (by assumption) | decide | omega)) (by (first | with_reducible assumption | with_reducible exact Nat.add_le_add_left (by decide) _ | with_reducible exact Nat.le_trans (by assumption) (by decide) | with_reducible exact Nat.sub_succ_lt_self (by assumption) | with_reducible exact Nat.lt_of_lt_of_le (by assumption) (by assumption) | with_reducible exact Nat.le_trans (by assumption) (by assumption) | decide | omega)) (by decide) ?_
    have h4 : (4 : Int) ^ (k : Int).toNat = 4 ^ k := by rw [Int.toNat_natCast]
    rw [h4]
    have hpos : (4 : Int) ^ k ≠ 0 := by
      have : k = 0 ∨ k = 1 ∨ k = 2 := by (first | with_reducible assumption | with_reducible exact Nat.add_le_add_left (by decide) _ | with_reducible exact Nat.le_trans (by assumption) (by decide) | with_reducible exact Nat.sub_succ_lt_self (by assumption) | with_reducible exact Nat.lt_of_lt_of_le (by assumption) (by assumption) | with_reducible exact Nat.le_trans (by assumption) (by assumption) | decide | omega)
      rcases this with rfl | rfl | rfl <;> decide
    have hlog : ((4 : Int) ^ k).natAbs.log2 < 9000 := by
      have : k = 0 ∨ k = 1 ∨ k = 2 := by (first | with_reducible assumption | with_reducible exact Nat.add_le_add_left (by decide) _ | with_reducible exact Nat.le_trans (by assumption) (by decide) | with_reducible exact Nat.sub_succ_lt_self (by assumption) | with_reducible exact Nat.lt_of_lt_of_le (by assumption) (by assumption) | with_reducible exact Nat.le_trans (by assumption) (by assumption) | decide | omega)
      rcases this with rfl | rfl | rfl <;> decide +kernel
    refine floordiv_int hpos ?_ (Or.inl (PyProof.noPylong_of_log2 hlog))
    refine ((J8.tok _).tok _).int fun t9 s9 J9 => mod_int' (by decide) ?_
    have hb4 := fmod_bd ((x.fdiv 12).fdiv (4 ^ k)) (show (0 : Int) < 4 by decide)
    refine tail_list (J9.tok _).inn hr6 hb4.1 (by (first | with_reducible assumption | with_reducible exact Nat.add_le_add_left (by decide) _ | with_reducible exact Nat.le_trans (by assumption) (by decide) | with_reducible exact Nat.sub_succ_lt_self (by assumption) | with_reducible exact Nat.lt_of_lt_of_le (by assumption) (by assumption) | with_reducible exact Nat.le_trans (by assumption) (by assumption) | decide | omega)) (pick_get (by show _ < 4; (first | with_reducible assumption | with_reducible exact Nat.add_le_add_left (by decide) _ | with_reducible exact Nat.le_trans (by assumption) (by decide) | with_reducible exact Nat.sub_succ_lt_self (by assumption) | with_reducible exact Nat.lt_of_lt_of_le (by assumption) (by assumption) | with_reducible exact Nat.le_trans (by assumption) (by assumption) | decide | omega))) fun v hv => ?_
    exact ⟨z6, (J9.tok _).grow, hv, trivial⟩
  case fin =>
    intro v z1 s1 hle1 J1 hr1 _
    have e : ((List.range (1 + (x.fdiv 4).fmod 3).toNat).filter (fun _ => true)).map (fun k => PyData.str (pickS menuL (((x.fdiv 12).fdiv (4 ^ k)).fmod 4))) = (partsL x).map .str := by
      unfold partsL; rw [List.map_map, List.filter_eq_self.mpr (fun _ _ => rfl)]; rfl
    rw [e] at hr1
    with_reducible refine wpAny_execs_cons (wpAny_Return_some (wpAny_BinOp (Subscript_ (ev_list (arg_c ?_ (J1.str fun t2 s2 J2 => arg_c ?_ (J2.str fun t3 s3 J3 => arg_c ?_ (J3.str fun t4 s4 J4 => arg_c ?_ (J4.str fun t5 s5 J5 => arg_n ?_)))))))))
    · rfl
    · rfl
    · rfl
    · rfl
    refine J5.newList (ds := tagL.map .str) (.cons (.str _ _) (.cons (.str _ _) (.cons (.str _ _) (.cons (.str _ _) (.nil _))))) (le_line (by show 4 ≤ 10000; (first | with_reducible assumption | with_reducible exact Nat.add_le_add_left (by decide) _ | with_reducible exact Nat.le_trans (by assumption) (by decide) | with_reducible exact Nat.sub_succ_lt_self (by assumption) | with_reducible exact Nat.lt_of_lt_of_le (by assumption) (by assumption) | with_reducible exact Nat.le_trans (by assumption) (by assumption) | decide | omega))) fun vl z6 s6 hle6 J6 hr6 => ?_
    with_reducible refine wpAny_BinOp ?_
    refine J6.ld (v := .int x t) rfl (.inr (.inl (kind_of hS rfl))) (J6.int fun t7 s7 J7 => mod_int' (by decide) ?_)
    have hb4 := fmod_bd x (show (0 : Int) < 4 by decide)
    refine tail_list (J7.tok _).inn hr6 hb4.1 (by (first | with_reducible assumption | with_reducible exact Nat.add_le_add_left (by decide) _ | with_reducible exact Nat.le_trans (by assumption) (by decide) | with_reducible exact Nat.sub_succ_lt_self (by assumption) | with_reducible exact Nat.lt_of_lt_of_le (by assumption) (by assumption) | with_reducible exact Nat.le_trans (by assumption) (by assumption) | decide | omega)) (pick_get (by show _ < 4; (first | with_reducible assumption | with_reducible exact Nat.add_le_add_left (by decide) _ | with_reducible exact Nat.le_trans (by assumption) (by decide) | with_reducible exact Nat.sub_succ_lt_self (by assumption) | with_reducible exact Nat.lt_of_lt_of_le (by assumption) (by assumption) | with_reducible exact Nat.le_trans (by assumption) (by assumption) | decide | omega))) fun v hv => ?_
    obtain ⟨tt, rfl⟩ := hv.isStr
    have J8 := J7.tok (s7.toks + 1)
    with_reducible refine meth1 ?_ (J8.str fun t9 s9 J9 => ?_)
    · rfl
    refine J9.join (texts := partsL x) (parts_room x) (J9.ld rfl (.inl (kind_of hS rfl)) ⟨z6, J9, hr1.mono hle6, fun t10 s10 J10 => ?_⟩)
    refine J10.addStr ?_ fun t11 s11 J11 => h _ _ _ J11.grow
    have h1 := join_len x
    have h2 := tag_short _ (pickS_mem (l := tagL) (i := x.fmod 4) (by show _ < 4; (first | with_reducible assumption | with_reducible exact Nat.add_le_add_left (by decide) _ | with_reducible exact Nat.le_trans (by assumption) (by decide) | with_reducible exact Nat.sub_succ_lt_self (by assumption) | with_reducible exact Nat.lt_of_lt_of_le (by assumption) (by assumption) | with_reducible exact Nat.le_trans (by assumption) (by assumption) | decide | omega)))
    rw [h2]
    exact le_line (by (first | with_reducible assumption | with_reducible exact Nat.add_le_add_left (by decide) _ | with_reducible exact Nat.le_trans (by assumption) (by decide) | with_reducible exact Nat.sub_succ_lt_self (by assumption) | with_reducible exact Nat.lt_of_lt_of_le (by assumption) (by assumption) | with_reducible exact Nat.le_trans (by assumption) (by assumption) | decide | omega))
end NB90
end
section
set_option autoImplicit false
open PySem PySem.W PyProof.Rows
set_option Elab.async false
set_option maxRecDepth 100000
namespace NB90
variable {h₀ : Heap} {mg mb : Str → Option Value} {W : Addr → Prop} {z₀ z z' z₁ : Fz} {s₀ s s' s₁ : Shared} {env : Env} {ρ : List (Str × Value)} {prog : Program} {w : World} {A : Around} {E : Value → Shared → Prop}

noncomputable def isComp : Expr → Bool
  | .ListComp _ _ _ _ => true
  | .SetComp _ _ _ _ => true
  | .DictComp _ _ _ _ _ => true
  | _ => false
theorem swaps_false {value : Expr} {t : Option Expr} {n : Nat} (h : isComp value = false) : swapsWith value t n env = pure false := by
  cases value <;> first | rfl | cases h
theorem swaps_cell {S : Scope} {elt : Expr} {gens : List Comprehension} {sc : Scope} {vpos tpos : Pos} {t : Str} {n : Nat} (hS : env.scope = S) (h : (S.names.lookup t == some .local) = false) :
    swapsWith (.ListComp elt gens sc vpos) (some (.Name t tpos)) n env = pure false := by
  show (pure (env.blockKind == .function && env.kindOf t == some .local && tpos.line == vpos.line && !(sc.names.any fun (n, k) => n == t && (k == .local || k == .cell))) : Sem Bool) = pure false
  unfold Env.kindOf
  rw [hS, h]; simp
theorem asg {x : Str} {p' pos : Pos} {value : Expr} {Q : Flow → Shared → Prop} (ok : isComp value = false)
    (h : wpAny (model prog w) A (eval value env) (fun v s₁ => wpAny (model prog w) A (storeName env x v) (fun _ => Q .next) E s₁) E s) :
    wpAny (model prog w) A (exec (.Assign [.Name x p'] value pos) env) Q E s := wpAny_Assign_Name h (swaps_false ok)
theorem asgC {S : Scope} {x : Str} {p' pos vpos : Pos} {elt : Expr} {gens : List Comprehension} {sc : Scope} {Q : Flow → Shared → Prop} (hS : env.scope = S) (ok : (S.names.lookup x == some .local) = false)
    (h : wpAny (model prog w) A (eval (.ListComp elt gens sc vpos) env) (fun v s₁ => wpAny (model prog w) A (storeName env x v) (fun _ => Q .next) E s₁) E s) :
    wpAny (model prog w) A (exec (.Assign [.Name x p'] (.ListComp elt gens sc vpos) pos) env) Q E s := wpAny_Assign_Name h (swaps_cell hS ok)
theorem exprStmt {S : Scope} {e : Expr} {pos : Pos} {Q : Flow → Shared → Prop} (hS : env.scope = S) (hk : S.kind = .function) (ok : isComp e = false)
    (h : wpAny (model prog w) A (eval e env) (fun v s' => match v with | .ref _ => False | _ => Q .next s') E s) : wpAny (model prog w) A (exec (.Expr e pos) env) Q E s :=
  wpAny_Expr h (by unfold interactive; rw [hS, hk]; rfl) (swaps_false ok)

theorem reads_strs {h : Heap} {l : Addr} {vs : List Value} {xs : List Str} (hl : h.IsList l vs.toArray) (ha : RdAll z vs (xs.map .str)) : ∃ as, Reads h (.ref l) (.list (xs.map .str)) as := by
  obtain ⟨o, ho, hc, n, hd⟩ := hl
  obtain ⟨as, h'⟩ := readsAll_of (z := z) (h := h) ha.1 (fun i v d hv hdd => by
    have hr := ha.2 i v d hv hdd
    rw [List.getElem?_map, Option.map_eq_some_iff] at hdd
    obtain ⟨x, _, rfl⟩ := hdd
    obtain ⟨t, rfl⟩ := hr.isStr
    exact ⟨_, .str _ _⟩)
  exact ⟨_, .list ho hc hd (by simpa using h')⟩
theorem layAll_strs : ∀ {xs : List Str}, (∀ x ∈ xs, Sn x) → PyData.canLayAll0 (xs.map .str) = true ∧ PyData.depthAll (xs.map .str) = 0
  | [], _ => ⟨rfl, rfl⟩
  | x :: xs, h => by
    obtain ⟨h1, h2⟩ := layAll_strs fun y hy => h y (.tail _ hy)
    simp only [List.map_cons, PyData.canLayAll0, PyData.canLay0, PyData.depthAll, PyData.depth, h1, h2, (h x (.head _)).ok, Bool.and_self, Nat.max_self, and_self]
theorem any_strs {xs : List Str} {x : Str} : ((xs.map PyData.str).any fun y => PyData.eqv y (.str x)) = decide (x ∈ xs) := by
  induction xs with
  | nil => rfl
  | cons y xs ih =>
    rw [List.map_cons, List.any_cons, ih]
    simp only [PyData.eqv, List.mem_cons]
    by_cases h : x = y
    · subst h; simp
    · have : (y == x) = false := beq_eq_false_iff_ne.mpr (Ne.symm h)
      simp [this, h]
theorem in_strs {m : Nat} {l : Addr} {vs : List Value} {xs : List Str} {x : Str} {t : Tok} {Q : Value → Shared → Prop} (r : Room A m) (hl : s.heap.IsList l vs.toArray) (ha : RdAll z vs (xs.map .str)) (hxs : ∀ x ∈ xs, Sn x) (hx : Sn x)
    (h : Q (.bool (decide (x ∈ xs))) s) : wpAny (model prog w) A (compareOp .In (.str x t) (.ref l)) Q E s := by
  obtain ⟨as, h1⟩ := reads_strs hl ha
  have hl := layAll_strs hxs
  refine SeqAt.in_list_reads h1 (.str x t) hl.1 hx.ok (by rw [hl.2]; have := r.un; simp only [PyData.depth]; (first | with_reducible assumption | with_reducible exact Nat.add_le_add_left (by decide) _ | with_reducible exact Nat.le_trans (by assumption) (by decide) | with_reducible exact Nat.sub_succ_lt_self (by assumption) | with_reducible exact Nat.lt_of_lt_of_le (by assumption) (by assumption) | with_reducible exact Nat.le_trans (by assumption) (by assumption) | decide | omega)) ?_
  rw [any_strs]; exact h
theorem notIn_strs {m : Nat} {l : Addr} {vs : List Value} {xs : List Str} {x : Str} {t : Tok} {Q : Value → Shared → Prop} (r : Room A m) (hl : s.heap.IsList l vs.toArray) (ha : RdAll z vs (xs.map .str)) (hxs : ∀ x ∈ xs, Sn x) (hx : Sn x)
    (h : Q (.bool (!decide (x ∈ xs))) s) : wpAny (model prog w) A (compareOp .NotIn (.str x t) (.ref l)) Q E s := by
  obtain ⟨as, h1⟩ := reads_strs hl ha
  have hl := layAll_strs hxs
  refine SeqAt.notIn_list_reads h1 (.str x t) hl.1 hx.ok (by rw [hl.2]; have := r.un; simp only [PyData.depth]; (first | with_reducible assumption | with_reducible exact Nat.add_le_add_left (by decide) _ | with_reducible exact Nat.le_trans (by assumption) (by decide) | with_reducible exact Nat.sub_succ_lt_self (by assumption) | with_reducible exact Nat.lt_of_lt_of_le (by assumption) (by assumption) | with_reducible exact Nat.le_trans (by assumption) (by assumption) | decide | omega)) ?_
  rw [any_strs]; exact h

/-- «xs.append(e)» on a plain list -/
theorem append_meth {D : Addr} {ys : List Value} {pos : Pos} {a : Sem Value} {Q : Value → Shared → Prop} (hpl0 : s.heap.PlainList D ys.toArray)
    (h : wpAny (model prog w) A a (fun v s₁ => s₁.heap.PlainList D ys.toArray ∧ ys.length ≤ 10000 ∧ ∀ h', h'.PlainList D (ys ++ [v]).toArray → Heap.SameBut D s₁.heap h' → Q .none { s₁ with heap := h' }) E s) :
    MethodOnS prog w A E (Str.ofString "append") (.ref D) pos [(false, a)] Q s := by
  obtain ⟨n0, h0⟩ := hpl0
  refine ⟨"list", "list.append", F.plainAttrs_list, F.slot_list_append, F.type_list_append, ⟨_, h0, rfl⟩, fun b e => ⟨_, by cases e; exact h0, rfl⟩, ?_⟩
  refine Calls.callWith_builtin rfl (Calls.evalArgs_plain (Calls.spliced_cons (wpAny_mono h (fun v s₁ h₁ => Calls.spliced_nil ?_) fun _ _ e => e)))
  obtain ⟨hpl, hlen, hq⟩ := h₁
  exact wpAny_list_append_plain hpl (fun h' hpl' hs' => hq h' (by simpa using hpl') hs') (by simp; exact le_line hlen)

end NB90
end
section
set_option autoImplicit false
open PySem PySem.W PyProof.Rows
set_option Elab.async false
set_option maxRecDepth 100000
namespace NB90
variable {h₀ : Heap} {mg mb : Str → Option Value} {W : Addr → Prop} {z₀ z z' z₁ : Fz} {s₀ s s' s₁ : Shared} {env : Env} {ρ : List (Str × Value)} {prog : Program} {w : World} {A : Around} {E : Value → Shared → Prop}

/-- a name: short and plain -/
noncomputable def Nm (x : Str) : Prop := x.length ≤ 100 ∧ ∀ c ∈ x.cps.toList, c < 128
theorem Nm.sn {x : Str} (h : Nm x) : Sn x := ⟨by have := h.1; (first | with_reducible assumption | with_reducible exact Nat.add_le_add_left (by decide) _ | with_reducible exact Nat.le_trans (by assumption) (by decide) | with_reducible exact Nat.sub_succ_lt_self (by assumption) | with_reducible exact Nat.lt_of_lt_of_le (by assumption) (by assumption) | with_reducible exact Nat.le_trans (by assumption) (by assumption) | decide | omega), h.2⟩
theorem cps_app (x y : Str) : (x ++ y).cps.toList = x.cps.toList ++ y.cps.toList := by
  show (x.cps ++ y.cps).toList = _
  rw [Array.toList_append]
theorem len_app (x y : Str) : (x ++ y).length = x.length + y.length := Str.length_append x y
theorem Sn.app {x y : Str} (hx : Sn x) (hy : Sn y) (h : x.length + y.length ≤ 1000) : Sn (x ++ y) :=
  ⟨by rw [len_app]; exact h, fun c hc => by rw [cps_app] at hc; exact (List.mem_append.mp hc).elim (hx.2 c) (hy.2 c)⟩

noncomputable def tgOf (t0 t1 : List Str) (n : Str) : Str := if n ∈ t0 ∧ n ∈ t1 then Str.ofString "  " else if n ∈ t0 then Str.ofString "- " else Str.ofString "+ "
noncomputable def tagLine (t0 t1 : List Str) (n : Str) : Str := tgOf t0 t1 n ++ n
noncomputable def addNew (acc : List Str) (l : Str) : List Str := if l ∈ acc then acc else acc ++ [l]
noncomputable def taggedL (t0 t1 : List Str) : List Str := (t0 ++ t1).foldl (fun acc n => addNew acc (tagLine t0 t1 n)) []

theorem tg_mem (t0 t1 : List Str) (n : Str) : tgOf t0 t1 n ∈ tagL := by
  unfold tgOf tagL
  split
  · simp
  · split <;> simp
theorem tag_sn : ∀ p ∈ tagL, Sn p := by
  intro p hp
  refine ⟨by rw [tag_short p hp]; (first | with_reducible assumption | with_reducible exact Nat.add_le_add_left (by decide) _ | with_reducible exact Nat.le_trans (by assumption) (by decide) | with_reducible exact Nat.sub_succ_lt_self (by assumption) | with_reducible exact Nat.lt_of_lt_of_le (by assumption) (by assumption) | with_reducible exact Nat.le_trans (by assumption) (by assumption) | decide | omega), ?_⟩
  revert p
  decide
theorem tagLine_sn {t0 t1 : List Str} {n : Str} (h : Nm n) : Sn (tagLine t0 t1 n) :=
  (tag_sn _ (tg_mem t0 t1 n)).app h.sn (by rw [tag_short _ (tg_mem t0 t1 n)]; have := h.1; (first | with_reducible assumption | with_reducible exact Nat.add_le_add_left (by decide) _ | with_reducible exact Nat.le_trans (by assumption) (by decide) | with_reducible exact Nat.sub_succ_lt_self (by assumption) | with_reducible exact Nat.lt_of_lt_of_le (by assumption) (by assumption) | with_reducible exact Nat.le_trans (by assumption) (by assumption) | decide | omega))
theorem addNew_sn {acc : List Str} {l : Str} (h : ∀ x ∈ acc, Sn x) (hl : Sn l) : ∀ x ∈ addNew acc l, Sn x := by
  unfold addNew
  split
  · exact h
  · intro x hx
    rcases List.mem_append.mp hx with hx | hx
    · exact h x hx
    · rw [List.mem_singleton.mp hx]; exact hl
theorem addNew_len (acc : List Str) (l : Str) : (addNew acc l).length ≤ acc.length + 1 := by
  unfold addNew; split <;> simp

/-- a for loop over an iterator -/
theorem for_loop {I : Addr} {G N : Nat} {P : Nat → Fz → Value → Prop} {St : Nat → (Addr → Prop) → Fz → Shared → Prop} {R : Result → Shared → Prop} {x : Str} {px : Pos} {body : List Stmt} (It : Iter prog w A I G N P St) (Inv : Nat → (Addr → Prop) → Fz → Shared → Prop)
    (step : ∀ (i : Nat) (T : Addr → Prop) (z : Fz) (s : Shared) (E' : Value → Shared → Prop), i < N → St i T z s → Inv i T z s → ∀ v s' T', P i z v → St (i + 1) T' z s' → Stp T G s s' → (∀ a, T' a → (T a ∨ s.heap.objs.size ≤ a) ∧ a < s'.heap.objs.size) →
      wpAny (model prog w) A (storeName env x v) (fun _ s2 => wpAny (model prog w) A (execs body env) (fun fl s3 => match fl with
        | .next | .cont => ∃ T3 z3, z3.In s3.heap ∧ St (i + 1) T3 z3 s3 ∧ Inv (i + 1) T3 z3 s3
        | .brk => R (.ok .next) s3
        | .ret v => R (.ok (.ret v)) s3) E' s2) E' s')
    (stop : ∀ (T : Addr → Prop) (z : Fz) (s s' : Shared), St N T z s → Inv N T z s → Stp T G s s' → R (.ok .next) s') (T : Addr → Prop) (z : Fz) (s : Shared) (hz : z.In s.heap) (hst : St 0 T z s) (hi : Inv 0 T z s) :
    codeAny (model prog w) A (.forLoop (.Name x px) (.ref I) body [] env) R s := by
  refine codeAny_forLoop (fun n s => ∃ i T z, n = N - i ∧ i ≤ N ∧ z.In s.heap ∧ St i T z s ∧ Inv i T z s) ?_ N ⟨0, T, z, rfl, Nat.zero_le _, hz, hst, hi⟩
  clear T z s hz hst hi
  rintro n s ⟨i, T, z, rfl, hle, hz, hst, hi⟩
  by_cases hlt : i < N
  · refine It.next i T z s _ _ hlt hz hst fun v s' T' hP hst' t hT' => ?_
    refine wpAny_assign_Name (wpAny_mono (step i T z s _ hlt hst hi v s' T' hP hst' t hT') (fun _ s2 h2 => wpAny_mono h2 (fun fl s3 h3 => ?_) fun _ _ e => e) fun _ _ e => e)
    cases fl with
    | next => obtain ⟨T3, z3, h1, h2, h4⟩ := h3; exact ⟨N - (i + 1), by (first | with_reducible assumption | with_reducible exact Nat.add_le_add_left (by decide) _ | with_reducible exact Nat.le_trans (by assumption) (by decide) | with_reducible exact Nat.sub_succ_lt_self (by assumption) | with_reducible exact Nat.lt_of_lt_of_le (by assumption) (by assumption) | with_reducible exact Nat.le_trans (by assumption) (by assumption) | decide | omega), i + 1, T3, z3, rfl, hlt, h1, h2, h4⟩
    | cont => obtain ⟨T3, z3, h1, h2, h4⟩ := h3; exact ⟨N - (i + 1), by (first | with_reducible assumption | with_reducible exact Nat.add_le_add_left (by decide) _ | with_reducible exact Nat.le_trans (by assumption) (by decide) | with_reducible exact Nat.sub_succ_lt_self (by assumption) | with_reducible exact Nat.lt_of_lt_of_le (by assumption) (by assumption) | with_reducible exact Nat.le_trans (by assumption) (by assumption) | decide | omega), i + 1, T3, z3, rfl, hlt, h1, h2, h4⟩
    | brk => exact h3
    | ret v => exact h3
  · have : i = N := by (first | with_reducible assumption | with_reducible exact Nat.add_le_add_left (by decide) _ | with_reducible exact Nat.le_trans (by assumption) (by decide) | with_reducible exact Nat.sub_succ_lt_self (by assumption) | with_reducible exact Nat.lt_of_lt_of_le (by assumption) (by assumption) | with_reducible exact Nat.le_trans (by assumption) (by assumption) | decide | omega)
    subst this
    exact It.stop T z s _ _ hz hst fun s' t => wpAny_execs_nil (stop T z s s' hst hi t)

/-- an item of a list of rows at a written place -/
theorem sub_const {value : Expr} {k : Nat} {p pos : Pos} {i : Int} {ds : List PyData} {d : PyData} {v : Value} {Q : Value → Shared → Prop} (J : Inn h₀ W z₀ s₀ env ρ z s) (h0 : 0 ≤ i) (hi : i < 2 ^ 63) (hd : ds[i.toNat]? = some d) (hr : Rd z v (.list ds))
    (hv : ∀ Q' : Value → Shared → Prop, Q' v s → wpAny (model prog w) A (eval value env) Q' E s) (h : ∀ v' s', Inn h₀ W z₀ s₀ env ρ z s' → Rd z v' d → Q v' s') :
    wpAny (model prog w) A (eval (.Subscript value (.Constant (.int i) k p) pos) env) Q E s :=
  Subscript_ (hv _ (J.int fun _ _ J1 => tail_list J1.inn hr h0 hi hd fun v' hr' => h v' _ J1 hr'))

theorem test_in {m : Nat} {nm tp : Str} {p1 p2 p3 p4 p5 : Pos} {k : Nat} {i : Int} {x : Str} {tx : Tok} {vt : Value} {ds : List PyData} {tk : List Str} {whole : Sem Value} {Q : Bool → Shared → Prop} (r : Room A m) (K : Inn h₀ W z₀ s₀ env ρ z s)
    (hnm : ρ.lookup nm = some (.str x tx)) (htp : ρ.lookup tp = some vt) (hk1 : env.kindOf nm = some .local) (hk2 : env.kindOf tp = some .local) (hd1 : (nm == ("__debug__" : Str)) = false ∧ (nm == ("__classdict__" : Str)) = false) (hd2 : (tp == ("__debug__" : Str)) = false ∧ (tp == ("__classdict__" : Str)) = false)
    (hr : Rd z vt (.list ds)) (h0 : 0 ≤ i ∧ i < 2 ^ 63) (hd : ds[i.toNat]? = some (row tk)) (hsn : ∀ y ∈ tk, Sn y) (hx : Sn x) (h : ∀ s', Inn h₀ W z₀ s₀ env ρ z s' → Q (decide (x ∈ tk)) s') :
    wpAny (model prog w) A (isTrue (.Compare (.Name nm p1) [.In] [.Subscript (.Name tp p2) (.Constant (.int i) k p3) p4] p5) env whole) Q E s := by
  refine test_cmp rfl (K.ld hnm (.inl hk1) ?_ hd1.1 hd1.2)
  refine sub_const K h0.1 h0.2 hd hr (fun Q' h => K.ld htp (.inl hk2) h hd2.1 hd2.2) fun v s' K' hr' => ?_
  obtain ⟨l, vs, rfl, hl, ha⟩ := hr'.listIn K'.inn
  exact in_strs r hl ha hsn hx (wpAny_truthy_bool (h s' K'))

theorem tag_ev {m : Nat} {nm tp : Str} {p1 p2 p3 p4 p5 q1 q2 q3 q4 q5 r1 r2 r3 r4 r5 u1 u2 u3 u4 u5 u6 : Pos} {x : Str} {tx : Tok} {vt : Value} {t0 t1 : List Str} {Q : Value → Shared → Prop} (r : Room A m) (K : Inn h₀ W z₀ s₀ env ρ z s)
    (hnm : ρ.lookup nm = some (.str x tx)) (htp : ρ.lookup tp = some vt) (hk1 : env.kindOf nm = some .local) (hk2 : env.kindOf tp = some .local) (hd1 : (nm == ("__debug__" : Str)) = false ∧ (nm == ("__classdict__" : Str)) = false) (hd2 : (tp == ("__debug__" : Str)) = false ∧ (tp == ("__classdict__" : Str)) = false)
    (hr : Rd z vt (.list [row t0, row t1])) (hs0 : ∀ y ∈ t0, Sn y) (hs1 : ∀ y ∈ t1, Sn y) (hx : Sn x) (h : ∀ t' s', Inn h₀ W z₀ s₀ env ρ z s' → Q (.str (tgOf t0 t1 x) t') s') :
    wpAny (model prog w) A (eval (.IfExp (.BoolOp .And [.Compare (.Name nm p1) [.In] [.Subscript (.Name tp p2) (.Constant (.int 0) 0 p3) p4] p5, .Compare (.Name nm q1) [.In] [.Subscript (.Name tp q2) (.Constant (.int 1) 0 q3) q4] q5] u1)
      (.Constant (.str (Str.ofString "  ")) 0 u2) (.IfExp (.Compare (.Name nm r1) [.In] [.Subscript (.Name tp r2) (.Constant (.int 0) 0 r3) r4] r5) (.Constant (.str (Str.ofString "- ")) 0 u3) (.Constant (.str (Str.ofString "+ ")) 0 u4) u5) u6) env) Q E s := by
  unfold tgOf at h
  refine IfExp_ (isTrue_and ?_)
  refine test_in r K hnm htp hk1 hk2 hd1 hd2 hr ⟨by decide, by decide⟩ rfl hs0 hx fun s1 K1 => ?_
  by_cases m0 : x ∈ t0
  · rw [decide_eq_true m0, if_pos rfl]
    refine isTrue_and (test_in r K1 hnm htp hk1 hk2 hd1 hd2 hr ⟨by decide, by decide⟩ rfl hs1 hx fun s2 K2 => ?_)
    by_cases m1 : x ∈ t1
    · rw [decide_eq_true m1, if_pos rfl]
      refine isTrue_and_nil ?_
      rw [if_pos rfl]
      refine K2.str fun t3 s3 K3 => ?_
      have := h t3 s3 K3
      rw [if_pos ⟨m0, m1⟩] at this; exact this
    · rw [decide_eq_false m1, if_neg Bool.false_ne_true, if_neg Bool.false_ne_true]
      refine IfExp_ (test_in r K2 hnm htp hk1 hk2 hd1 hd2 hr ⟨by decide, by decide⟩ rfl hs0 hx fun s3 K3 => ?_)
      rw [decide_eq_true m0, if_pos rfl]
      refine K3.str fun t4 s4 K4 => ?_
      have := h t4 s4 K4
      rw [if_neg (fun e => m1 e.2), if_pos m0] at this; exact this
  · rw [decide_eq_false m0, if_neg Bool.false_ne_true, if_neg Bool.false_ne_true]
    refine IfExp_ (test_in r K1 hnm htp hk1 hk2 hd1 hd2 hr ⟨by decide, by decide⟩ rfl hs0 hx fun s3 K3 => ?_)
    rw [decide_eq_false m0, if_neg Bool.false_ne_true]
    refine K3.str fun t4 s4 K4 => ?_
    have := h t4 s4 K4
    rw [if_neg (fun e => m0 e.1), if_neg m0] at this; exact this

theorem tagged_spec {n : Nat} {a : Addr} {cd : Value} {t0 t1 : List Str} {vt : Value} {Q : Value → Shared → Prop} (r : Room A (n + 1)) (G : Gd h₀ mg mb) (f : FnOk h₀ (Str.ofString "_law_tagged") pArgsTagged.1 pBodyTagged.1 pScopeTagged.1 a cd)
    (hz : z.In s.heap) (hb : Base h₀ z) (hr : Rd z vt (.list [row t0, row t1])) (hlen : t0.length + t1.length ≤ 1000) (h0 : ∀ x ∈ t0, Nm x) (h1 : ∀ x ∈ t1, Nm x)
    (h : ∀ v z' s', Grow No z s z' s' → Rd z' v (row (taggedL t0 t1)) → Q v s') :
    wpAny (model prog w) A (call (.ref a) [vt]) Q E s := by
  refine call_def (binds := [(Str.ofString "tops", vt)]) r G.lim f hz hb (fun pm doc => rfl) (fun L => rfl) ⟨rfl, rfl, rfl⟩ fun env s₁ hS hcn J r' => ?_
  simp only [pBodyTagged]
  with_reducible refine wpAny_execs_cons (asg ?_ (ev_list (arg_n (wpAny_newObj_type ?_))))
  · rfl
  generalize hD : s₁.heap.objs.size = D
  have hDge : s.heap.objs.size ≤ D := hD ▸ J.grow.size
  have hDz : ∀ o, ¬ z D o := fun o e => Nat.lt_irrefl _ (hD ▸ Heap.lt_size (J.inn _ _ e))
  have hDp : (s₁.heap.push { cls := .type "list", data := .seq ([] : List Value).toArray }).PlainList D ([] : List Value).toArray := ⟨0, hD ▸ Heap.get?_push_size _ rfl⟩
  have hDL : D ≠ env.locals := fun e => by obtain ⟨m, hn, _⟩ := J.frame.ns; exact Nat.lt_irrefl _ (hD ▸ e ▸ hn.lt)
  have J1 := J.pushTmp { cls := .type "list", data := .seq ([] : List Value).toArray } s₁.toks
  refine J1.st hcn.1 (kind_of hS rfl) fun s2 J2 t2 => ?_
  have hDp2 : s2.heap.PlainList D ([] : List Value).toArray := hDp.at fun o e => t2.keep D o hDL e
  with_reducible refine wpAny_execs_cons (wpAny_For (wpAny_BinOp ?_) ?hs)
  case hs => intro _; rfl
  have ldT : ∀ {z' : Fz} {s' : Shared} {ρ' : List (Str × Value)} {E' : Value → Shared → Prop} {p : Pos}, ρ'.lookup (Str.ofString "tops") = some vt → Inn h₀ No z s env ρ' z' s' → ∀ Q' : Value → Shared → Prop, Q' vt s' → wpAny (model prog w) (A.deeper env) (eval (.Name (Str.ofString "tops") p) env) Q' E' s' :=
    fun hl J Q' h => J.ld hl (.inl (kind_of hS rfl)) h
  have K2 := J2.here
  have ldT : ∀ {z' : Fz} {sx s' : Shared} {zx : Fz} {ρ' : List (Str × Value)} {E' : Value → Shared → Prop} {p : Pos}, ρ'.lookup (Str.ofString "tops") = some vt → Inn h₀ No zx sx env ρ' z' s' → ∀ Q' : Value → Shared → Prop, Q' vt s' → wpAny (model prog w) (A.deeper env) (eval (.Name (Str.ofString "tops") p) env) Q' E' s' :=
    fun hl J Q' h => J.ld hl (.inl (kind_of hS rfl)) h
  refine sub_const (d := row t0) K2 (by decide) (by decide) rfl hr (ldT rfl K2) fun v3 s3 K3 hr3 => ?_
  refine sub_const (d := row t1) K3 (by decide) (by decide) rfl hr (ldT rfl K3) fun v4 s4 K4 hr4 => ?_
  refine add_list K4 hr3 hr4 (by simp only [List.length_map]; exact le_line (by (first | with_reducible assumption | with_reducible exact Nat.add_le_add_left (by decide) _ | with_reducible exact Nat.le_trans (by assumption) (by decide) | with_reducible exact Nat.sub_succ_lt_self (by assumption) | with_reducible exact Nat.lt_of_lt_of_le (by assumption) (by assumption) | with_reducible exact Nat.le_trans (by assumption) (by assumption) | decide | omega))) fun v5 z5 s5 hle5 K5 hr5 => ?_
  have J5 := J2.up K5.grow
  have hDp5 : s5.heap.PlainList D ([] : List Value).toArray := hDp2.at fun o e => K5.grow.all D o e
  have hDz5 : ∀ o, ¬ z5 D o := fun o e => (K5.grow.new D o e).elim (hDz o) fun hl => absurd (Heap.lt_size hDp2.choose_spec) (Nat.not_lt.mpr hl)
  rw [← List.map_append] at hr5
  obtain ⟨l, vs, rfl, hl, ha⟩ := hr5.listIn K5.inn
  refine wpAny_pyIter_list hl ?_
  generalize hI : s5.heap.objs.size = I
  have hIge : s.heap.objs.size ≤ I := hI ▸ J5.grow.size
  have hIz : ∀ o, ¬ z5 I o := fun o e => Nat.lt_irrefl _ (hI ▸ Heap.lt_size (K5.inn _ _ e))
  have hDI : D ≠ I := fun e => Nat.lt_irrefl _ (hI ▸ e ▸ Heap.lt_size hDp5.choose_spec)
  have hLI : env.locals ≠ I := fun e => by obtain ⟨m, hn, _⟩ := J5.frame.ns; exact Nat.lt_irrefl _ (hI ▸ e ▸ hn.lt)
  have J6 := J5.pushTmp { cls := .type "list_iterator", data := .fields #[.ref l, .int 0 0] } s5.toks
  have hcell : ∀ y c, env.cells.lookup y = some c → c ≠ I ∧ c ≠ D := fun y c hc => by
    obtain ⟨⟨_, hv⟩, _⟩ := J5.frame.cz y c hc
    refine ⟨fun e => Nat.lt_irrefl _ (hI ▸ e ▸ hv.lt), fun e => ?_⟩
    obtain ⟨o, ho, hd⟩ := hv
    obtain ⟨nn, hn⟩ := hDp5
    rw [e, hn] at ho; cases ho; cases hd
  have hAI : Apart (· = I) env := ⟨hLI, fun y c hc => (hcell y c hc).1⟩
  have hAD : Apart (· = D) env := ⟨Ne.symm hDL, fun y c hc => (hcell y c hc).2⟩
  let xs := t0 ++ t1
  have hxs : ∀ x ∈ xs, Nm x := fun x hx => (List.mem_append.mp hx).elim (h0 x) (h1 x)
  let ac : Nat → List Str := fun i => (xs.take i).foldl (fun acc n => addNew acc (tagLine t0 t1 n)) []
  have It := Iter.list (prog := prog) (w := w) (A := A.deeper env) (xs := xs) (enc := PyData.str) (I := I) (l := l) r'.hh s.gens.size
  refine for_loop It (fun i _ z' s' => ∃ ys, Inn h₀ No z s env [(Str.ofString "short", .ref D), (Str.ofString "tops", vt)] z' s' ∧ z5.le z' ∧ (∀ o, ¬ z' I o) ∧ (∀ o, ¬ z' D o) ∧ s'.heap.PlainList D ys.toArray ∧ RdAll z' ys ((ac i).map .str) ∧ (∀ x ∈ ac i, Sn x) ∧ (ac i).length ≤ i) ?step ?stop (· = I) z5 _ J6.inn
    ⟨rfl, hr5, _, hI ▸ Heap.get?_push_size _ rfl, rfl, rfl⟩ ⟨[], J6, Fz.le.refl _, hIz, hDz5, hDp5.at fun o e => Heap.get?_push_of_some _ e, by simpa [ac] using RdAll.nil z5, by simp [ac], by simp [ac]⟩
  case stop =>
    rintro T z' s6 s7 ⟨hT, _⟩ ⟨ys, J7, hle7, hI7, hD7, hp7, ha7, _, _⟩ t7
    subst hT
    have J8 := J7.step (T := (· = I)) (fun a ha => ha ▸ hIge) (Nat.le_refl _) (fun a o ha => ha ▸ hI7 o) hAI t7
    with_reducible refine wpAny_execs_cons (wpAny_Return_some ?_)
    refine J8.ld rfl (.inl (kind_of hS rfl)) ?_
    obtain ⟨nn, hn⟩ := hp7.at fun o e => t7.keep D o hDI e
    have e : ac xs.length = taggedL t0 t1 := by simp only [ac, List.take_length]; rfl
    rw [e] at ha7
    exact h _ _ _ (J8.grow.put hDge hn) (Rd.list' (Fz.put_at _ _ _) (ha7.mono (Fz.put_le _ _ _)))
  case step =>
    rintro i T z6 s6 E6 hi ⟨hT, _⟩ ⟨ys, J7, hle7, hI7, hD7, hp7, ha7, hsn7, hln7⟩ v s7 T' hP hst7 t7 _
    subst hT
    obtain ⟨hT', hst7⟩ := hst7
    subst hT'
    have hst7 : (fun x => x = I) = (fun x => x = I) ∧ Rd z6 (.ref l) (.list (xs.map PyData.str)) ∧ s7.heap.IsListIter I l (i + 1) := ⟨rfl, hst7⟩
    have J8 := J7.step (T := (· = I)) (fun a ha => ha ▸ hIge) (Nat.le_refl _) (fun a o ha => ha ▸ hI7 o) hAI t7
    have hp8 := hp7.at fun o e => t7.keep D o hDI e
    obtain ⟨tx, rfl⟩ := (hP xs[i] (List.getElem?_eq_getElem hi)).isStr
    generalize hx : xs[i] = x at *
    have hxN : Nm x := hx ▸ hxs _ (List.getElem_mem hi)
    refine J8.st hcn.1 (kind_of hS rfl) fun s9 J9 t9 => ?_
    have hp9 := hp8.at fun o e => t9.keep D o hDL e
    have hst9 := It.keep _ _ _ _ _ _ hst7 (Fz.le.refl z6) (fun a o ha e => t9.keep a o (fun hh => hLI (hh ▸ ha)) e) t9.gens
    have K9 := J9.here
    have hr9 : Rd z6 vt (.list [row t0, row t1]) := hr.mono (J9.grow.le)
    have hs0 : ∀ y ∈ t0, Sn y := fun y hy => (h0 y hy).sn
    have hs1 : ∀ y ∈ t1, Sn y := fun y hy => (h1 y hy).sn
    with_reducible refine wpAny_execs_cons (asg ?_ (wpAny_BinOp ?_))
    · rfl
    refine tag_ev r' K9 rfl rfl (kind_of hS rfl) (kind_of hS rfl) ⟨by decide, by decide⟩ ⟨by decide, by decide⟩ hr9 hs0 hs1 hxN.sn fun t10 s10 K10 => ?_
    refine K10.ld rfl (.inl (kind_of hS rfl)) ?_
    refine K10.addStr (by rw [tag_short _ (tg_mem t0 t1 x)]; have := hxN.1; exact le_line (by (first | with_reducible assumption | with_reducible exact Nat.add_le_add_left (by decide) _ | with_reducible exact Nat.le_trans (by assumption) (by decide) | with_reducible exact Nat.sub_succ_lt_self (by assumption) | with_reducible exact Nat.lt_of_lt_of_le (by assumption) (by assumption) | with_reducible exact Nat.le_trans (by assumption) (by assumption) | decide | omega))) fun t11 s11 K11 => ?_
    have J11 := J9.up K11.grow
    have hp11 := hp9.at fun o e => K11.grow.all D o e
    have hst11 := It.keep _ _ _ _ _ _ hst9 (Fz.le.refl z6) (fun a o ha e => K11.grow.all a o e) K11.grow.gens
    rw [show tgOf t0 t1 x ++ x = tagLine t0 t1 x from rfl]
    refine J11.st hcn.1 (kind_of hS rfl) fun s12 J12 t12 => ?_
    have hp12 := hp11.at fun o e => t12.keep D o hDL e
    have hst12 := It.keep _ _ _ _ _ _ hst11 (Fz.le.refl z6) (fun a o ha e => t12.keep a o (fun hh => hLI (hh ▸ ha)) e) t12.gens
    have hLs : Sn (tagLine t0 t1 x) := tagLine_sn hxN
    have hac : ac (i + 1) = addNew (ac i) (tagLine t0 t1 x) := by
      simp only [ac]
      rw [List.take_add_one, List.getElem?_eq_getElem hi, Option.toList_some, List.foldl_append, hx]; rfl
    have hsn' : ∀ y ∈ ac (i + 1), Sn y := by rw [hac]; exact addNew_sn hsn7 hLs
    have hln' : (ac (i + 1)).length ≤ i + 1 := by rw [hac]; exact Nat.le_trans (addNew_len _ _) (by (first | with_reducible assumption | with_reducible exact Nat.add_le_add_left (by decide) _ | with_reducible exact Nat.le_trans (by assumption) (by decide) | with_reducible exact Nat.sub_succ_lt_self (by assumption) | with_reducible exact Nat.lt_of_lt_of_le (by assumption) (by assumption) | with_reducible exact Nat.le_trans (by assumption) (by assumption) | decide | omega))
    have hil : i ≤ 1000 := by have : xs.length ≤ 1000 := by simp only [xs, List.length_append]; exact hlen
                              (first | with_reducible assumption | with_reducible exact Nat.add_le_add_left (by decide) _ | with_reducible exact Nat.le_trans (by assumption) (by decide) | with_reducible exact Nat.sub_succ_lt_self (by assumption) | with_reducible exact Nat.lt_of_lt_of_le (by assumption) (by assumption) | with_reducible exact Nat.le_trans (by assumption) (by assumption) | decide | omega)
    have wk : ∀ {z' : Fz} {s' : Shared}, Inn h₀ No z s env ((Str.ofString "line", Value.str (tagLine t0 t1 x) t11) :: (Str.ofString "name", Value.str x tx) :: [(Str.ofString "short", .ref D), (Str.ofString "tops", vt)]) z' s' → Inn h₀ No z s env [(Str.ofString "short", .ref D), (Str.ofString "tops", vt)] z' s' :=
      fun J => (J.weak (weak_cons rfl)).weak (weak_cons rfl)
    with_reducible refine wpAny_execs_cons (wpAny_If (test_cmp ?_ ?_))
    · rfl
    refine J12.ld rfl (.inl (kind_of hS rfl)) (J12.ld rfl (.inl (kind_of hS rfl)) ?_)
    refine notIn_strs r' hp12.isList ha7 hsn7 hLs (wpAny_truthy_bool ?_)
    by_cases mem : tagLine t0 t1 x ∈ ac i
    · have e : ac (i + 1) = ac i := by rw [hac]; unfold addNew; rw [if_pos mem]
      rw [decide_eq_true mem, Bool.not_true, if_neg Bool.false_ne_true]
      refine wpAny_execs_nil (wpAny_execs_nil ⟨_, z6, J12.inn, hst12, ys, wk J12, hle7, hI7, hD7, hp12, ?_, hsn', hln'⟩)
      rw [e]; exact ha7
    · have e : ac (i + 1) = ac i ++ [tagLine t0 t1 x] := by rw [hac]; unfold addNew; rw [if_neg mem]
      rw [decide_eq_false mem, Bool.not_false, if_pos rfl]
      with_reducible refine wpAny_execs_cons (exprStmt hS ?_ ?_ (meth1 ?_ ?_))
      · rfl
      · rfl
      · rfl
      refine J12.ld rfl (.inl (kind_of hS rfl)) ?_
      refine append_meth hp12 (J12.ld rfl (.inl (kind_of hS rfl)) ⟨hp12, by rw [ha7.1, List.length_map]; (first | with_reducible assumption | with_reducible exact Nat.add_le_add_left (by decide) _ | with_reducible exact Nat.le_trans (by assumption) (by decide) | with_reducible exact Nat.sub_succ_lt_self (by assumption) | with_reducible exact Nat.lt_of_lt_of_le (by assumption) (by assumption) | with_reducible exact Nat.le_trans (by assumption) (by assumption) | decide | omega), fun h' hp13 hs13 => ?_⟩)
      have t13 : To (· = D) s12 { s12 with heap := h' } := To.sameBut (tk := s12.toks) hs13
      have J13 := J12.step (T := (· = D)) (G := s.gens.size) (fun a ha => ha ▸ hDge) (Nat.le_refl _) (fun a o ha => ha ▸ hD7 o) hAD t13.stp
      refine wpAny_execs_nil (wpAny_execs_nil ⟨_, z6, J13.inn, It.keep _ _ _ _ _ _ hst12 (Fz.le.refl z6) (fun a o ha e => t13.keep a o (fun hh => hDI (hh ▸ ha)) e) t13.gens, ys ++ [.str (tagLine t0 t1 x) t11], wk J13, hle7, hI7, hD7, hp13, ?_, hsn', hln'⟩)
      rw [e, List.map_append]; exact ha7.snoc (.str _ _)
end NB90
end
section
set_option autoImplicit false
open PySem PySem.W PyProof.Rows
set_option Elab.async false
set_option maxRecDepth 100000
namespace NB90

section
variable {M : Model} {A : Around} {R : GenEnd} {Y : Protocol} {n : Nat} {s₀ : Shared} {c : Code} {fs : List Frame} {s : Shared} {env : Env}
  {K : Flow → Sem Fin} {H : Value → Sem Fin} {gd : Bool → Bool} {lv : List Value → List Value}

theorem seg_bw {α β : Type} {m : Sem α} {f : α → Sem β} {K : β → Sem Fin}
    (h : wpAny M (A.over c fs) m (fun a s' => Seg M A R Y n s₀ c ((f a).wrap K H gd lv) fs s') (fun x s' => Seg M A R Y n s₀ c (H x) fs s') s) :
    Seg M A R Y n s₀ c ((m >>= f).wrap K H gd lv) fs s := by
  rw [Sem.bind_eq_wrap', Sem.wrap_wrap]; exact seg_wrap h

/-- a statement that yields nothing -/
theorem seg_plain {st : Stmt} (h : wpAny M (A.over c fs) (exec st env) (fun f s' => Seg M A R Y n s₀ c (K f) fs s') (fun _ _ => False) s) :
    Seg M A R Y n s₀ c ((exec st env).wrap K H gd lv) fs s := seg_wrap (wpAny_mono h (fun _ _ e => e) fun _ _ e => e.elim)

theorem seg_If {test : Expr} {body orelse : List Stmt} {pos : Pos}
    (h : wpAny M (A.over c fs) (isTrue test env (eval test env)) (fun b s' => if b = true then Seg M A R Y n s₀ c ((execs body env).wrap K H gd lv) fs s' else Seg M A R Y n s₀ c ((execs orelse env).wrap K H gd lv) fs s') (fun _ _ => False) s) :
    Seg M A R Y n s₀ c ((exec (.If test body orelse pos) env).wrap K H gd lv) fs s := by
  rw [exec_If]
  refine seg_bw (wpAny_standAt (seg_bw (wpAny_mono h (fun b s' hb => ?_) fun _ _ e => e.elim)))
  cases b with
  | true => rw [if_pos rfl] at hb ⊢; exact hb
  | false => rw [if_neg Bool.false_ne_true] at hb ⊢; exact hb

theorem seg_For {target iter : Expr} {body orelse : List Stmt} {pos : Pos}
    (h : wpAny M (A.over c fs) (eval iter env) (fun x s₁ => wpAny M (A.over c fs) (pyIter x) (fun it s₂ => ∀ k p, (∀ f, k (.ok f) = K f) →
      Seg M A R Y n s₀ (.forLoop target it body orelse env) (M.den (.forLoop target it body orelse env)) (.ret k none (gd false) (lv []) c p [] :: fs) s₂) (fun _ _ => False) s₁) (fun _ _ => False) s)
    (hs : ∀ x, foldedSetIterable iter env x = pure x) :
    Seg M A R Y n s₀ c ((exec (.For target iter body orelse pos) env).wrap K H gd lv) fs s := by
  rw [exec_For]
  refine seg_bw (wpAny_standAt (seg_bw (wpAny_mono h (fun x s₁ h₁ => ?_) fun _ _ e => e.elim)))
  rw [hs x]
  refine seg_bw (wpAny_pure (seg_bw (wpAny_standAt (seg_bw (wpAny_holding (wpAny_mono h₁ (fun it s₂ h₂ => ?_) fun _ _ e => e.elim))))))
  exact seg_call fun p => h₂ _ p fun f => rfl
end

section
variable {prog : Program} {w : World} {A : Around} {R : GenEnd} {Y : Protocol} {n : Nat} {s₀ : Shared} {fs : List Frame} {s : Shared} {env : Env}

theorem seg_forLoop {target : Expr} {it : Value} {body : List Stmt}
    (h : wpAny (model prog w) (A.over (.forLoop target it body [] env) fs) (pyNext it) (fun r s₁ => match r with
        | none => Seg (model prog w) A R Y n s₀ (.forLoop target it body [] env) (.pure (.again (.block [] env))) fs s₁
        | some v => wpAny (model prog w) (A.over (.forLoop target it body [] env) fs) (assign target env v) (fun _ s₂ => ∀ H,
          Seg (model prog w) A R Y n s₀ (.forLoop target it body [] env) ((execs body env).wrap (fun f => match f with
            | .next | .cont => .pure (.again (.forLoop target it body [] env))
            | .brk => .pure (.done .next)
            | .ret v => .pure (.done (.ret v))) H id id) fs s₂) (fun _ _ => False) s₁) (fun _ _ => False) s)
    (ht : ∀ v, letOwnedTupleGo target it v = pure ()) :
    Seg (model prog w) A R Y n s₀ (.forLoop target it body [] env) ((model prog w).den (.forLoop target it body [] env)) fs s := by
  show Seg _ A R Y n s₀ _ ((forTurn target it body [] env).onRaise (fun x => do noteFrame x env; theTreesLotGoes x)) fs s
  unfold forTurn
  rw [Sem.onRaise_eq_wrap]
  refine seg_bw (wpAny_standAt (seg_bw (wpAny_onRaise (wpAny_mono h (fun r s₁ hr => ?_) fun _ _ e => e.elim))))
  cases r with
  | none => exact hr
  | some v =>
    show Seg _ A R Y n s₀ _ (Sem.wrap _ _ _ _ (letOwnedTupleGo target it v >>= fun _ => assign target env v >>= fun _ => execs body env >>= _)) fs s₁
    rw [ht v]
    refine seg_bw (wpAny_pure (seg_bw (wpAny_mono hr (fun _ s₂ h₂ => ?_) fun _ _ e => e.elim)))
    rw [Sem.bind_eq_wrap', Sem.wrap_wrap]
    rw [Sem.wrap_congr (execs body env) _ _ (K' := fun f => match f with
            | .next | .cont => .pure (.again (.forLoop target it body [] env))
            | .brk => .pure (.done .next)
            | .ret v => .pure (.done (.ret v))) (fun f => by cases f <;> rfl) (fun _ => rfl)]
    exact h₂ _

theorem seg_block_nil {k : Result → Sem Fin} {h g l c₁ p₁ kp} (hk : Seg (model prog w) A R Y n s₀ c₁ (k (.ok .next)) fs s) :
    Seg (model prog w) A R Y n s₀ (.block [] env) ((model prog w).den (.block [] env)) (.ret k h g l c₁ p₁ kp :: fs) s := by
  show Seg _ A R Y n s₀ _ (leafOf (.ok .next)) _ s
  exact seg_leaf (.ok .next) hk
end
end NB90
end
section
set_option autoImplicit false
open PySem PySem.W PyProof.Rows
set_option Elab.async false
set_option maxRecDepth 100000
namespace NB90
variable {h₀ : Heap} {mg mb : Str → Option Value} {W : Addr → Prop} {z₀ z z' z₁ : Fz} {s₀ s s' s₁ : Shared} {env : Env} {ρ : List (Str × Value)} {prog : Program} {w : World} {A : Around} {E : Value → Shared → Prop}

/-- the next of a generator made by a def; what it leaves is bare -/
theorem next_gen {a : Addr} {g n : Nat} {gs : GenState} {P : Nat → Shared → Shared → Prop} {Y : Protocol} {Q : Option Value → Shared → Prop} (hh : A.handled = none)
    (hl : s.heap.NoLimit) (hroom : A.depth < recursionLimit) (hg : s.heap.IsGen a g) (hgs : s.gens[g]? = some gs)
    (hgo : gs.Goes (model prog w) A.in1 (fun n s₀ r s₁ => r = .ok (.ret .none) ∧ P n s₀ s₁) Y n (.send .none) (s.setGen g .running))
    (hY : ∀ v s₁ gs', gs'.bare = true → Y (n - 1) (s.setGen g .running) v s₁ (fun r' s'' => match n with
        | 0 => False
        | m + 1 => gs'.Goes (model prog w) A.in1 (fun n s₀ r s₁ => r = .ok (.ret .none) ∧ P n s₀ s₁) Y m r' s'') → Q (some v) (s₁.setGen g gs'))
    (hP : ∀ s₁, P n (s.setGen g .running) s₁ → ∀ h', (∀ b o, s₁.heap.get? b = some o → h'.get? b = some o) → s₁.heap.objs.size ≤ h'.objs.size → Q none { s₁.setGen g .finished with heap := h' }) :
    wpAny (model prog w) A (pyNext (.ref a)) Q E s := by
  unfold pyNext
  refine wpAny_bind (wpAny_attempt (wpAny_callSpecial?_slot (name := Str.ofString "__next__") hg.typeIs slot_gen_next
    (wpAny_call_entry slot_gen_next hg.typeIs entry_gen_next ?_ (args_gen_next _))))
  show wpAny _ A.in1 (Builtin.Generator.genWake (.ref a) (.send .none)) _ _ s
  unfold Builtin.Generator.genWake
  refine wpAny_bind (wpAny_holding (wpAny_genNumber hg (wpAny_bind (wpAny_genState hgs ?_))))
  cases gs with
  | running => exact hgo.elim
  | finished => exact hgo.elim
  | _ =>
    refine wpAny_bind (wpAny_roomToWake hl hroom ?_)
    show wpAny _ A.in1 (.resume g (.send .none) [] _) _ _ s
    refine wpAny_resumeQ hgs hgo (fun x s₁ hx => ?_) (fun v s₁ gs' hb hv => wpAny_pure ⟨v, rfl, wpAny_pure (hY v s₁ gs' hb hv)⟩)
    obtain ⟨rfl, hp⟩ := hx
    show wpAny _ A.in1 (newExc (.type "StopIteration") [] >>= _) _ _ _
    refine wpAny_bind ?_
    simp only [newExc, newTuple]
    refine wpAny_bind (wpAny_newObj_type ?_ (by size_fits))
    refine wpAny_bind (m := firstArgMember _ _) (wpAny_of_eq (a := Value.none) (by first | rfl | (simp only [firstArgMember]; rfl)) ?_)
    refine wpAny_newObj_type ?_ (by size_fits)
    simp only [raiseNew]
    refine wpAny_bind (wpAny_bind (wpAny_handled ?_))
    rw [show A.in1.handled = none from hh]
    refine wpAny_throw ?_
    refine wpAny_bind (wpAny_isInstance (T := "StopIteration") (b := true) ⟨_, Heap.get?_push_size _ rfl, rfl⟩ isSubtype_stop ?_)
    exact wpAny_pure (hP s₁ hp _ (fun b o hb => Heap.get?_push_of_some _ (Heap.get?_push_of_some _ hb)) (by simp only [Heap.size_push]; show s₁.heap.objs.size ≤ s₁.heap.objs.size + 1 + 1; (first | with_reducible assumption | with_reducible exact Nat.add_le_add_left (by decide) _ | with_reducible exact Nat.le_trans (by assumption) (by decide) | with_reducible exact Nat.sub_succ_lt_self (by assumption) | with_reducible exact Nat.lt_of_lt_of_le (by assumption) (by assumption) | with_reducible exact Nat.le_trans (by assumption) (by assumption) | decide | omega)))

/-- no base at all -/
noncomputable def noS (s : Shared) : Shared := { s with heap := { s.heap with objs := #[] } }
theorem noS_none (s : Shared) (b : Addr) : (noS s).heap.get? b = none := by simp [noS, Heap.get?]
theorem Inn.free {W' : Addr → Prop} (I : Inn h₀ W' z₀ s₀ env ρ z s) : Inn h₀ No z (noS s) env ρ z s :=
  ⟨⟨⟨fun b o _ e => (by rw [noS_none] at e; cases e), Nat.zero_le _, rfl, fun _ _ e => e, id⟩, Fz.le.refl _, I.inn, fun _ _ e => .inl e⟩, I.frame, I.base, Apart.no _⟩
theorem Inn.freeAt (f : Fm z s.heap env ρ) (hz : z.In s.heap) (hb : Base h₀ z) : Inn h₀ No z (noS s) env ρ z s :=
  ⟨⟨⟨fun b o _ e => (by rw [noS_none] at e; cases e), Nat.zero_le _, rfl, fun _ _ e => e, id⟩, Fz.le.refl _, hz, fun _ _ e => .inl e⟩, f, hb, Apart.no _⟩

theorem Stp.refl (T : Addr → Prop) (G : Nat) (s : Shared) : Stp T G s s := (To.refl T s).stp
theorem Stp.trans {T : Addr → Prop} {G : Nat} {s s' s'' : Shared} (h : Stp T G s s') (k : Stp T G s' s'') : Stp T G s s'' :=
  ⟨fun b o hb e => k.keep b o hb (h.keep b o hb e), Nat.le_trans h.size k.size, k.os.trans h.os, fun i x hi e => k.gens i x hi (h.gens i x hi e), fun b => k.bare (h.bare b)⟩
/-- a step at places that are new since the base -/
theorem Stp.then {T : Addr → Prop} {U : Addr → Prop} {G : Nat} {s s' s'' : Shared} (h : Stp T G s s') (k : Stp U G s' s'') (hU : ∀ a, U a → T a ∨ s.heap.objs.size ≤ a) : Stp T G s s'' :=
  ⟨fun b o hb e => k.keep b o (fun hu => (hU b hu).elim hb fun hl => Nat.lt_irrefl _ (Nat.lt_of_lt_of_le (Heap.lt_size e) hl)) (h.keep b o hb e), Nat.le_trans h.size k.size, k.os.trans h.os, fun i x hi e => k.gens i x hi (h.gens i x hi e), fun b => k.bare (h.bare b)⟩

theorem bare_set {g : Nat} {x : GenState} (hx : x.bare = true) (h : AllBare s.gens) : AllBare (s.setGen g x).gens := by
  intro y hy
  obtain ⟨i, hi, rfl⟩ := Array.mem_iff_getElem.mp hy
  have hi' : i < s.gens.size := by have := hi; simpa [Shared.setGen] using this
  by_cases e : i = g
  · subst e
    have h2 := setGen_self (x := x) (Array.getElem?_eq_getElem hi')
    rw [Array.getElem?_eq_getElem hi] at h2
    rw [Option.some.inj h2]; exact hx
  · have h2 := (GenOnly.setGen s g x).2 i e
    rw [Array.getElem?_eq_getElem hi, Array.getElem?_eq_getElem hi'] at h2
    rw [Option.some.inj h2]; exact h _ (Array.getElem_mem _)
theorem stp_set {T : Addr → Prop} {g : Nat} {x : GenState} (hx : x.bare = true) : Stp T g s (s.setGen g x) :=
  ⟨fun _ _ _ e => e, Nat.le_refl _, rfl, fun i y hi e => by
    rw [← (GenOnly.setGen s g x).2 i (Nat.ne_of_lt hi)] at e
    exact e, bare_set hx⟩

theorem room_func {n : Nat} {B : List Stmt} (r : Room A (n + 1)) : Room (A.over (.func B env) []) n :=
  ⟨r.hh, by have := r.depth; show A.depth + 0 + 1 + n < 1000; (first | with_reducible assumption | with_reducible exact Nat.add_le_add_left (by decide) _ | with_reducible exact Nat.le_trans (by assumption) (by decide) | with_reducible exact Nat.sub_succ_lt_self (by assumption) | with_reducible exact Nat.lt_of_lt_of_le (by assumption) (by assumption) | with_reducible exact Nat.le_trans (by assumption) (by assumption) | decide | omega), by have := r.units; show A.units + 0 + 3 + 10 * n + 100 < 9900; (first | with_reducible assumption | with_reducible exact Nat.add_le_add_left (by decide) _ | with_reducible exact Nat.le_trans (by assumption) (by decide) | with_reducible exact Nat.sub_succ_lt_self (by assumption) | with_reducible exact Nat.lt_of_lt_of_le (by assumption) (by assumption) | with_reducible exact Nat.le_trans (by assumption) (by assumption) | decide | omega)⟩
theorem room_for {n : Nat} {B body : List Stmt} {t : Expr} {it : Value} {k : Result → Sem Fin} {g : Bool} {l : List Value} {p : Pos} (r : Room A (n + 1)) : Room (A.over (.forLoop t it body [] env) [.ret k none g l (.func B env) p []]) n :=
  ⟨r.hh, by have := r.depth; show A.depth + 1 + 0 + n < 1000; (first | with_reducible assumption | with_reducible exact Nat.add_le_add_left (by decide) _ | with_reducible exact Nat.le_trans (by assumption) (by decide) | with_reducible exact Nat.sub_succ_lt_self (by assumption) | with_reducible exact Nat.lt_of_lt_of_le (by assumption) (by assumption) | with_reducible exact Nat.le_trans (by assumption) (by assumption) | decide | omega), by have := r.units; show A.units + 3 + 0 + 10 * n + 100 < 9900; (first | with_reducible assumption | with_reducible exact Nat.add_le_add_left (by decide) _ | with_reducible exact Nat.le_trans (by assumption) (by decide) | with_reducible exact Nat.sub_succ_lt_self (by assumption) | with_reducible exact Nat.lt_of_lt_of_le (by assumption) (by assumption) | with_reducible exact Nat.le_trans (by assumption) (by assumption) | decide | omega)⟩
end NB90
end
section
set_option autoImplicit false
open PySem PySem.W PyProof.Rows
set_option Elab.async false
set_option maxRecDepth 100000
namespace NB90
variable {h₀ : Heap} {mg mb : Str → Option Value} {W : Addr → Prop} {z₀ z z' z₁ : Fz} {s₀ s s' s₁ : Shared} {env : Env} {ρ : List (Str × Value)} {prog : Program} {w : World} {A : Around} {E : Value → Shared → Prop}

noncomputable def two : Str := Str.ofString "  "
noncomputable def tagOf (k : Int) : Str := if k = 1 then Str.ofString "- " else Str.ofString "+ "
noncomputable def keepL (tg l : Str) : Bool := decide (Txt.slice l none (some 2) ∈ [two, tg])
noncomputable def cutL (l : Str) : Str := Txt.slice l (some 2) none
noncomputable def restL (tg : Str) (lines : List Str) : List Str := (lines.filter (keepL tg)).map cutL

/-- the places that a generator of restore holds on to -/
noncomputable def Ft (L gen : Addr) (s : Shared) (a : Addr) : Prop := a = L ∨ a = gen ∨ ∃ m p, s.heap.Ns L m ∧ m (Str.ofString "prefixes") = some (.ref p) ∧ (a = p ∨ a = p + 1)
noncomputable def F4 (L gen p : Addr) (a : Addr) : Prop := a = L ∨ a = gen ∨ a = p ∨ a = p + 1
theorem Ft.is {L gen p : Addr} {m : Str → Option Value} (hn : s.heap.Ns L m) (hp : m (Str.ofString "prefixes") = some (.ref p)) (a : Addr) : Ft L gen s a ↔ F4 L gen p a := by
  constructor
  · rintro (h | h | ⟨m', p', hn', hp', h⟩)
    · exact .inl h
    · exact .inr (.inl h)
    · rw [← hn.agree hn', hp] at hp'; cases hp'; exact .inr (.inr h)
  · rintro (h | h | h)
    · exact .inl h
    · exact .inr (.inl h)
    · exact .inr (.inr ⟨m, p, hn, hp, h⟩)
theorem Ft.fresh {L gen : Addr} {m : Str → Option Value} (hn : s.heap.Ns L m) (hp : m (Str.ofString "prefixes") = none) (a : Addr) : Ft L gen s a ↔ a = L ∨ a = gen := by
  constructor
  · rintro (h | h | ⟨m', p', hn', hp', h⟩)
    · exact .inl h
    · exact .inr h
    · rw [← hn.agree hn', hp] at hp'; cases hp'
  · rintro (h | h)
    · exact .inl h
    · exact .inr (.inl h)
theorem Ft.keep {L gen : Addr} {m : Str → Option Value} (hn : s.heap.Ns L m) (hk : ∀ o, s.heap.get? L = some o → s'.heap.get? L = some o) (a : Addr) : Ft L gen s' a ↔ Ft L gen s a := by
  have hn' : s'.heap.Ns L m := hn.at' hk
  constructor
  · rintro (h | h | ⟨m', p', h1, hp', h⟩)
    · exact .inl h
    · exact .inr (.inl h)
    · exact .inr (.inr ⟨m, p', hn, by rw [hn'.agree h1]; exact hp', h⟩)
  · rintro (h | h | ⟨m', p', h1, hp', h⟩)
    · exact .inl h
    · exact .inr (.inl h)
    · exact .inr (.inr ⟨m, p', hn', by rw [hn.agree h1]; exact hp', h⟩)

/-- what a yield of the generator hands on -/
noncomputable def gY (z₀ : Fz) (L gen : Addr) (G : Nat) (outs : List Str) : Protocol := fun m sB v s kap =>
  (∃ x t, outs[outs.length - 1 - m]? = some x ∧ v = .str x t) ∧ Stp (Ft L gen sB) (G + 1) sB s ∧ z₀.In s.heap ∧ s.heap.IsGen gen G ∧ (∃ m, s.heap.Ns L m) ∧ (∀ a, Ft L gen s a → (Ft L gen sB a ∨ sB.heap.objs.size ≤ a) ∧ a < s.heap.objs.size) ∧
    ∀ s'', (∀ a o, Ft L gen s a → s.heap.get? a = some o → s''.heap.get? a = some o) → z₀.In s''.heap → kap (.send .none) s''
noncomputable def gP (L gen : Addr) (G : Nat) : Nat → Shared → Shared → Prop := fun n sB s => n = 0 ∧ Stp (Ft L gen sB) (G + 1) sB s
noncomputable def gR (L gen : Addr) (G : Nat) : GenEnd := fun n sB r s => r = .ok (.ret .none) ∧ gP L gen G n sB s

/-- where the loop stands -/
structure Sus (z₀ : Fz) (env : Env) (gen : Addr) (G : Nat) (p l : Addr) (tg : Str) (i : Nat) (s : Shared) : Prop where
  zin : z₀.In s.heap
  fm : Fm z₀ s.heap env [(Str.ofString "prefixes", .ref p)]
  tup : ∃ t1 t2 n, s.heap.get? p = some { cls := .type "tuple", data := .seq #[.str two t1, .str tg t2] n }
  it : s.heap.IsListIter (p + 1) l i
  zp : ∀ o, ¬ z₀ (p + 1) o
  gn : s.heap.IsGen gen G

theorem Sus.lt {gen p l : Addr} {G : Nat} {tg : Str} {i : Nat} (x : Sus z₀ env gen G p l tg i s) {a : Addr} (h : F4 env.locals gen p a) : a < s.heap.objs.size := by
  rcases h with rfl | rfl | rfl | rfl
  · obtain ⟨m, hn, _⟩ := x.fm.ns; exact hn.lt
  · obtain ⟨o, _, _, ho, _⟩ := x.gn; exact Heap.lt_size ho
  · obtain ⟨_, _, _, ho⟩ := x.tup; exact Heap.lt_size ho
  · obtain ⟨o, ho, _⟩ := x.it; exact Heap.lt_size ho
theorem Sus.keep {gen p l : Addr} {G : Nat} {tg : Str} {i : Nat} (x : Sus z₀ env gen G p l tg i s) (hc : ∀ y c, env.cells.lookup y ≠ some c) (hz : z₀.In s'.heap) (hk : ∀ a o, F4 env.locals gen p a → s.heap.get? a = some o → s'.heap.get? a = some o) : Sus z₀ env gen G p l tg i s' where
  zin := hz
  fm := { x.fm with
    ns := let ⟨m, hn, hm⟩ := x.fm.ns; ⟨m, hn.at' fun o e => hk _ o (.inl rfl) e, hm⟩
    cell := fun y v hk' hv => let ⟨c, hc', _⟩ := x.fm.cell y v hk' hv; absurd hc' (hc y c)
    cz := fun y c hc' => absurd hc' (hc y c) }
  tup := let ⟨t1, t2, n, ho⟩ := x.tup; ⟨t1, t2, n, hk _ _ (.inr (.inr (.inl rfl))) ho⟩
  it := let ⟨o, ho, r⟩ := x.it; ⟨o, hk _ o (.inr (.inr (.inr rfl))) ho, r⟩
  zp := x.zp
  gn := let ⟨o, nm, qn, ho, r⟩ := x.gn; ⟨o, nm, qn, hk _ o (.inr (.inl rfl)) ho, r⟩

theorem outs_at {tg : Str} {lines : List Str} {i : Nat} (hi : i < lines.length) (hk : keepL tg lines[i] = true) :
    ((lines.drop i).filter (keepL tg)).length = ((lines.drop (i + 1)).filter (keepL tg)).length + 1 ∧
    (restL tg lines)[(restL tg lines).length - 1 - ((lines.drop (i + 1)).filter (keepL tg)).length]? = some (cutL lines[i]) := by
  have h1 : lines.drop i = lines[i] :: lines.drop (i + 1) := List.drop_eq_getElem_cons hi
  refine ⟨by rw [h1, List.filter_cons, if_pos hk]; rfl, ?_⟩
  have h2 : restL tg lines = ((lines.take i).filter (keepL tg)).map cutL ++ cutL lines[i] :: ((lines.drop (i + 1)).filter (keepL tg)).map cutL := by
    unfold restL
    conv => lhs; rw [← List.take_append_drop i lines, h1]
    rw [List.filter_append, List.filter_cons, if_pos hk, List.map_append, List.map_cons]
  rw [h2]
  simp only [List.length_append, List.length_cons, List.length_map]
  rw [show ((lines.take i).filter (keepL tg)).length + (((lines.drop (i + 1)).filter (keepL tg)).length + 1) - 1 - ((lines.drop (i + 1)).filter (keepL tg)).length = (((lines.take i).filter (keepL tg)).map cutL).length by rw [List.length_map]; (first | with_reducible assumption | with_reducible exact Nat.add_le_add_left (by decide) _ | with_reducible exact Nat.le_trans (by assumption) (by decide) | with_reducible exact Nat.sub_succ_lt_self (by assumption) | with_reducible exact Nat.lt_of_lt_of_le (by assumption) (by assumption) | with_reducible exact Nat.le_trans (by assumption) (by assumption) | decide | omega)]
  simp
theorem outs_no {tg : Str} {lines : List Str} {i : Nat} (hi : i < lines.length) (hk : keepL tg lines[i] = false) :
    ((lines.drop i).filter (keepL tg)).length = ((lines.drop (i + 1)).filter (keepL tg)).length := by
  rw [List.drop_eq_getElem_cons hi, List.filter_cons, if_neg (by rw [hk]; decide)]

theorem in_pair {n : Nat} {p : Addr} {x y tg : Str} {t t1 t2 : Tok} {k : Nat} {Q : Value → Shared → Prop} (r : Room A n) (hp : s.heap.get? p = some { cls := .type "tuple", data := .seq #[.str y t1, .str tg t2] k }) (hy : Sn y) (hg : Sn tg) (hx : Sn x)
    (h : Q (.bool (decide (x ∈ [y, tg]))) s) : wpAny (model prog w) A (compareOp .In (.str x t) (.ref p)) Q E s := by
  have hl := layAll_strs (xs := [y, tg]) (by intro q hq; simp at hq; rcases hq with rfl | rfl <;> assumption)
  refine SeqAt.in_tuple_reads (xs := [y, tg].map .str) (.tuple hp rfl rfl (.cons (.str _ _) (.cons (.str _ _) .nil))) (.str x t) hl.1 hx.ok (by rw [hl.2]; have := r.un; simp only [PyData.depth]; (first | with_reducible assumption | with_reducible exact Nat.add_le_add_left (by decide) _ | with_reducible exact Nat.le_trans (by assumption) (by decide) | with_reducible exact Nat.sub_succ_lt_self (by assumption) | with_reducible exact Nat.lt_of_lt_of_le (by assumption) (by assumption) | with_reducible exact Nat.le_trans (by assumption) (by assumption) | decide | omega)) ?_
  rw [any_strs]; exact h

theorem slice_mem {x : Str} {a b : Option Int} {c : Nat} (h : c ∈ (Txt.slice x a b).cps.toList) : c ∈ x.cps.toList := by
  unfold Txt.slice at h
  split at h
  · exact h
  · simp only [List.mem_filterMap] at h
    obtain ⟨i, _, hi⟩ := h
    exact Array.mem_toList_iff.mpr (Array.mem_of_getElem? hi)
theorem slice_sn {x : Str} (a b : Option Int) (h : Sn x) : Sn (Txt.slice x a b) := ⟨Nat.le_trans (Txt.slice_le x _ _) h.1, fun c hc => h.2 c (slice_mem hc)⟩
end NB90
end
section
set_option autoImplicit false
open PySem PySem.W PyProof.Rows
set_option Elab.async false
set_option maxRecDepth 100000
namespace NB90
variable {h₀ : Heap} {mg mb : Str → Option Value} {W : Addr → Prop} {z₀ z z' z₁ : Fz} {s₀ s s' s₁ : Shared} {env : Env} {ρ : List (Str × Value)} {prog : Program} {w : World} {A : Around} {E : Value → Shared → Prop}

theorem two_sn : Sn two := tag_sn _ (by unfold two tagL; simp)
theorem tagOf_sn (k : Int) : Sn (tagOf k) := by
  unfold tagOf
  split <;> exact tag_sn _ (by unfold tagL; simp)
theorem Fm.at_ {h h' : Heap} (F : Fm z h env ρ) (hc : ∀ y c, env.cells.lookup y ≠ some c) (hk : ∀ o, h.get? env.locals = some o → h'.get? env.locals = some o) : Fm z h' env ρ :=
  { F with
    ns := let ⟨m, hn, hm⟩ := F.ns; ⟨m, hn.at' hk, hm⟩
    cell := fun y v hk' hv => let ⟨c, hc', _⟩ := F.cell y v hk' hv; absurd hc' (hc y c)
    cz := fun y c hc' => absurd hc' (hc y c) }

theorem gen_loop {m : Nat} {gen p l : Addr} {tg : Str} {lines : List Str} {G : Nat} {B : List Stmt} {k : Result → Sem Fin} {gf : Bool} {lf : List Value} {pf pl p1 p2 p3 p4 p5 p6 q1 q2 q3 q4 q5 q6 q7 : Pos}
    (r : Room A (m + 1)) (hb : Base h₀ z₀) (hS : env.scope = pScopeRestore.1) (hc : ∀ y c, env.cells.lookup y ≠ some c) (htg : Sn tg) (hln : ∀ x ∈ lines, Sn x) (hr : Rd z₀ (.ref l) (.list (lines.map .str))) (hgf : gf = false)
    (hk : ∀ (n : Nat) (sB s : Shared), gR env.locals gen G n sB (.ok (.ret .none)) s → Seg (model prog w) A (gR env.locals gen G) (gY z₀ env.locals gen G (restL tg lines)) n sB (.func B env) (k (.ok .next)) [] s) :
    ∀ (j i : Nat) (s sB : Shared), j = lines.length - i → i ≤ lines.length → Sus z₀ env gen G p l tg i s → Stp (Ft env.locals gen sB) (G + 1) sB s → (∀ a, F4 env.locals gen p a → (Ft env.locals gen sB a ∨ sB.heap.objs.size ≤ a) ∧ a < s.heap.objs.size) →
      Seg (model prog w) A (gR env.locals gen G) (gY z₀ env.locals gen G (restL tg lines)) ((lines.drop i).filter (keepL tg)).length sB
        (.forLoop (.Name (Str.ofString "line") pl) (.ref (p + 1)) [.If (.Compare (.Subscript (.Name (Str.ofString "line") p1) (.Slice none (some (.Constant (.int 2) 0 p2)) none p3) p4) [.In] [.Name (Str.ofString "prefixes") p5] p6)
          [.Expr (.Yield (some (.Subscript (.Name (Str.ofString "line") q1) (.Slice (some (.Constant (.int 2) 0 q2)) none none q3) q4)) q5) q6] [] q7] [] env)
        ((model prog w).den (.forLoop (.Name (Str.ofString "line") pl) (.ref (p + 1)) [.If (.Compare (.Subscript (.Name (Str.ofString "line") p1) (.Slice none (some (.Constant (.int 2) 0 p2)) none p3) p4) [.In] [.Name (Str.ofString "prefixes") p5] p6)
          [.Expr (.Yield (some (.Subscript (.Name (Str.ofString "line") q1) (.Slice (some (.Constant (.int 2) 0 q2)) none none q3) q4)) q5) q6] [] q7] [] env)) [.ret k none gf lf (.func B env) pf []] s := by
  intro j
  induction j with
  | zero =>
    intro i s sB hj hi X t hF
    have hin : i = lines.length := by (first | with_reducible assumption | with_reducible exact Nat.add_le_add_left (by decide) _ | with_reducible exact Nat.le_trans (by assumption) (by decide) | with_reducible exact Nat.sub_succ_lt_self (by assumption) | with_reducible exact Nat.lt_of_lt_of_le (by assumption) (by assumption) | with_reducible exact Nat.le_trans (by assumption) (by assumption) | decide | omega)
    subst hin
    refine seg_forLoop ?_ (fun v => rfl)
    have It := Iter.list (prog := prog) (w := w) (A := A.over (.forLoop (.Name (Str.ofString "line") pl) (.ref (p + 1)) [.If (.Compare (.Subscript (.Name (Str.ofString "line") p1) (.Slice none (some (.Constant (.int 2) 0 p2)) none p3) p4) [.In] [.Name (Str.ofString "prefixes") p5] p6)
          [.Expr (.Yield (some (.Subscript (.Name (Str.ofString "line") q1) (.Slice (some (.Constant (.int 2) 0 q2)) none none q3) q4)) q5) q6] [] q7] [] env) [.ret k none gf lf (.func B env) pf []]) (xs := lines) (enc := PyData.str) (I := p + 1) (l := l) (room_for r).hh (G + 1)
    refine It.stop (· = p + 1) z₀ s _ _ X.zin ⟨rfl, hr, X.it⟩ fun s' t' => ?_
    refine seg_again rfl (seg_block_nil (hk _ _ _ ⟨rfl, by simp, t.then t' fun a ha => (hF a (.inr (.inr (.inr ha)))).1⟩))
  | succ j ih =>
    intro i s sB hj hi X t hF
    have hlt : i < lines.length := by (first | with_reducible assumption | with_reducible exact Nat.add_le_add_left (by decide) _ | with_reducible exact Nat.le_trans (by assumption) (by decide) | with_reducible exact Nat.sub_succ_lt_self (by assumption) | with_reducible exact Nat.lt_of_lt_of_le (by assumption) (by assumption) | with_reducible exact Nat.le_trans (by assumption) (by assumption) | decide | omega)
    have rr := room_for (B := B) (body := [.If (.Compare (.Subscript (.Name (Str.ofString "line") p1) (.Slice none (some (.Constant (.int 2) 0 p2)) none p3) p4) [.In] [.Name (Str.ofString "prefixes") p5] p6)
          [.Expr (.Yield (some (.Subscript (.Name (Str.ofString "line") q1) (.Slice (some (.Constant (.int 2) 0 q2)) none none q3) q4)) q5) q6] [] q7]) (t := .Name (Str.ofString "line") pl) (it := .ref (p + 1)) (env := env) (k := k) (g := gf) (l := lf) (p := pf) r
    have It := Iter.list (prog := prog) (w := w) (A := A.over (.forLoop (.Name (Str.ofString "line") pl) (.ref (p + 1)) [.If (.Compare (.Subscript (.Name (Str.ofString "line") p1) (.Slice none (some (.Constant (.int 2) 0 p2)) none p3) p4) [.In] [.Name (Str.ofString "prefixes") p5] p6)
          [.Expr (.Yield (some (.Subscript (.Name (Str.ofString "line") q1) (.Slice (some (.Constant (.int 2) 0 q2)) none none q3) q4)) q5) q6] [] q7] [] env) [.ret k none gf lf (.func B env) pf []]) (xs := lines) (enc := PyData.str) (I := p + 1) (l := l) rr.hh (G + 1)
    have hsn := hln lines[i] (List.getElem_mem hlt)
    generalize hAA : A.over (.forLoop (.Name (Str.ofString "line") pl) (.ref (p + 1)) [.If (.Compare (.Subscript (.Name (Str.ofString "line") p1) (.Slice none (some (.Constant (.int 2) 0 p2)) none p3) p4) [.In] [.Name (Str.ofString "prefixes") p5] p6)
          [.Expr (.Yield (some (.Subscript (.Name (Str.ofString "line") q1) (.Slice (some (.Constant (.int 2) 0 q2)) none none q3) q4)) q5) q6] [] q7] [] env) [.ret k none gf lf (.func B env) pf []] = AA at *
    refine seg_forLoop ?_ (fun v => rfl)
    rw [hAA]
    refine It.next i (· = p + 1) z₀ s _ _ hlt X.zin ⟨rfl, hr, X.it⟩ fun v s' T' hP hst' t' _ => ?_
    obtain ⟨hT', _, hit'⟩ := hst'
    obtain ⟨tx, rfl⟩ := (hP lines[i] (List.getElem?_eq_getElem hlt)).isStr
    have hLp : env.locals ≠ p + 1 := fun e => by
      obtain ⟨mm, ⟨o, es, ep, ho, hd, _⟩, _⟩ := X.fm.ns
      obtain ⟨o', ho', _, hd'⟩ := X.it
      rw [e, ho'] at ho; cases ho; rw [hd'] at hd; cases hd
    have hLt : env.locals ≠ p := fun e => by
      obtain ⟨mm, ⟨o, es, ep, ho, hd, _⟩, _⟩ := X.fm.ns
      obtain ⟨t1, t2, n, ho'⟩ := X.tup
      rw [e, ho'] at ho; cases ho; cases hd
    have hLg : env.locals ≠ gen := fun e => by
      obtain ⟨mm, ⟨o, es, ep, ho, hd, _⟩, _⟩ := X.fm.ns
      obtain ⟨o', _, _, ho', _, hd', _⟩ := X.gn
      rw [e, ho'] at ho; cases ho; rw [hd'] at hd; cases hd
    have hgp : gen ≠ p + 1 := fun e => by
      obtain ⟨o, ho, hcl, _⟩ := X.it
      obtain ⟨o', _, _, ho', hcl', _⟩ := X.gn
      rw [← e, ho'] at ho; cases ho; rw [hcl'] at hcl
      injection hcl with h2
      exact absurd h2 (by decide)
    have hpp : p ≠ p + 1 := Nat.ne_of_lt (Nat.lt_succ_self p)
    have hz' : z₀.In s'.heap := fun b o e => t'.keep b o (fun h => X.zp o (h ▸ e)) (X.zin b o e)
    have J := Inn.freeAt (X.fm.at_ hc fun o e => t'.keep _ o hLp e) hz' hb
    refine wpAny_assign_Name (J.st (Nat.zero_le _) (kind_of hS rfl) fun s2 J2 t2 H => ?_)
    have tB2 : Stp (Ft env.locals gen sB) (G + 1) sB s2 := (t.then t' fun a ha => (hF a (.inr (.inr (.inr ha)))).1).then (t2.stp (G := G + 1)) fun a ha => (hF a (.inl ha)).1
    have X2 : Sus z₀ env gen G p l tg (i + 1) s2 := ⟨J2.inn, (J2.weak (ρ' := [(Str.ofString "prefixes", .ref p)]) (weak_cons rfl)).frame, let ⟨t1, u2, n, ho⟩ := X.tup; ⟨t1, u2, n, t2.keep _ _ (Ne.symm hLt) (t'.keep _ _ hpp ho)⟩, let ⟨o, ho, rr⟩ := hit'; ⟨o, t2.keep _ o (Ne.symm hLp) ho, rr⟩, X.zp, let ⟨o, nm, qn, ho, rr⟩ := X.gn; ⟨o, nm, qn, t2.keep _ o (fun e => hLg e.symm) (t'.keep _ o hgp ho), rr⟩⟩
    have hs2 : s.heap.objs.size ≤ s2.heap.objs.size := Nat.le_trans t'.size t2.size
    have hF2 : ∀ a, F4 env.locals gen p a → (Ft env.locals gen sB a ∨ sB.heap.objs.size ≤ a) ∧ a < s2.heap.objs.size := fun a ha => ⟨(hF a ha).1, Nat.lt_of_lt_of_le (hF a ha).2 hs2⟩
    refine seg_execs_cons (seg_If ?_)
    rw [hAA]
    have K := J2.here
    with_reducible refine test_cmp ?_ (Cut_ ?_)
    · rfl
    refine K.ld rfl (.inl (kind_of hS rfl)) ?_
    refine evalPart_none_step (evalPart_some_step (K.int fun t3 s3 K3 => ?_))
    refine cut_str (l := none) (u := some (2, t3)) K3 (le_line (by have := hsn.1; (first | with_reducible assumption | with_reducible exact Nat.add_le_add_left (by decide) _ | with_reducible exact Nat.le_trans (by assumption) (by decide) | with_reducible exact Nat.sub_succ_lt_self (by assumption) | with_reducible exact Nat.lt_of_lt_of_le (by assumption) (by assumption) | with_reducible exact Nat.le_trans (by assumption) (by assumption) | decide | omega))) fun t4 s4 K4 => ?_
    refine K4.ld rfl (.inl (kind_of hS rfl)) ?_
    obtain ⟨u1, u2, un, hto⟩ := X2.tup
    refine in_pair rr (K4.grow.all _ _ hto) two_sn htg (slice_sn _ _ hsn) (wpAny_truthy_bool ?_)
    have X4 : Sus z₀ env gen G p l tg (i + 1) s4 := X2.keep hc K4.inn fun a o _ e => K4.grow.all a o e
    have tB4 : Stp (Ft env.locals gen sB) (G + 1) sB s4 := tB2.trans K4.grow.toTo.no.stp
    have hF4 : ∀ a, F4 env.locals gen p a → (Ft env.locals gen sB a ∨ sB.heap.objs.size ≤ a) ∧ a < s4.heap.objs.size := fun a ha => ⟨(hF2 a ha).1, Nat.lt_of_lt_of_le (hF2 a ha).2 K4.grow.size⟩
    change if keepL tg lines[i] = true then _ else _
    cases hkp : keepL tg lines[i] with
    | false =>
      rw [if_neg Bool.false_ne_true, outs_no hlt hkp]
      refine seg_execs_nil ?_
      refine seg_execs_nil ?_
      exact seg_again rfl (ih (i + 1) s4 sB (by (first | with_reducible assumption | with_reducible exact Nat.add_le_add_left (by decide) _ | with_reducible exact Nat.le_trans (by assumption) (by decide) | with_reducible exact Nat.sub_succ_lt_self (by assumption) | with_reducible exact Nat.lt_of_lt_of_le (by assumption) (by assumption) | with_reducible exact Nat.le_trans (by assumption) (by assumption) | decide | omega)) hlt X4 tB4 hF4)
    | true =>
      obtain ⟨hn, hx⟩ := outs_at hlt hkp
      rw [if_pos rfl, hn]
      refine seg_execs_cons (seg_Expr_Yield rfl rfl (by simp [Frame.guarded, hgf]) ?_ (by rw [hS]; rfl) (by unfold interactive; rw [hS]; rfl))
      rw [hAA]
      have L4 := K4.here
      with_reducible refine Cut_ ?_
      refine L4.ld rfl (.inl (kind_of hS rfl)) ?_
      refine evalPart_some_step (L4.int fun t5 s5 L5 => evalPart_none_step ?_)
      refine cut_str (l := some (2, t5)) (u := none) L5 (le_line (by have := hsn.1; (first | with_reducible assumption | with_reducible exact Nat.add_le_add_left (by decide) _ | with_reducible exact Nat.le_trans (by assumption) (by decide) | with_reducible exact Nat.sub_succ_lt_self (by assumption) | with_reducible exact Nat.lt_of_lt_of_le (by assumption) (by assumption) | with_reducible exact Nat.le_trans (by assumption) (by assumption) | decide | omega))) fun t6 s6 L6 => ?_
      intro kap hkap
      have X6 : Sus z₀ env gen G p l tg (i + 1) s6 := X4.keep hc L6.inn fun a o _ e => L6.grow.all a o e
      obtain ⟨m6, hn6, hm6⟩ := X6.fm.ns
      have hft := Ft.is (gen := gen) hn6 (hm6 _ _ (kind_of hS rfl) rfl)
      refine ⟨⟨_, t6, hx, rfl⟩, tB4.trans L6.grow.toTo.no.stp, L6.inn, X6.gn, ⟨_, hn6⟩, fun a ha => ?_, fun s'' hal hz'' => hkap _ _ ?_⟩
      · have := hF4 a ((hft a).mp ha)
        exact ⟨this.1, Nat.lt_of_lt_of_le this.2 L6.grow.size⟩
      · have X7 : Sus z₀ env gen G p l tg (i + 1) s'' := X6.keep hc hz'' fun a o ha e => hal a o ((hft a).mpr ha) e
        obtain ⟨m7, hn7, hm7⟩ := X7.fm.ns
        have hft7 := Ft.is (gen := gen) hn7 (hm7 _ _ (kind_of hS rfl) rfl)
        refine seg_execs_nil ?_
        refine seg_execs_nil ?_
        refine seg_again rfl (ih (i + 1) s'' s'' (by (first | with_reducible assumption | with_reducible exact Nat.add_le_add_left (by decide) _ | with_reducible exact Nat.le_trans (by assumption) (by decide) | with_reducible exact Nat.sub_succ_lt_self (by assumption) | with_reducible exact Nat.lt_of_lt_of_le (by assumption) (by assumption) | with_reducible exact Nat.le_trans (by assumption) (by assumption) | decide | omega)) hlt X7 (Stp.refl _ _ _) fun a ha => ⟨.inl ((hft7 a).mpr ha), ?_⟩)
        exact X7.lt ha
end NB90
end
section
set_option autoImplicit false
open PySem PySem.W PyProof.Rows
set_option Elab.async false
set_option maxRecDepth 100000
namespace NB90
variable {h₀ : Heap} {mg mb : Str → Option Value} {W : Addr → Prop} {z₀ z z' z₁ : Fz} {s₀ s s' s₁ : Shared} {env : Env} {ρ : List (Str × Value)} {prog : Program} {w : World} {A : Around} {E : Value → Shared → Prop}

theorem weak_head {x : Str} {v : Value} : ∀ y u, [(x, v)].lookup y = some u → ((x, v) :: ρ).lookup y = some u := fun y u h => by
  rw [List.lookup_cons] at h ⊢
  cases hb : y == x with
  | true => rw [hb] at h; exact h
  | false => rw [hb] at h; cases h

/-- «{1: '- ', 2: '+ '}[int(which)]» -/
theorem ev_tag {k : Int} {tk : Tok} {p1 p2 p3 p4 p5 p6 p7 p8 p9 : Pos} {Q : Value → Shared → Prop} (J : Inn h₀ W z₀ s₀ env ρ z s) (G : Gd h₀ mg mb) (hk : k = 1 ∨ k = 2) (hw : ρ.lookup (Str.ofString "which") = some (.int k tk))
    (hk1 : env.kindOf (Str.ofString "which") = some .local) (hk2 : env.kindOf (Str.ofString "int") = some .globalImplicit) (h : ∀ t s', Inn h₀ W z₀ s₀ env ρ z s' → Q (.str (tagOf k) t) s') :
    wpAny (model prog w) A (eval (.Subscript (.Dict [some (.Constant (.int 1) 0 p1), some (.Constant (.int 2) 0 p2)] [.Constant (.str (Str.ofString "- ")) 0 p3, .Constant (.str (Str.ofString "+ ")) 0 p4] p5)
      (.Call (.Name (Str.ofString "int") p6) [.Name (Str.ofString "which") p7] [] p8) p9) env) Q E s := by
  have hq1 : litPairs [some (.Constant (.int 1) 0 p1), some (.Constant (.int 2) 0 p2)] [.Constant (.str (Str.ofString "- ")) 0 p3, .Constant (.str (Str.ofString "+ ")) 0 p4] = some [(.int 1, .str (Str.ofString "- ")), (.int 2, .str (Str.ofString "+ "))] := rfl
  with_reducible refine Subscript_ (Dict_lits_int hq1 ?_ ?_ ?_ ?_ ?_ ?_ ?_)
  · rfl
  · decide
  · rfl
  · rfl
  · simp
  · show 2 ≤ 15; decide
  intro a o h₁ tk' ha ho T hkp
  have hsz : s.heap.objs.size ≤ h₁.objs.size := Nat.le_trans ha (Nat.le_of_lt (Heap.lt_size ho))
  have J1 : Inn h₀ W z₀ s₀ env ρ z { s with heap := h₁, toks := tk' } := J.to (To.heap hkp hsz No)
  with_reducible refine ev_callT J1 G G.int.1 G.int.2 hk2 ?_ ?_ ?_
  · decide
  · rfl
  refine J1.ld hw (.inl hk1) (call_int_int ?_)
  obtain ⟨kvs, hd, hf⟩ := T
  have hD : h₁.DictOf (intKind prog w) a kvs := Heap.dictOf_iff.mpr ⟨o, ho, hd⟩
  have hlk : PySem.Spec.lookup (.int k) [(PyData.int 1, PyData.str (Str.ofString "- ")), (.int 2, .str (Str.ofString "+ "))] = some (.str (tagOf k)) := by
    rcases hk with rfl | rfl <;> rfl
  obtain ⟨v, hv, hfl⟩ := hf.of_lookup (k := k) PyProof.V.same_int hlk
  obtain ⟨t, rfl⟩ := hfl.str_inv
  exact tail_any hD.typeIs slot_dict_getitem.lookup (wpAny_getItem_of (intKind_is prog w k tk) hD.mapOf hv (h t _ (J1.tok _))) rfl

theorem gen_body {m : Nat} {gen l : Addr} {k : Int} {tk : Tok} {lines : List Str} {Gn : Nat} {BB : List Stmt} {H : Value → Sem Fin} (r : Room A (m + 1)) (G : Gd h₀ mg mb) (hb : Base h₀ z₀) (hS : env.scope = pScopeRestore.1) (hc : ∀ y c, env.cells.lookup y ≠ some c) (hk : k = 1 ∨ k = 2)
    (hln : ∀ x ∈ lines, Sn x) (hr : Rd z₀ (.ref l) (.list (lines.map .str))) (hz : z₀.In s.heap) (hfm : Fm z₀ s.heap env [(Str.ofString "which", .int k tk), (Str.ofString "delta", .ref l)]) (hgn : s.heap.IsGen gen Gn) :
    Seg (model prog w) A (gR env.locals gen Gn) (gY z₀ env.locals gen Gn (restL (tagOf k) lines)) (restL (tagOf k) lines).length s (.func BB env) ((execs pBodyRestore.1 env).wrap (fun f => .pure (.done (.ret (match f with | .ret v => v | _ => .none)))) H id id) [] s := by
  have J := Inn.freeAt hfm hz hb
  have rr := room_func (env := env) (B := BB) r
  generalize hAA : A.over (.func BB env) [] = AA at *
  have hLg : gen ≠ env.locals := fun e => by
    obtain ⟨mm, ⟨o, es, ep, ho, hd, _⟩, _⟩ := hfm.ns
    obtain ⟨o', _, _, ho', _, hd', _⟩ := hgn
    rw [← e, ho'] at ho; cases ho; rw [hd'] at hd; cases hd
  simp only [pBodyRestore]
  with_reducible refine seg_execs_cons (seg_plain ?_)
  rw [hAA]
  with_reducible refine wpAny_Try_except (wpAny_execs_cons (asg ?_ ?_))
  · rfl
  with_reducible refine ev_tag (tk := tk) J.here G hk ?_ ?_ ?_ ?_
  · rfl
  · exact kind_of hS rfl
  · exact kind_of hS rfl
  intro t1 s1 K1
  refine K1.free.stS (Nat.zero_le _) (kind_of hS rfl) fun s2 J2 t2 _ => wpAny_execs_nil (wpAny_execs_nil ?_)
  have tB2 : Stp (Ft env.locals gen s) (Gn + 1) s s2 := (K1.grow.toTo.no.stp).then (t2.stp (G := Gn + 1)) fun a ha => .inl (.inl ha)
  with_reducible refine seg_execs_cons (seg_plain ?_)
  rw [hAA]
  with_reducible refine asg ?_ (Tuple_ (arg_c ?_ ?_))
  · rfl
  · rfl
  have K2 := J2.here
  refine K2.str fun t3 s3 K3 => ?_
  with_reducible refine arg_c ?_ ?_
  · rfl
  refine K3.ld rfl (.inl (kind_of hS rfl)) (arg_n (wpAny_newObj_type ?_))
  generalize hp : s3.heap.objs.size = p
  have K4 := K3.pushTmp { cls := .type "tuple", data := .seq [Value.str (Str.ofString "  ") t3, Value.str (tagOf k) t1].toArray } s3.toks
  refine K4.free.stS (Nat.zero_le _) (kind_of hS rfl) fun s5 J5 t5 hsz5 => ?_
  have hsz5 : s5.heap.objs.size = p + 1 := by rw [hsz5, Heap.size_push, hp]
  have hpL : p ≠ env.locals := fun e => by
    obtain ⟨m, hn, _⟩ := K3.frame.ns
    exact Nat.lt_irrefl _ (hp ▸ e ▸ hn.lt)
  have htup : s5.heap.get? p = some { cls := .type "tuple", data := .seq [Value.str (Str.ofString "  ") t3, Value.str (tagOf k) t1].toArray } := t5.keep _ _ hpL (hp ▸ Heap.get?_push_size _ rfl)
  have tB5 : Stp (Ft env.locals gen s) (Gn + 1) s s5 := (tB2.trans K4.grow.toTo.no.stp).then (t5.stp (G := Gn + 1)) fun a ha => .inl (.inl ha)
  with_reducible refine seg_execs_cons (seg_For ?_ ?_)
  · rw [hAA]
    refine J5.ld rfl (.inl (kind_of hS rfl)) ?_
    obtain ⟨l', vs, e, hl, ha⟩ := hr.listIn J5.inn
    cases e
    refine wpAny_pyIter_list hl ?_
    rw [hsz5]
    intro kk pp hkk
    have J6 := J5.here.pushTmp { cls := .type "list_iterator", data := .fields #[.ref l, .int 0 0] } s5.toks
    have hgen6 : (s5.heap.push { cls := .type "list_iterator", data := .fields #[.ref l, .int 0 0] }).IsGen gen Gn := by
      obtain ⟨o, nm, qn, ho, rest⟩ := hgn
      refine ⟨o, nm, qn, J6.grow.all _ _ (t5.keep _ _ hLg (K4.grow.all _ _ (t2.keep _ _ hLg (K1.grow.all _ _ ho)))), rest⟩
    have X : Sus z₀ env gen Gn p l (tagOf k) 0 { s5 with heap := s5.heap.push { cls := .type "list_iterator", data := .fields #[.ref l, .int 0 0] } } :=
      ⟨J6.inn, (J6.weak (ρ' := [(Str.ofString "prefixes", .ref p)]) weak_head).frame, ⟨_, _, _, J6.grow.all _ _ htup⟩, ⟨_, hsz5 ▸ Heap.get?_push_size _ rfl, rfl, rfl⟩, fun o e => Nat.lt_irrefl _ (hsz5 ▸ Heap.lt_size (J5.inn _ _ e)), hgen6⟩
    have e : (restL (tagOf k) lines).length = ((lines.drop 0).filter (keepL (tagOf k))).length := by simp [restL]
    rw [e]
    with_reducible refine gen_loop (m := m) r hb hS hc (tagOf_sn k) hln hr ?_ ?_ lines.length 0 _ s ?_ (Nat.zero_le _) X ?_ ?_
    · rfl
    · intro n sB s7 h7
      rw [hkk]
      exact seg_execs_nil (seg_end (.ok (.ret .none)) h7)
    · rfl
    · exact tB5.trans J6.grow.toTo.no.stp
    · intro a ha
      refine ⟨?_, X.lt ha⟩
      have hps : s.heap.objs.size ≤ p := hp ▸ Nat.le_trans K1.grow.size (Nat.le_trans t2.size K3.grow.size)
      rcases ha with h | h | h | h
      · exact .inl (.inl h)
      · exact .inl (.inr (.inl h))
      · exact .inr (h ▸ hps)
      · exact .inr (h ▸ Nat.le_succ_of_le hps)
  · intro x; rfl
end NB90
end
section
set_option autoImplicit false
open PySem PySem.W PyProof.Rows
set_option Elab.async false
set_option maxRecDepth 100000
namespace NB90
variable {h₀ : Heap} {mg mb : Str → Option Value} {W : Addr → Prop} {z₀ z z' z₁ : Fz} {s₀ s s' s₁ : Shared} {env : Env} {ρ : List (Str × Value)} {prog : Program} {w : World} {A : Around} {E : Value → Shared → Prop}

theorem Stp.down {T : Addr → Prop} {G : Nat} (t : Stp T (G + 1) s s') : Stp T G s s' := ⟨t.keep, t.size, t.os, fun i x hi e => t.gens i x (Nat.lt_succ_of_lt hi) e, t.bare⟩

/-- where a generator of restore stands -/
noncomputable def gSt (prog : Program) (w : World) (A : Around) (z₀ : Fz) (L gen : Addr) (g : Nat) (outs : List Str) (i : Nat) (T : Addr → Prop) (z : Fz) (s : Shared) : Prop :=
  z₀.le z ∧ T = Ft L gen s ∧ (∃ m, s.heap.Ns L m) ∧ s.heap.IsGen gen g ∧ (∃ gs, s.gens[g]? = some gs ∧
    ∀ s'', (∀ a o, T a → s.heap.get? a = some o → s''.heap.get? a = some o) → z₀.In s''.heap → gs.Goes (model prog w) A.in1 (gR L gen g) (gY z₀ L gen g outs) (outs.length - i) (.send .none) s'')

theorem gIter {n : Nat} {L gen : Addr} {g : Nat} {outs : List Str} (r : Room A n) (lim : h₀.NoLimit) (hb : Base h₀ z₀) :
    Iter prog w A gen g outs.length (fun i z v => ∀ a, outs[i]? = some a → Rd z v (.str a)) (gSt prog w A z₀ L gen g outs) where
  next := fun i T z s Q E hi hz ⟨hle, hT, hns, hgn, gs, hgs, hgo⟩ h => by
    have hz₀ : z₀.In s.heap := fun b o e => hz b o (hle b o e)
    obtain ⟨q, hq⟩ : ∃ q, outs.length - i = q + 1 := ⟨outs.length - i - 1, by (first | with_reducible assumption | with_reducible exact Nat.add_le_add_left (by decide) _ | with_reducible exact Nat.le_trans (by assumption) (by decide) | with_reducible exact Nat.sub_succ_lt_self (by assumption) | with_reducible exact Nat.lt_of_lt_of_le (by assumption) (by assumption) | with_reducible exact Nat.le_trans (by assumption) (by assumption) | decide | omega)⟩
    rw [hq] at hgo
    refine next_gen (P := gP L gen g) r.hh (lim.keeps (hb.keep hz₀)) r.lt hgn hgs (hgo _ (fun _ _ _ e => e) hz₀) (fun v s₁ gs' hbare hY => ?_) (fun s₁ hp => absurd hp.1 (Nat.succ_ne_zero q))
    obtain ⟨⟨x, t, hx, rfl⟩, hst, hz1, hgenI, hns1, hT1, hkap⟩ := hY
    have hxi : outs[i]? = some x := by
      have : outs.length - 1 - (q + 1 - 1) = i := by (first | with_reducible assumption | with_reducible exact Nat.add_le_add_left (by decide) _ | with_reducible exact Nat.le_trans (by assumption) (by decide) | with_reducible exact Nat.sub_succ_lt_self (by assumption) | with_reducible exact Nat.lt_of_lt_of_le (by assumption) (by assumption) | with_reducible exact Nat.le_trans (by assumption) (by assumption) | decide | omega)
      rw [this] at hx; exact hx
    refine h _ _ (Ft L gen s₁) (fun a ha => by rw [hxi] at ha; cases ha; exact .str _ _) ⟨hle, rfl, hns1, hgenI, gs', ?_, fun s'' hk hz'' => ?_⟩ ?_ ?_
    · exact setGen_self (gs := .running) (hst.gens g _ (Nat.lt_succ_self g) (setGen_self hgs))
    · have : outs.length - (i + 1) = q := by (first | with_reducible assumption | with_reducible exact Nat.add_le_add_left (by decide) _ | with_reducible exact Nat.le_trans (by assumption) (by decide) | with_reducible exact Nat.sub_succ_lt_self (by assumption) | with_reducible exact Nat.lt_of_lt_of_le (by assumption) (by assumption) | with_reducible exact Nat.le_trans (by assumption) (by assumption) | decide | omega)
      rw [this]
      exact hkap s'' hk hz''
    · subst hT
      exact ((stp_set (by rfl)).trans hst.down).trans (stp_set hbare)
    · subst hT
      exact hT1
  stop := fun T z s Q E hz ⟨hle, hT, hns, hgn, gs, hgs, hgo⟩ h => by
    have hz₀ : z₀.In s.heap := fun b o e => hz b o (hle b o e)
    rw [Nat.sub_self] at hgo
    refine next_gen (P := gP L gen g) r.hh (lim.keeps (hb.keep hz₀)) r.lt hgn hgs (hgo _ (fun _ _ _ e => e) hz₀) (fun v s₁ gs' hbare hY => ?_) (fun s₁ hp h' hk hsz => ?_)
    · obtain ⟨_, hst, hz1, _, hns1, hT1, hkap⟩ := hY
      exact (hkap s₁ (fun _ _ _ e => e) hz1).elim
    · subst hT
      have t1 : Stp (Ft L gen s) g s (s₁.setGen g .finished) := ((stp_set (by rfl)).trans hp.2.down).trans (stp_set (by rfl))
      exact h _ ⟨fun b o hb e => hk b o (t1.keep b o hb e), Nat.le_trans t1.size hsz, t1.os, t1.gens, t1.bare⟩
  keep := fun i T z z' s s' ⟨hle, hT, hns, hgn, gs, hgs, hgo⟩ hzz hk hg => by
    subst hT
    obtain ⟨m, hn⟩ := hns
    have hL : ∀ o, s.heap.get? L = some o → s'.heap.get? L = some o := fun o e => hk L o (.inl rfl) e
    have hFt : Ft L gen s' = Ft L gen s := funext fun a => propext (Ft.keep hn hL a)
    refine ⟨hle.trans hzz, hFt.symm, ⟨m, hn.at' hL⟩, let ⟨o, nm, qn, ho, rr⟩ := hgn; ⟨o, nm, qn, hk gen o (.inr (.inl rfl)) ho, rr⟩, gs, hg g gs hgs, fun s'' hk' hz'' => hgo s'' (fun a o ha e => hk' a o ha (hk a o ha e)) hz''⟩
  self := fun i T z s Q E hz ⟨hle, hT, hns, hgn, _⟩ h => wpAny_pyIter_gen hgn h

theorem restore_new {n : Nat} {a l : Addr} {cd : Value} {k : Int} {tk : Tok} {lines : List Str} {Q : Value → Shared → Prop} (r : Room A (n + 1)) (G : Gd h₀ mg mb) (f : FnOk h₀ (Str.ofString "restore") pArgsRestore.1 pBodyRestore.1 pScopeRestore.1 a cd)
    (hz : z.In s.heap) (hb : Base h₀ z) (hk : k = 1 ∨ k = 2) (hln : ∀ x ∈ lines, Sn x) (hr : Rd z (.ref l) (.list (lines.map .str)))
    (h : ∀ gen L s', To No s s' → (∀ A' m, Room A' (m + 2) → gSt prog w A' z L gen s.gens.size (restL (tagOf k) lines) 0 (fun a => a = L ∨ a = gen) z s') → (s.heap.objs.size ≤ L ∧ L < s'.heap.objs.size) → (s.heap.objs.size ≤ gen ∧ gen < s'.heap.objs.size) → Q (.ref gen) s') :
    wpAny (model prog w) A (call (.ref a) [.ref l, .int k tk]) Q E s := by
  obtain ⟨o, pm, doc, ho, hd⟩ := f.at_
  have hk' : ∀ x ∈ [(Str.ofString "delta", Value.ref l), (Str.ofString "which", Value.int k tk)], pScopeRestore.1.names.lookup x.1 = some .local ∨ (pScopeRestore.1.names.lookup x.1 = some .cell ∧ ((cellsFrom (s.heap.objs.size + 1) pScopeRestore.1.names []).lookup x.1).isSome = true) := fun x hx => by
    simp only [List.mem_cons, List.not_mem_nil, or_false] at hx
    rcases hx with rfl | rfl <;> exact .inl rfl
  refine wpAny_call (codeAny_call_generator (fd := Calls.docDef (Str.ofString "restore") pArgsRestore.1 pBodyRestore.1 pScopeRestore.1 pm cd doc) r.lt (hz _ _ (hb _ _ ho)) hd rfl rfl rfl (f.code.keeps fun b o e => hz _ _ (hb _ _ e)) ?_)
  rw [show bindArgs (Calls.docDef (Str.ofString "restore") pArgsRestore.1 pBodyRestore.1 pScopeRestore.1 pm cd doc) ⟨[.ref l, .int k tk], []⟩ = pure [(Str.ofString "delta", Value.ref l), (Str.ofString "which", Value.int k tk)] from rfl]
  refine wpAny_pure (wpAny_newFunctionEnv_cells rfl hk' fun env he s2 x => ?_)
  have he' : env = callEnvC (Calls.docDef (Str.ofString "restore") pArgsRestore.1 pBodyRestore.1 pScopeRestore.1 pm cd doc) s.heap.objs.size a := he
  have hS : env.scope = pScopeRestore.1 := by rw [he']; rfl
  have hc : ∀ y c, env.cells.lookup y ≠ some c := by
    intro y c
    rw [he']
    show List.lookup y (cellsFrom (s.heap.objs.size + 1) pScopeRestore.1.names []) ≠ some c
    rw [show cellsFrom (s.heap.objs.size + 1) pScopeRestore.1.names [] = [] from rfl]
    nofun
  rw [he'] at x
  have J := enter_frame (h₀ := h₀) rfl hk' hz hb x
  rw [← he'] at J
  have hL : env.locals = s.heap.objs.size := by rw [he']; rfl
  obtain ⟨hh2, tk2, hs2⟩ := x.toInCall.same
  have hg2 : s2.gens = s.gens := by rw [hs2]
  refine ⟨G.lim.keeps J.keep0, ?_⟩
  generalize hob : ({ cls := .type "generator", data := .fields #[.int s2.gens.size 0, .str (Calls.docDef (Str.ofString "restore") pArgsRestore.1 pBodyRestore.1 pScopeRestore.1 pm cd doc).name s2.toks, .str (Calls.docDef (Str.ofString "restore") pArgsRestore.1 pBodyRestore.1 pScopeRestore.1 pm cd doc).qualname (s2.toks + 1)] } : Obj) = ob
  have hfr : ob.isFreed = false := by rw [← hob]; rfl
  have hgen : (s2.heap.push ob).IsGen s2.heap.objs.size s.gens.size := ⟨ob, _, _, Heap.get?_push_size _ hfr, by rw [← hob], by rw [← hob, hg2], by rw [← hob]⟩
  have t3 : To No s2 { s2 with gens := s2.gens.push (.fresh (.func pBodyRestore.1 env)), toks := s2.toks + 1 + 1, heap := s2.heap.push ob } :=
    ⟨fun b o _ e => Heap.get?_push_of_some _ e, by simp, rfl, fun i y e => by
      show (s2.gens.push _)[i]? = some y
      rw [Array.getElem?_push_lt (Array.getElem?_eq_some_iff.mp e).1]
      rw [Array.getElem?_eq_getElem (Array.getElem?_eq_some_iff.mp e).1] at e
      exact e, fun hb => hb.push rfl⟩
  have J3 := J.to t3
  have hnone : ∃ mL, s2.heap.Ns env.locals mL ∧ mL (Str.ofString "prefixes") = none := ⟨_, (he' ▸ x.toInCall.ns : _), by rw [he']; rfl⟩
  obtain ⟨mL, hmL, hpn⟩ := hnone
  have hmL3 := hmL.push ob
  refine h _ env.locals _ (J.grow.toTo.trans t3) (fun A' m' r' => ?_) ⟨by rw [hL]; exact Nat.le_refl _, by simp only [Heap.size_push]; exact Nat.lt_succ_of_lt hmL.lt⟩ ⟨J.grow.size, by simp only [Heap.size_push]; exact Nat.lt_succ_self _⟩
  refine ⟨Fz.le.refl z, funext fun b => propext (Ft.fresh (gen := s2.heap.objs.size) hmL3 hpn b).symm, ⟨_, hmL3⟩, hgen, .fresh (.func pBodyRestore.1 env), ?_, fun s'' hal hz'' => ⟨rfl, ?_⟩⟩
  · show (s2.gens.push _)[s.gens.size]? = _
    rw [← hg2]
    exact Array.getElem?_push_size ..
  · refine seg_func ?_
    rw [Nat.sub_zero]
    refine gen_body (tk := tk) (m := m') r'.in1 G hb hS hc hk hln hr hz'' (J3.frame.at_ hc fun o e => hal _ o (.inl rfl) e) ?_
    obtain ⟨o', nm, qn, ho', rest⟩ := hgen
    exact ⟨o', nm, qn, hal _ o' (.inr rfl) ho', rest⟩
end NB90
end
section
set_option autoImplicit false
open PySem PySem.W PyProof.Rows
set_option Elab.async false
set_option maxRecDepth 100000
namespace NB90
variable {h₀ : Heap} {mg mb : Str → Option Value} {W : Addr → Prop} {z₀ z z' z₁ : Fz} {s₀ s s' s₁ : Shared} {env : Env} {ρ : List (Str × Value)} {prog : Program} {w : World} {A : Around} {E : Value → Shared → Prop}

noncomputable def byText (w : World) : Bool := w.params.followText "set-order"
/-- a set's table as the maker left it: led, and no longer plain where it holds a str -/
noncomputable def TabOk (b : Bool) (n : Nat) (t : SetTable) : Prop := (b = true ∨ t.led = true) ∧ (t.plain = true → n = 0)
noncomputable def SetObj (prog : Program) (w : World) (S : Str → Bool) (n : Nat) (o : Obj) : Prop :=
  ∃ es ep t, o.ExactSet ∧ o.data = .set es ep t ∧ ElemsOf (strKind prog w) es.toList ∧ (∀ k, S k = true ↔ ∃ e ∈ es.toList, (strKind prog w).is k e.2 = true) ∧ es.size < scanBound ∧ t.fits es.size = true ∧ es.size = n ∧ TabOk (byText w) n t
noncomputable def SetT (prog : Program) (w : World) (h : Heap) (a : Addr) (S : Str → Bool) (n : Nat) : Prop := ∃ o, h.get? a = some o ∧ SetObj prog w S n o
theorem SetT.setOf {h : Heap} {a : Addr} {S : Str → Bool} {n : Nat} (x : SetT prog w h a S n) : h.SetOf (strKind prog w) a S n := by
  obtain ⟨o, ho, es, ep, t, h1, h2, h3, h4, h5, h6, h7, _⟩ := x
  exact ⟨o, es, ep, t, ho, h1, h2, h3, h4, h5, h6, h7⟩
theorem SetT.at_ {h h' : Heap} {a : Addr} {S : Str → Bool} {n : Nat} (x : SetT prog w h a S n) (hk : ∀ o, h.get? a = some o → h'.get? a = some o) : SetT prog w h' a S n :=
  let ⟨o, ho, r⟩ := x; ⟨o, hk o ho, r⟩

theorem put_led (t : SetTable) (j : Nat) : (t.put j).1.led = t.led := by
  unfold SetTable.put; dsimp only
theorem put_plain (t : SetTable) (j : Nat) : (t.put j).1.plain = t.plain := by
  unfold SetTable.put; dsimp only
theorem orStand_led (t : SetTable) (n : Nat) : (t.orStandIn n).led = t.led := by
  unfold SetTable.orStandIn; split <;> rfl
theorem layNew_led (t : SetTable) (es : Array (Int × Value)) (h : Int) (x : Value) : (layNew t es h x).2.1.led = t.led := by
  unfold layNew
  split
  · dsimp only; rw [orStand_led, put_led]
  · rfl
theorem relay_ok (t : SetTable) (es : Array (Int × Value)) (n : Nat) : (relayAll t es n).2.1.led = t.led ∧ ((relayAll t es n).2.1.plain = true → t.plain = true) := by
  unfold relayAll
  split
  · rename_i t' order hr
    dsimp only
    have : t'.led = t.led ∧ t'.plain = t.plain := by
      unfold SetTable.relaid SetTable.laid at hr
      cases hl : SetTable.layClean (SetTable.sizeAbove n - 1) (es.map (·.1)) with
      | none => rw [hl] at hr; cases hr
      | some owner => rw [hl] at hr; cases hr; exact ⟨rfl, rfl⟩
    split
    · exact ⟨this.1, fun h => this.2 ▸ h⟩
    · exact ⟨rfl, nofun⟩
  · exact ⟨rfl, nofun⟩

/-- a store of a set's elements -/
theorem store_T {a : Addr} {o : Obj} {es es' : Array (Int × Value)} {ep : Nat} {t t' : SetTable} {S' : Str → Bool} {Q : Unit → Shared → Prop} (ho : s.heap.get? a = some o) (hex : o.ExactSet) (hd : o.data = .set es ep t)
    (hel : ElemsOf (strKind prog w) es'.toList) (hmem : ∀ k, S' k = true ↔ ∃ e ∈ es'.toList, (strKind prog w).is k e.2 = true) (hb : es'.size < scanBound) (hf : t'.fits es'.size = true) (ht : TabOk (byText w) es'.size t')
    (h : ∀ h', Heap.SameBut a s.heap h' → (∃ o', h'.get? a = some o' ∧ o'.ExactSet ∧ o'.data = .set es' (ep + 1) t') → SetT prog w h' a S' es'.size → Q () { s with heap := h' }) :
    wpAny (model prog w) A (storeSet a es' t') Q E s := by
  refine wpAny_storeSet_of ho hd ?_ (fits_of_scanBound hb)
  obtain ⟨hg, _⟩ := SetOf_store (knd := strKind prog w) ho hex hd hel hmem hb hf
  exact h _ (Heap.SameBut.update s.heap a _) ⟨_, hg, hex, rfl⟩ ⟨_, hg, es', ep + 1, t', hex, rfl, hel, hmem, hb, hf, rfl, ht⟩

theorem add_T {a : Addr} {S : Str → Bool} {n : Nat} {k : Str} {tx : Tok} {Q : Bool → Shared → Prop} (hS : SetT prog w s.heap a S n) (hroom : n + 1 < scanBound)
    (h : ∀ b h', Heap.SameBut a s.heap h' → SetT prog w h' a (fun k' => S k' || decide (k' = k)) (if S k then n else n + 1) → Q b { s with heap := h' }) :
    wpAny (model prog w) A (setAddHashed a (.str k tx) ((strKind prog w).hash k)) Q E s := by
  obtain ⟨o, ho, es, ep, t, hex, hd, hel, hmem, hb, hf, hn, htab⟩ := hS
  have hkey := strKind_is prog w k tx
  have hb1 : es.size + 1 < scanBound := by rw [hn]; exact hroom
  unfold setAddHashed setAddHashedIn
  refine wpAny_holding (wpAny_bind (wpAny_setState_of ho hd hf ?_))
  dsimp only
  rw [byScan_of (knd := strKind prog w) (x := .str k tx) rfl hb hel]
  simp only [↓reduceIte]
  unfold setAddByScan
  refine wpAny_bind (wpAny_bind (wpAny_rule (wpAny_bind (wpAny_setScan_of hkey ho hd hf hel ?_))))
  cases hr : List.findIdx? (fun e => (strKind prog w).is k e.2) es.toList with
  | some j =>
    dsimp only
    obtain ⟨hj, hpj, _⟩ := List.findIdx?_eq_some_iff_getElem.mp hr
    have hSk : S k = true := (hmem k).mpr ⟨es.toList[j], List.getElem_mem hj, hpj⟩
    refine wpAny_pure (wpAny_pure ?_)
    have e : s = { s with heap := s.heap } := by cases s; rfl
    rw [e]
    refine h _ s.heap (Heap.SameBut.refl a s.heap) ⟨o, ho, es, ep, t, hex, hd, hel, fun k' => ?_, hb, hf, by rw [hSk]; exact hn, by rw [hSk]; exact htab⟩
    rw [Bool.or_eq_true, decide_eq_true_eq, ← hmem k']
    exact ⟨fun hk => hk.elim id (fun e => e ▸ hSk), .inl⟩
  | none =>
    dsimp only
    have hSk : S k = false := by
      cases hk : S k with
      | false => rfl
      | true => obtain ⟨e, he, hp⟩ := (hmem k).mp hk; have := List.findIdx?_eq_none_iff.mp hr e he; rw [hp] at this; exact Bool.noConfusion this
    rw [hSk] at h
    have hperm := layNew_perm t es ((strKind prog w).hash k) (.str k tx)
    have hfits := layNew_fits t es ((strKind prog w).hash k) (.str k tx)
    have hled := layNew_led t es ((strKind prog w).hash k) (.str k tx)
    generalize hL : layNew t es ((strKind prog w).hash k) (.str k tx) = L at hperm hfits hled ⊢
    obtain ⟨es1, t1, wasDummy, gave⟩ := L
    dsimp only at hperm hfits hled ⊢
    rw [Array.toList_push] at hperm
    have hel1 : ElemsOf (strKind prog w) es1.toList := (hel.push hkey rfl).perm hperm
    have hmem1 : ∀ k', (S k' || decide (k' = k)) = true ↔ ∃ e ∈ es1.toList, (strKind prog w).is k' e.2 = true := mem_push_iff hkey hmem hperm
    have hsz1 : es1.size = n + 1 := by rw [← Array.length_toList, hperm.length_eq, List.length_append, Array.length_toList, hn]; rfl
    have hb1' : es1.size < scanBound := by rw [hsz1]; exact hroom
    have hgw : ∀ (b : Bool) {s₁ : Shared} {Q' : Unit → Shared → Prop}, Q' () s₁ → wpAny (model prog w) A (match b with | true => rule "set.scan.the-table-gave-way" | false => pure ()) Q' E s₁ :=
      fun b s₁ Q' hq => by cases b <;> first | exact wpAny_pure hq | exact wpAny_rule hq
    -- the rest, for a table that is not plain
    have tail : ∀ t2 : SetTable, t2.fits es1.size = true → t2.led = t.led → t2.plain = false →
        wpAny (model prog w) A (do
          storeSet a es1 t2
          if (!wasDummy && t2.tooFull) = true then do
              (match (relayAll t2 es1 (SetTable.grown es1.size)).2.2 with | true => rule "set.scan.the-table-gave-way" | false => pure ())
              storeSet a (relayAll t2 es1 (SetTable.grown es1.size)).1 (relayAll t2 es1 (SetTable.grown es1.size)).2.1
              pure (some true)
            else pure (some true)) (fun r s' => wpAny (model prog w) A (match r with | some added => pure added | none => setAddHashedIn a (.str k tx) ((strKind prog w).hash k) 99999) Q E s') E s := fun t2 hf2 hl2 hp2 => by
      have htk : TabOk (byText w) es1.size t2 := ⟨htab.1.imp id fun q => by rw [hl2]; exact q, fun q => by rw [hp2] at q; cases q⟩
      refine wpAny_bind (store_T ho hex hd hel1 hmem1 hb1' hf2 htk fun h1 hsb1 ⟨o1, ho1, hex1, hd1⟩ hS1 => ?_)
      split
      · have hp := relayAll_perm t2 es1 (SetTable.grown es1.size)
        have hfr := relayAll_fits t2 es1 (SetTable.grown es1.size)
        have hrl := relay_ok t2 es1 (SetTable.grown es1.size)
        generalize hRl : relayAll t2 es1 (SetTable.grown es1.size) = Rl at hp hfr hrl ⊢
        obtain ⟨es2, t3, gave2⟩ := Rl
        dsimp only at hp hfr hrl ⊢
        have hel2 : ElemsOf (strKind prog w) es2.toList := hel1.perm hp
        have hmem2 : ∀ k', (S k' || decide (k' = k)) = true ↔ ∃ e ∈ es2.toList, (strKind prog w).is k' e.2 = true := fun k' => (hmem1 k').trans ⟨fun ⟨e, he, q⟩ => ⟨e, hp.mem_iff.mpr he, q⟩, fun ⟨e, he, q⟩ => ⟨e, hp.mem_iff.mp he, q⟩⟩
        have hsz : es2.size = es1.size := by rw [← Array.length_toList, hp.length_eq, Array.length_toList]
        refine wpAny_bind (hgw _ ?_)
        refine wpAny_bind (store_T (s := { s with heap := h1 }) ho1 hex1 hd1 hel2 hmem2 (by rw [hsz]; exact hb1') hfr ⟨htab.1.imp id fun q => by rw [hrl.1, hl2]; exact q, fun q => by have := hrl.2 q; rw [hp2] at this; cases this⟩ fun h2 hsb2 _ hS2 => ?_)
        refine wpAny_pure (wpAny_pure ?_)
        rw [hsz, hsz1] at hS2
        exact h true h2 (hsb1.trans hsb2) hS2
      · refine wpAny_pure (wpAny_pure ?_)
        rw [hsz1] at hS1
        exact h true h1 hsb1 hS1
    refine wpAny_bind (hgw _ ?_)
    split
    · refine wpAny_bind ?_
      rw [hashByValue_scannable 8 (x := .str k tx) rfl]
      refine wpAny_pure ?_
      exact tail { t1 with plain := false } (SetTable.fits_plain_off hfits) hled rfl
    · rename_i hpl
      refine wpAny_bind (wpAny_pure ?_)
      exact tail t1 hfits hled (by cases q : t1.plain with | true => exact absurd q hpl | false => rfl)
end NB90
end
section
set_option autoImplicit false
open PySem PySem.W PyProof.Rows
set_option Elab.async false
set_option maxRecDepth 100000
namespace NB90
variable {h₀ : Heap} {mg mb : Str → Option Value} {W : Addr → Prop} {z₀ z z' z₁ : Fz} {s₀ s s' s₁ : Shared} {env : Env} {ρ : List (Str × Value)} {prog : Program} {w : World} {A : Around} {E : Value → Shared → Prop}

theorem set_loop {I D : Addr} {G : Nat} {xs : List Str} {St : Nat → (Addr → Prop) → Fz → Shared → Prop} {R : Result → Shared → Prop} {T₀ : Addr → Prop} {sb : Shared} (It : Iter prog w A.in1 I G xs.length (fun i z v => ∀ a, xs[i]? = some a → Rd z v (.str a)) St)
    (hD : sb.heap.objs.size ≤ D) (hDz : ∀ o, ¬ z D o) (hb : xs.length + 1 < scanBound)
    (fin : ∀ s' n, Stp T₀ G sb s' → z.In s'.heap → SetT prog w s'.heap D (fun k => decide (k ∈ xs)) n → R (.ok (.ret .none)) s') :
    ∀ (j i : Nat) (T : Addr → Prop) (s : Shared) (n : Nat), xs.length - i = j → i ≤ xs.length → z.In s.heap → St i T z s → Stp T₀ G sb s → (∀ a, T a → (T₀ a ∨ sb.heap.objs.size ≤ a) ∧ ∀ o, ¬ z a o) → ¬ T D →
      SetT prog w s.heap D (fun k => decide (k ∈ xs.take i)) n → n ≤ i →
      codeAny (model prog w) A (.builtin "set.update.loop" ⟨[.ref D, .ref I], []⟩) R s := by
  intro j
  induction j with
  | zero =>
    intro i T s n hj hi hz hst t hT hTD hS hn
    have hin : i = xs.length := by (first | with_reducible assumption | with_reducible exact Nat.add_le_add_left (by decide) _ | with_reducible exact Nat.le_trans (by assumption) (by decide) | with_reducible exact Nat.sub_succ_lt_self (by assumption) | with_reducible exact Nat.lt_of_lt_of_le (by assumption) (by assumption) | with_reducible exact Nat.le_trans (by assumption) (by assumption) | decide | omega)
    subst hin
    refine codeAny_builtin PyProof.Rows.F.entry_set_update_loop ?_
    rw [Around.under_plainId PyProof.Rows.F.plain_set_update_loop _]
    show wpAny _ A.in1 (pyNext (.ref I) >>= _) _ _ s
    refine wpAny_bind (It.stop T z s _ _ hz hst fun s' t' => ?_)
    show wpAny _ A.in1 (ret Value.none) _ _ s'
    refine wpAny_pure (fin s' n (t.then t' fun a ha => (hT a ha).1) (fun b o e => t'.keep b o (fun h => (hT b h).2 o e) (hz b o e)) ?_)
    rw [List.take_length] at hS
    exact hS.at_ fun o e => t'.keep D o hTD e
  | succ j ih =>
    intro i T s n hj hi hz hst t hT hTD hS hn
    have hlt : i < xs.length := by (first | with_reducible assumption | with_reducible exact Nat.add_le_add_left (by decide) _ | with_reducible exact Nat.le_trans (by assumption) (by decide) | with_reducible exact Nat.sub_succ_lt_self (by assumption) | with_reducible exact Nat.lt_of_lt_of_le (by assumption) (by assumption) | with_reducible exact Nat.le_trans (by assumption) (by assumption) | decide | omega)
    refine codeAny_builtin PyProof.Rows.F.entry_set_update_loop ?_
    rw [Around.under_plainId PyProof.Rows.F.plain_set_update_loop _]
    show wpAny _ A.in1 (pyNext (.ref I) >>= _) _ _ s
    refine wpAny_bind (It.next i T z s _ _ hlt hz hst fun v s' T' hP hst' t' hT' => ?_)
    obtain ⟨tx, rfl⟩ := (hP xs[i] (List.getElem?_eq_getElem hlt)).isStr
    have hS' := hS.at_ fun o e => t'.keep D o hTD e
    have hDlt : D < s.heap.objs.size := by obtain ⟨o, ho, _⟩ := hS; exact Heap.lt_size ho
    show wpAny _ A.in1 (holding [Value.str xs[i] tx] (setAdd D (.str xs[i] tx)) >>= _) _ _ s'
    refine wpAny_bind (wpAny_holding ?_)
    unfold setAdd
    refine wpAny_holding ?_
    refine wpAny_bind ((strKind prog w).pyHash (k := xs[i]) (strKind_is _ _ _ _) ?_)
    refine add_T (s := { s' with toks := s'.toks + 1 }) hS' (by (first | with_reducible assumption | with_reducible exact Nat.add_le_add_left (by decide) _ | with_reducible exact Nat.le_trans (by assumption) (by decide) | with_reducible exact Nat.sub_succ_lt_self (by assumption) | with_reducible exact Nat.lt_of_lt_of_le (by assumption) (by assumption) | with_reducible exact Nat.le_trans (by assumption) (by assumption) | decide | omega)) fun _ h' hsb hS2 => ?_
    have hz' : z.In s'.heap := fun b o e => t'.keep b o (fun h => (hT b h).2 o e) (hz b o e)
    have hTD' : ¬ T' D := fun h => (hT' D h).1.elim hTD fun hl => absurd hDlt (Nat.not_lt.mpr hl)
    have t2 : Stp (· = D) G s' { s' with toks := s'.toks + 1, heap := h' } := (To.sameBut (s := s') (tk := s'.toks + 1) hsb).stp
    refine wpAny_pure ⟨plainId_quiet PyProof.Rows.F.plain_set_update_loop _, ih (i + 1) T' _ (if decide (xs[i] ∈ xs.take i) then n else n + 1) (by (first | with_reducible assumption | with_reducible exact Nat.add_le_add_left (by decide) _ | with_reducible exact Nat.le_trans (by assumption) (by decide) | with_reducible exact Nat.sub_succ_lt_self (by assumption) | with_reducible exact Nat.lt_of_lt_of_le (by assumption) (by assumption) | with_reducible exact Nat.le_trans (by assumption) (by assumption) | decide | omega)) hlt (fun b o e => t2.keep b o (fun h => hDz o (h ▸ e)) (hz' b o e))
      (It.keep _ _ _ _ _ _ hst' (Fz.le.refl z) (fun a o ha e => t2.keep a o (fun h => hTD' (h ▸ ha)) e) (fun _ _ e => e)) ((t.then t' fun a ha => (hT a ha).1).then t2 fun a ha => .inr (ha ▸ hD)) (fun a ha => ?_) hTD' ?_ ?_⟩
    · obtain ⟨h1 | h1, h2⟩ := hT' a ha
      · exact hT a h1
      · exact ⟨.inr (Nat.le_trans t.size h1), fun o e => Nat.lt_irrefl _ (Nat.lt_of_lt_of_le (Heap.lt_size (hz _ _ e)) h1)⟩
    · have e : (fun k => decide (k ∈ xs.take i) || decide (k = xs[i])) = fun k => decide (k ∈ xs.take (i + 1)) := funext fun k => by
        have e1 : xs.take (i + 1) = xs.take i ++ [xs[i]] := by rw [List.take_add_one, List.getElem?_eq_getElem hlt, Option.toList_some]
        rw [e1]
        simp only [List.mem_append, List.mem_singleton, Bool.decide_or]
      rw [← e]; exact hS2
    · split <;> (first | with_reducible assumption | with_reducible exact Nat.add_le_add_left (by decide) _ | with_reducible exact Nat.le_trans (by assumption) (by decide) | with_reducible exact Nat.sub_succ_lt_self (by assumption) | with_reducible exact Nat.lt_of_lt_of_le (by assumption) (by assumption) | with_reducible exact Nat.le_trans (by assumption) (by assumption) | decide | omega)

theorem set_new (a : Value) {Q₁ : Value → Shared → Prop} (h : Q₁ (.ref s.heap.objs.size) { s with heap := s.heap.push { cls := .type "set", dict := none, data := .set #[] 0 (.fresh 0 0 (!byText w)) } }) :
    codeAny (model prog w) A (.call (.builtin "set.__new__") ⟨[.type "set", a], []⟩) (wants Q₁ E) s := by
  refine codeAny_of_tree ?_
  show wpAny _ A.in1 (do checkBuiltinCall "set.__new__" ⟨[.type "set", a], []⟩; again (.builtin "set.__new__" ⟨[.type "set", a], []⟩)) _ _ s
  refine wpAny_bind (wpAny_of_eq (PySem.F.newCall_set_1 a) (wpAny_pure ⟨plainId_quiet PySem.F.plain_set_new _, codeAny_builtin PySem.F.entry_set_new ?_⟩))
  rw [Around.under_plainId PySem.F.plain_set_new _]
  unfold Builtin.«set.__new__» Builtin.Frozenset.newClass
  have hsub := sub_set_self
  obtain ⟨hp, g, d, tk, os⟩ := s
  dsimp only
  wp_walk
  refine wpAny_askSetting (wpAny_pure ?_)
  dsimp only
  simp only [newObj]
  refine wpAny_bind (wpAny_alloc (wpAny_pure ?_))
  exact wpAny_pure h
theorem set_fresh {hp : Heap} {a : Addr} {led : Bool} (hg : hp.get? a = some { cls := .type "set", dict := none, data := .set #[] 0 (.fresh 0 0 led) }) (hl : led = !byText w) : SetT prog w hp a (fun k => decide (k ∈ ([] : List Str))) 0 :=
  ⟨_, hg, #[], 0, _, ⟨rfl, rfl, rfl⟩, rfl, fun e he => by simp at he, fun k => by simp, by unfold scanBound; simp, rfl, rfl, by
    cases hb : byText w with
    | true => exact .inl rfl
    | false => exact .inr (by rw [hl, hb]; rfl), fun _ => rfl⟩

theorem sub_gen_set : isSubtype (.type "generator") (.type "set") = pure false := by rw [isSubtype_type]; kernel_rfl
theorem sub_gen_frozenset : isSubtype (.type "generator") (.type "frozenset") = pure false := by rw [isSubtype_type]; kernel_rfl

set_option maxHeartbeats 3200000 in
theorem set_gen {gen : Addr} {g G : Nat} {xs : List Str} {T : Addr → Prop} {St : Nat → (Addr → Prop) → Fz → Shared → Prop} {Q : Value → Shared → Prop} (It : Iter prog w A.in1.in1.in1 gen G xs.length (fun i z v => ∀ a, xs[i]? = some a → Rd z v (.str a)) St)
    (hz : z.In s.heap) (hst : St 0 T z s) (hgen : s.heap.IsGen gen g) (hT : ∀ a, T a → a < s.heap.objs.size ∧ ∀ o, ¬ z a o) (hb : xs.length + 1 < scanBound)
    (h : ∀ s' n, Stp T G s s' → z.In s'.heap → SetT prog w s'.heap s.heap.objs.size (fun k => decide (k ∈ xs)) n → Q (.ref s.heap.objs.size) s') :
    wpAny (model prog w) A (call (.type "set") [.ref gen]) Q E s := by
  obtain ⟨c, tl, hmro⟩ := PySem.F.called_set.mro
  have hmade := PySem.F.called_set.made
  have hsub := PySem.F.called_set.sub
  refine wpAny_call (codeAny_of_tree ?_)
  show wpAny _ _ (callAny (.type "set") _) _ _ _
  refine wpAny_pure ⟨Code.quiet_builtin _ (by decide +kernel), codeAny_builtin PySem.F.entry_type_call ?_⟩
  rw [Around.under_plain (weight_type_call_type "set" [.ref gen] []) rfl]
  have h1 := PySem.F.called_set.notType
  have h2 := PySem.F.called_set.canCreate
  have hct := PySem.F.typeCall_set_1 (.ref gen)
  repeat (any_goals (first | assumption | wp_step))
  refine codeAny_mono (set_new (.ref gen) (E := E) (Q₁ := fun obj s₁ => ∃ led : Bool, led = !byText w ∧ obj = .ref s.heap.objs.size ∧ s₁ = { s with heap := s.heap.push { cls := .type "set", dict := none, data := .set #[] 0 (.fresh 0 0 led) } }) ⟨_, rfl, rfl, rfl⟩) fun r s₁ hr => ?_
  cases r with
  | error e => exact hr
  | ok fl =>
    cases fl with
    | ret obj =>
      obtain ⟨led, hled, rfl, rfl⟩ := hr
      have hS : (s.heap.push { cls := .type "set", dict := none, data := .set #[] 0 (.fresh 0 0 led) }).get? s.heap.objs.size = some { cls := .type "set", dict := none, data := .set #[] 0 (.fresh 0 0 led) } := Heap.get?_push_size _ rfl
      have hTI : Shared.TypeIs { s with heap := s.heap.push { cls := .type "set", dict := none, data := .set #[] 0 (.fresh 0 0 led) } } (.ref s.heap.objs.size) "set" := ⟨_, hS, rfl⟩
      have hli := PySem.F.called_set.init.lookup
      have hbi := PySem.F.called_set.init.bind (.ref s.heap.objs.size)
      repeat (any_goals (first | assumption | wp_step))
      refine codeAny_mono (codeAny_call_builtin (R := wants (fun r s₂ => r = .none ∧ ∃ n, Stp T G s s₂ ∧ z.In s₂.heap ∧
          SetT prog w s₂.heap s.heap.objs.size (fun k => decide (k ∈ xs)) n) E) PySem.F.called_set.init.plain PySem.F.entry_set_init (check_set_init_1 hTI ?_)) fun r₂ s₂ hr₂ => ?_
      · obtain ⟨⟨gcls, gdict, gdata, gslots⟩, nm, qn, hgo, hgc, hgd, hgs⟩ := id hgen
        simp only at hgc hgd hgs
        subst hgc hgd hgs
        have hgo' := Heap.get?_push_of_some ({ cls := .type "set", dict := none, data := .set #[] 0 (.fresh 0 0 led) } : Obj) hgo
        have hsls := sub_gen_set
        have hslf := sub_gen_frozenset
        have hne : (Value.type "generator" == Value.type "dict") = false := by decide
        have hgen1 : (s.heap.push { cls := .type "set", dict := none, data := .set #[] 0 (.fresh 0 0 led) }).IsGen gen g := hgen.push { cls := .type "set", dict := none, data := .set #[] 0 (.fresh 0 0 led) }
        unfold Builtin.«set.__init__» noKeywords Builtin.Frozenset.updateFrom
        generalize hPI : pyIter = PI
        wp_walk
        subst hPI
        refine wpAny_pyIter_gen (s := { s with heap := s.heap.push { cls := .type "set", dict := none, data := .set #[] 0 (.fresh 0 0 led) } }) hgen1 ?_
        refine wpAny_bind (wpAny_runValue ?_)
        have t1 : To No s { s with heap := s.heap.push { cls := .type "set", dict := none, data := .set #[] 0 (.fresh 0 0 led) } } := To.push No s { cls := .type "set", dict := none, data := .set #[] 0 (.fresh 0 0 led) }
        have hz1 : z.In (s.heap.push { cls := .type "set", dict := none, data := .set #[] 0 (.fresh 0 0 led) }) := fun b o e => Heap.get?_push_of_some _ (hz b o e)
        refine set_loop (z := z) (sb := s) (T₀ := T) (D := s.heap.objs.size) It (Nat.le_refl _) (fun o e => Nat.lt_irrefl _ (Heap.lt_size (hz _ _ e))) hb (fun s' n t hz' hS' => ?_) xs.length 0 T _ 0 rfl (Nat.zero_le _) hz1
          (It.keep _ _ _ _ _ _ hst (Fz.le.refl z) (fun a o _ e => Heap.get?_push_of_some _ e) (fun _ _ e => e)) t1.no.stp (fun a ha => ⟨.inl ha, (hT a ha).2⟩) (fun h => Nat.lt_irrefl _ (hT _ h).1) ?_ (Nat.le_refl _)
        · refine wpAny_pure ?_
          show wpAny _ _ (ret Value.none) _ _ _
          exact wpAny_pure ⟨rfl, n, t, hz', hS'⟩
        · exact set_fresh hS hled
      · cases r₂ with
        | error e => exact hr₂
        | ok fl₂ =>
          cases fl₂ with
          | ret r =>
            obtain ⟨rfl, n, t, hz2, hS'⟩ := hr₂
            repeat (any_goals (first | assumption | wp_step))
            exact h _ n t hz2 hS'
          | _ => exact hr₂.elim
    | _ => exact hr.elim
end NB90
end
section
set_option autoImplicit false
open PySem PySem.W PyProof.Rows
set_option Elab.async false
set_option maxRecDepth 100000
namespace NB90
variable {h₀ : Heap} {mg mb : Str → Option Value} {W : Addr → Prop} {z₀ z z' z₁ : Fz} {s₀ s s' s₁ : Shared} {env : Env} {ρ : List (Str × Value)} {prog : Program} {w : World} {A : Around} {E : Value → Shared → Prop}

theorem slot_set_iter : Slot "set" "__iter__" "set.__iter__" :=
  .of (owner := "set") (n := "__iter__") (by rw [typeLookup_type, builtinLookup_eq_fast]; kernel_rfl) (by decide +kernel) (by decide +kernel) (by decide +kernel)
    (by first | exact .inl (by decide +kernel) | exact .inr (by decide +kernel)) (by rw [isSubtype_type]; kernel_rfl)
theorem slot_si_next : Slot "set_iterator" "__next__" "set_iterator.__next__" :=
  .of (owner := "set_iterator") (n := "__next__") (by rw [typeLookup_type, builtinLookup_eq_fast]; kernel_rfl) (by decide +kernel) (by decide +kernel) (by decide +kernel)
    (by first | exact .inl (by decide +kernel) | exact .inr (by decide +kernel)) (by rw [isSubtype_type]; kernel_rfl)
theorem slot_si_iter : Slot "set_iterator" "__iter__" "set_iterator.__iter__" :=
  .of (owner := "set_iterator") (n := "__iter__") (by rw [typeLookup_type, builtinLookup_eq_fast]; kernel_rfl) (by decide +kernel) (by decide +kernel) (by decide +kernel)
    (by first | exact .inl (by decide +kernel) | exact .inr (by decide +kernel)) (by rw [isSubtype_type]; kernel_rfl)
theorem entry_set_iter : entryFor table "set.__iter__" = some Builtin.«frozenset.__iter__» :=
  entryFor_alias (id' := "frozenset.__iter__") (by kernel_rfl) rfl (by decide +kernel) (by kernel_rfl)
theorem entry_si_next : entryFor table "set_iterator.__next__" = some Builtin.«set_iterator.__next__» := entryFor_of_tree (by kernel_rfl)
theorem entry_si_iter : entryFor table "set_iterator.__iter__" = some Builtin.«dict_keyiterator.__iter__» :=
  entryFor_alias (id' := "dict_keyiterator.__iter__") (by kernel_rfl) rfl (by decide +kernel) (by kernel_rfl)
theorem args_set_iter (a : Value) : argsOk "set.__iter__" ⟨[a], []⟩ := by unfold argsOk; kernel_rfl
theorem args_si_next (a : Value) : argsOk "set_iterator.__next__" ⟨[a], []⟩ := by unfold argsOk; kernel_rfl
theorem args_si_iter (a : Value) : argsOk "set_iterator.__iter__" ⟨[a], []⟩ := by unfold argsOk; kernel_rfl

theorem wpAny_choose {M : Model} {src : Source} {n : Nat} {Q : Nat → Shared → Prop} (hn : n ≠ 0) (h : ∀ i d, i < n → Q i { s with drawn := d }) : wpAny M A (choose src n) Q E s :=
  fun _ _ _ => ⟨hn, h _ _ (Nat.mod_lt _ (Nat.pos_of_ne_zero hn))⟩

theorem perm_erase {α : Type} {xs : List α} {i : Nat} {x : α} (h : xs[i]? = some x) : List.Perm (x :: xs.eraseIdx i) xs := by
  induction xs generalizing i with
  | nil => simp at h
  | cons y ys ih =>
    cases i with
    | zero => simp at h; subst h; simp
    | succ i =>
      simp only [List.getElem?_cons_succ] at h
      simp only [List.eraseIdx_cons_succ]
      exact (List.Perm.swap y x _).trans ((ih h).cons y)

theorem draw_perm {α : Type} : ∀ (n : Nat) (xs : List α) (s : Shared) (Q : List α → Shared → Prop), xs.length = n → (∀ ys d, List.Perm ys xs → Q ys { s with drawn := d }) → wpAny (model prog w) A (drawOrder n xs) Q E s
  | 0, xs, s, Q, hl, h => by
    have : xs = [] := List.length_eq_zero_iff.mp hl
    subst this
    exact wpAny_pure (h [] s.drawn (.refl _))
  | n + 1, [], s, Q, hl, h => by simp at hl
  | n + 1, x :: xs, s, Q, hl, h => by
    unfold drawOrder
    refine wpAny_bind (wpAny_choose (n := (x :: xs).length) (by simp) fun i d hi => ?_)
    have hx : (x :: xs)[i]? = some (x :: xs)[i] := List.getElem?_eq_getElem hi
    rw [hx]
    dsimp only
    refine wpAny_bind (draw_perm n _ _ _ (by rw [List.length_eraseIdx, if_pos hi]; simpa using hl) fun ys d' hp => wpAny_pure ?_)
    exact h _ d' ((hp.cons _).trans (perm_erase hx))

theorem pick_go {α : Type} (next : Nat → Nat) : ∀ (fuel k : Nat) (left : List α) (out : Array α), left.length = fuel → List.Perm (pickOrder.go next fuel k left out).toList (out.toList ++ left)
  | 0, k, left, out, hl => by
    have : left = [] := List.length_eq_zero_iff.mp hl
    subst this
    unfold pickOrder.go; simp
  | fuel + 1, k, left, out, hl => by
    unfold pickOrder.go
    have hlt : next k % left.length < left.length := Nat.mod_lt _ (by (first | with_reducible assumption | with_reducible exact Nat.add_le_add_left (by decide) _ | with_reducible exact Nat.le_trans (by assumption) (by decide) | with_reducible exact Nat.sub_succ_lt_self (by assumption) | with_reducible exact Nat.lt_of_lt_of_le (by assumption) (by assumption) | with_reducible exact Nat.le_trans (by assumption) (by assumption) | decide | omega))
    have hx : left[next k % left.length]? = some left[next k % left.length] := List.getElem?_eq_getElem hlt
    rw [hx]
    dsimp only
    refine (pick_go next fuel (k + 1) _ _ (by rw [List.length_eraseIdx, if_pos hlt]; (first | with_reducible assumption | with_reducible exact Nat.add_le_add_left (by decide) _ | with_reducible exact Nat.le_trans (by assumption) (by decide) | with_reducible exact Nat.sub_succ_lt_self (by assumption) | with_reducible exact Nat.lt_of_lt_of_le (by assumption) (by assumption) | with_reducible exact Nat.le_trans (by assumption) (by assumption) | decide | omega))).trans ?_
    rw [Array.toList_push, List.append_assoc]
    exact (perm_erase hx).append_left _
theorem pick_perm {α : Type} (next : Nat → Nat) (xs : Array α) : List.Perm (pickOrder next xs).toList xs.toList := by
  unfold pickOrder
  simpa using pick_go next xs.size 0 xs.toList #[] (by simp)
end NB90
end
section
set_option autoImplicit false
open PySem PySem.W PyProof.Rows
set_option Elab.async false
set_option maxRecDepth 100000
namespace NB90
variable {h₀ : Heap} {mg mb : Str → Option Value} {W : Addr → Prop} {z₀ z z' z₁ : Fz} {s₀ s s' s₁ : Shared} {env : Env} {ρ : List (Str × Value)} {prog : Program} {w : World} {A : Around} {E : Value → Shared → Prop}

/-- the walk of a set_iterator's next, up to its own body's two ends -/
theorem next_si {I : Addr} {Q : Option Value → Shared → Prop} (hT : s.TypeIs (.ref I) "set_iterator")
    (h : wpAny (model prog w) A.in1 (Builtin.«set_iterator.__next__» ⟨[.ref I], []⟩) (fun f s' => match f with | .done (.ret v) => Q (some v) s' | _ => False)
      (fun e s' => ∃ a, e = .ref a ∧ s'.TypeIs (.ref a) "StopIteration" ∧ Q none s') s) :
    wpAny (model prog w) A (pyNext (.ref I)) Q E s := by
  unfold pyNext
  refine wpAny_bind (wpAny_attempt (wpAny_callSpecial?_slot (name := Str.ofString "__next__") hT slot_si_next
    (wpAny_call_entry slot_si_next hT entry_si_next ?_ (args_si_next _))))
  refine wpAny_mono h (fun f s' hf => ?_) (fun e s' he => ?_)
  · cases f with
    | done f => cases f with
      | ret v => exact ⟨v, rfl, wpAny_pure hf⟩
      | _ => exact hf.elim
    | _ => exact hf.elim
  · obtain ⟨a, rfl, hTa, hq⟩ := he
    refine wpAny_bind (wpAny_isInstance (T := "StopIteration") (b := true) hTa isSubtype_stop ?_)
    exact wpAny_pure hq

/-- the end of an iterator: StopIteration -/
theorem stop_exc {α : Type} {Q : α → Shared → Prop} {E : Value → Shared → Prop} (hh : A.handled = none) (h : ∀ a h', (∀ b o, s.heap.get? b = some o → h'.get? b = some o) → s.heap.objs.size ≤ h'.objs.size → Shared.TypeIs { s with heap := h' } (.ref a) "StopIteration" → E (.ref a) { s with heap := h' }) :
    wpAny (model prog w) A (do raiseNew (← newExc (.type "StopIteration") []) : Sem α) Q E s := by
  refine wpAny_bind ?_
  simp only [newExc, newTuple]
  refine wpAny_bind (wpAny_newObj_type ?_ (by size_fits))
  refine wpAny_bind (m := firstArgMember _ _) (wpAny_of_eq (a := Value.none) (by first | rfl | (simp only [firstArgMember]; rfl)) ?_)
  refine wpAny_newObj_type ?_ (by size_fits)
  simp only [raiseNew]
  refine wpAny_bind (wpAny_handled ?_)
  rw [hh]
  refine wpAny_bind (wpAny_pure (wpAny_throw ?_))
  exact h _ _ (fun b o hb => Heap.get?_push_of_some _ (Heap.get?_push_of_some _ hb)) (by simp only [Heap.size_push]; (first | with_reducible assumption | with_reducible exact Nat.add_le_add_left (by decide) _ | with_reducible exact Nat.le_trans (by assumption) (by decide) | with_reducible exact Nat.sub_succ_lt_self (by assumption) | with_reducible exact Nat.lt_of_lt_of_le (by assumption) (by assumption) | with_reducible exact Nat.le_trans (by assumption) (by assumption) | decide | omega)) ⟨_, Heap.get?_push_size _ rfl, rfl⟩

noncomputable def SiObj (first : Value) (i : Nat) (D : Addr) (n ep : Nat) (o : Obj) : Prop := o.cls = .type "set_iterator" ∧ o.data = .fields #[first, .int i 0, .ref D, .int n 0, .int ep 0]

theorem si_set {I D : Addr} {first v : Value} {i n ep : Nat} {o : Obj} {Q : Unit → Shared → Prop} {E : Value → Shared → Prop} (ho : s.heap.get? I = some o) (hs : SiObj first i D n ep o)
    (h : ∀ h' o', Heap.SameBut I s.heap h' → h'.get? I = some o' → SiObj v i D n ep o' → Q () { s with heap := h' }) : wpAny (model prog w) A (setField (.ref I) 0 v) Q E s := by
  refine wpAny_setField ho hs.2 (by simp) (h _ _ (Heap.SameBut.update ..) (Heap.get?_update_self _ ho (Obj.isFreed_of_fields (Obj.data_mapFields hs.2 _))) ⟨(Obj.cls_mapFields ..).trans hs.1, ?_⟩)
  rw [Obj.data_mapFields hs.2]; simp
theorem si_step {I D : Addr} {first : Value} {i n ep : Nat} {o : Obj} {Q : Unit → Shared → Prop} {E : Value → Shared → Prop} (ho : s.heap.get? I = some o) (hs : SiObj first i D n ep o)
    (h : ∀ h' o', Heap.SameBut I s.heap h' → h'.get? I = some o' → SiObj first (i + 1) D n ep o' → Q () { s with heap := h' }) : wpAny (model prog w) A (setField (.ref I) 1 (rawInt ((i : Int) + 1))) Q E s := by
  refine wpAny_setField ho hs.2 (by simp) (h _ _ (Heap.SameBut.update ..) (Heap.get?_update_self _ ho (Obj.isFreed_of_fields (Obj.data_mapFields hs.2 _))) ⟨(Obj.cls_mapFields ..).trans hs.1, ?_⟩)
  rw [Obj.data_mapFields hs.2]; simp [rawInt]
theorem si_end {I D : Addr} {first : Value} {i n ep : Nat} {o : Obj} {Q : Fin → Shared → Prop} {R : Shared → Prop} (hh : A.handled = none) (ho : s.heap.get? I = some o) (hs : SiObj first i D n ep o)
    (h : ∀ h', Heap.ExtBut I s.heap h' → s.heap.objs.size ≤ h'.objs.size → R { s with heap := h' }) :
    wpAny (model prog w) A (do setField (.ref I) 2 Value.none; raiseNew (← newExc (.type "StopIteration") []) : Sem Fin) Q (fun e s' => ∃ a, e = .ref a ∧ s'.TypeIs (.ref a) "StopIteration" ∧ R s') s := by
  refine wpAny_bind (wpAny_setField ho hs.2 (by simp) ?_)
  have hsb : Heap.SameBut I s.heap (s.heap.update I fun o => o.mapFields fun vs => vs.setIfInBounds 2 Value.none) := Heap.SameBut.update ..
  refine stop_exc hh fun a h' hk hsz hT => ⟨a, rfl, hT, h h' (fun b ob hb e => hk b ob ((hsb.2 b hb).trans e)) (Nat.le_trans (Nat.le_of_eq hsb.1.symm) hsz)⟩

theorem set_next_text {D : Addr} {oD : Obj} {es : Array (Int × Value)} {ep i sl : Nat} {t : SetTable} {Q : Option (Value × Nat) → Shared → Prop} (hb : byText w = true) (hoD : s.heap.get? D = some oD) (hdD : oD.data = .set es ep t) (hf : t.fits es.size = true)
    (h : Q (((pickOrder (w.params.setOrder D ep) es)[i]?).map fun e => (e.2, sl)) s) : wpAny (model prog w) A (setNext D sl i ep) Q E s := by
  have hby : ∀ {Q' : Bool → Shared → Prop}, Q' true s → wpAny (model prog w) A setsByText Q' E s := fun hq => by
    unfold setsByText
    refine wpAny_bind (wpAny_askSetting (wpAny_pure ?_))
    have : (model prog w).w.params.followText "set-order" = true := hb
    rw [this]; exact hq
  unfold setNext
  refine wpAny_bind (wpAny_setState_of hoD hdD hf ?_)
  dsimp only
  refine wpAny_bind (hby ?_)
  rw [if_pos rfl]
  simp only [bne_self_eq_false, Bool.false_eq_true, if_false]
  unfold setWalk
  refine wpAny_bind (wpAny_bind (wpAny_setState_of hoD hdD hf ?_))
  dsimp only
  refine wpAny_bind (hby ?_)
  rw [if_pos rfl]
  refine wpAny_bind (wpAny_askSetting (wpAny_pure (wpAny_pure h)))

/-- the mode «by text» -/
theorem next_text {I D : Addr} {o oD : Obj} {es : Array (Int × Value)} {ep : Nat} {t : SetTable} {i : Nat} {Q : Option Value → Shared → Prop} (hh : A.handled = none) (hb : byText w = true) (ho : s.heap.get? I = some o)
    (hs : SiObj (.int 0 0) i D es.size ep o) (hoD : s.heap.get? D = some oD) (hdD : oD.data = .set es ep t) (hf : t.fits es.size = true)
    (h1 : ∀ x h' o', (pickOrder (w.params.setOrder D ep) es)[i]? = some x → Heap.SameBut I s.heap h' → h'.get? I = some o' → SiObj (.int 0 0) (i + 1) D es.size ep o' → Q (some x.2) { s with heap := h' })
    (h2 : (pickOrder (w.params.setOrder D ep) es)[i]? = none → ∀ h', Heap.ExtBut I s.heap h' → s.heap.objs.size ≤ h'.objs.size → Q none { s with heap := h' }) :
    wpAny (model prog w) A (pyNext (.ref I)) Q E s := by
  refine next_si ⟨o, ho, hs.1⟩ ?_
  unfold Builtin.«set_iterator.__next__»
  refine wpAny_bind (wpAny_pure ?_)
  refine wpAny_bind (wpAny_fieldsOf ho hs.2 ?_)
  dsimp only
  unfold setEntries
  refine wpAny_bind (wpAny_bind (wpAny_setState_of hoD hdD hf (wpAny_pure ?_)))
  dsimp only
  rw [if_neg (by simp)]
  refine wpAny_bind (set_next_text hb hoD hdD hf ?_)
  simp only [Int.toNat_natCast]
  cases hx : (pickOrder (w.params.setOrder D ep) es)[i]? with
  | some x =>
    show wpAny _ _ (do setField (.ref I) 0 (rawInt 0); setField (.ref I) 1 (rawInt ((i : Int) + 1)); ret x.2) _ _ _
    refine wpAny_bind (si_set ho hs fun h3 o3 hsb3 ho3 hs3 => wpAny_bind (si_step (s := { s with heap := h3 }) ho3 hs3 fun h4 o4 hsb4 ho4 hs4 => wpAny_pure ?_))
    exact h1 x h4 o4 hx (hsb3.trans hsb4) ho4 hs4
  | none =>
    exact si_end hh ho hs (h2 hx)

/-- the mode «drawn» -/
theorem next_drawn {I D tp : Addr} {o oD oT : Obj} {es : Array (Int × Value)} {ep : Nat} {t : SetTable} {i m : Nat} {pl : List Nat} {Q : Option Value → Shared → Prop} (hh : A.handled = none) (ho : s.heap.get? I = some o)
    (hs : SiObj (.ref tp) i D es.size ep o) (hoT : s.heap.get? tp = some oT) (hdT : oT.data = .seq (pl.map fun (i : Nat) => rawInt i).toArray m) (hlt : ∀ p ∈ pl, p < es.size) (hoD : s.heap.get? D = some oD) (hdD : oD.data = .set es ep t) (hf : t.fits es.size = true)
    (h1 : ∀ p x h' o', pl[i]? = some p → es[p]? = some x → Heap.SameBut I s.heap h' → h'.get? I = some o' → SiObj (.ref tp) (i + 1) D es.size ep o' → Q (some x.2) { s with heap := h' })
    (h2 : pl[i]? = none → ∀ h', Heap.ExtBut I s.heap h' → s.heap.objs.size ≤ h'.objs.size → Q none { s with heap := h' }) :
    wpAny (model prog w) A (pyNext (.ref I)) Q E s := by
  refine next_si ⟨o, ho, hs.1⟩ ?_
  unfold Builtin.«set_iterator.__next__»
  refine wpAny_bind (wpAny_pure ?_)
  refine wpAny_bind (wpAny_fieldsOf ho hs.2 ?_)
  dsimp only
  unfold setEntries
  refine wpAny_bind (wpAny_bind (wpAny_setState_of hoD hdD hf (wpAny_pure ?_)))
  dsimp only
  rw [if_neg (by simp)]
  refine wpAny_bind (wpAny_seqItems hoT hdT ?_)
  dsimp only
  simp only [Int.toNat_natCast]
  cases hx : pl[i]? with
  | some p =>
    have hp : p < es.size := hlt p (List.mem_of_getElem? hx)
    have hq : ((pl.map fun (i : Nat) => rawInt i).toArray)[i]? = some (.int p 0) := by simp [hx, rawInt]
    rw [hq]
    dsimp only
    unfold setNextDrawn
    refine wpAny_bind (wpAny_bind (wpAny_setState_of hoD hdD hf ?_))
    dsimp only
    simp only [Int.toNat_natCast, bne_self_eq_false, Bool.false_eq_true, if_false]
    rw [Array.getElem?_eq_getElem hp]
    refine wpAny_pure ?_
    refine wpAny_bind (si_step ho hs fun h4 o4 hsb4 ho4 hs4 => wpAny_pure ?_)
    exact h1 p _ h4 o4 hx (Array.getElem?_eq_getElem hp) hsb4 ho4 hs4
  | none =>
    have hq : ((pl.map fun (i : Nat) => rawInt i).toArray)[i]? = none := by simp [hx]
    rw [hq]
    refine wpAny_bind (si_set ho hs fun h3 o3 hsb3 ho3 hs3 => ?_)
    exact si_end (s := { s with heap := h3 }) hh ho3 hs3 fun h' he hsz => h2 hx h' (fun b ob hb e => he b ob hb ((hsb3.2 b hb).trans e)) (Nat.le_trans (Nat.le_of_eq hsb3.1.symm) hsz)

theorem below_nil (j : Nat) : SetTable.below #[] j = 0 := rfl
theorem below_one (p j : Nat) : SetTable.below #[p] j = if p < j then 1 else 0 := by
  show SetTable.below.go #[p] j 1 0 1 = _
  unfold SetTable.below.go
  simp only [Nat.zero_lt_one, if_true]
  show (if #[p].getD 0 j < j then SetTable.below.go #[p] j 0 1 1 else SetTable.below.go #[p] j 0 0 0) = _
  rfl

/-- two lists of one length, one at most -/
theorem one_of {α β : Type} : ∀ {l : List α} {k : List β}, k.length = l.length → l.length ≤ 1 → (l = [] ∧ k = []) ∨ ∃ x p, l = [x] ∧ k = [p]
  | [], [], _, _ => .inl ⟨rfl, rfl⟩
  | [x], [p], _, _ => .inr ⟨x, p, rfl, rfl⟩
  | _ :: _ :: _, _, _, h => by simp at h
/-- a set of one element at most, in the table's order -/
theorem next_small {I D : Addr} {o oD : Obj} {es : Array (Int × Value)} {ep sl : Nat} {t : SetTable} {i : Nat} {Q : Option Value → Shared → Prop} (hh : A.handled = none) (hb : byText w = false) (hled : t.led = true) (hn : es.size ≤ 1) (ho : s.heap.get? I = some o)
    (hs : SiObj (.int sl 0) i D es.size ep o) (hoD : s.heap.get? D = some oD) (hdD : oD.data = .set es ep t) (hf : t.fits es.size = true) (hi : i ≤ es.size) (h0 : i = 0 → sl = 0) (h1' : i = 1 → ∀ p, t.place[0]? = some p → p < sl)
    (h1 : ∀ x sl' h' o', es[i]? = some x → (∀ p, t.place[0]? = some p → p < sl') → Heap.SameBut I s.heap h' → h'.get? I = some o' → SiObj (.int (sl' : Nat) 0) (i + 1) D es.size ep o' → Q (some x.2) { s with heap := h' })
    (h2 : es[i]? = none → ∀ h', Heap.ExtBut I s.heap h' → s.heap.objs.size ≤ h'.objs.size → Q none { s with heap := h' }) :
    wpAny (model prog w) A (pyNext (.ref I)) Q E s := by
  refine next_si ⟨o, ho, hs.1⟩ ?_
  unfold Builtin.«set_iterator.__next__»
  refine wpAny_bind (wpAny_pure ?_)
  refine wpAny_bind (wpAny_fieldsOf ho hs.2 ?_)
  dsimp only
  unfold setEntries
  refine wpAny_bind (wpAny_bind (wpAny_setState_of hoD hdD hf (wpAny_pure ?_)))
  dsimp only
  rw [if_neg (by simp)]
  unfold setNext
  refine wpAny_bind (wpAny_bind (wpAny_setState_of hoD hdD hf ?_))
  dsimp only
  have hby : ∀ {Q' : Bool → Shared → Prop} {E' : Value → Shared → Prop}, Q' false s → wpAny (model prog w) A.in1 setsByText Q' E' s := fun hq => by
    unfold setsByText
    refine wpAny_bind (wpAny_askSetting (wpAny_pure ?_))
    have : (model prog w).w.params.followText "set-order" = false := hb
    rw [this]; exact hq
  refine wpAny_bind (hby ?_)
  rw [if_neg Bool.false_ne_true]
  split
  · rename_i hd
    have hd' : (!t.plain && decide (es.size > 1)) = true := hd
    simp only [Bool.and_eq_true, decide_eq_true_eq] at hd'
    (first | with_reducible assumption | with_reducible exact Nat.add_le_add_left (by decide) _ | with_reducible exact Nat.le_trans (by assumption) (by decide) | with_reducible exact Nat.sub_succ_lt_self (by assumption) | with_reducible exact Nat.lt_of_lt_of_le (by assumption) (by assumption) | with_reducible exact Nat.le_trans (by assumption) (by assumption) | decide | omega)
  refine wpAny_bind ?_
  show wpAny _ _ (if (!t.led && !es.isEmpty) = true then unsupported "set:maker-not-led" else pure ()) _ _ _
  rw [hled, if_neg (by simp)]
  refine wpAny_pure (wpAny_pure ?_)
  simp only [Int.toNat_natCast]
  have hps : t.place.size = es.size := by simp only [SetTable.fits, Bool.and_eq_true, beq_iff_eq] at hf; exact hf.1
  have fin : es[i]? = none → wpAny (model prog w) A.in1 (do setField (.ref I) 2 Value.none; raiseNew (← newExc (.type "StopIteration") []) : Sem Fin) (fun f s' => match f with | .done (.ret v) => Q (some v) s' | _ => False)
      (fun e s' => ∃ a, e = .ref a ∧ s'.TypeIs (.ref a) "StopIteration" ∧ Q none s') s := fun hx => si_end hh ho hs (h2 hx)
  obtain ⟨est⟩ := es
  obtain ⟨mask, ⟨plt⟩, dum, fing, ld, mv, pln⟩ := t
  simp only [List.size_toArray] at hps hn hi hs h1 ⊢
  rcases one_of hps hn with ⟨rfl, rfl⟩ | ⟨x, p, rfl, rfl⟩
  · clear h1
    have e : i = 0 := by simpa using hi
    subst e
    exact fin rfl
  · skip
    rw [below_one]
    by_cases e : i = 0
    · subst e
      have := h0 rfl
      subst this
      rw [if_neg (Nat.not_lt_zero p)]
      show wpAny _ _ (do setField (.ref I) 0 (rawInt ((p + 1 : Nat) : Int)); setField (.ref I) 1 (rawInt (((0 : Nat) : Int) + 1)); ret x.2) _ _ _
      refine wpAny_bind (si_set ho hs fun h3 o3 hsb3 ho3 hs3 => wpAny_bind (si_step (s := { s with heap := h3 }) ho3 hs3 fun h4 o4 hsb4 ho4 hs4 => wpAny_pure ?_))
      exact h1 x (p + 1) h4 o4 rfl (fun q hq => by cases hq; exact Nat.lt_succ_self p) (hsb3.trans hsb4) ho4 hs4
    · have e1 : i = 1 := by simp at hi; (first | with_reducible assumption | with_reducible exact Nat.add_le_add_left (by decide) _ | with_reducible exact Nat.le_trans (by assumption) (by decide) | with_reducible exact Nat.sub_succ_lt_self (by assumption) | with_reducible exact Nat.lt_of_lt_of_le (by assumption) (by assumption) | with_reducible exact Nat.le_trans (by assumption) (by assumption) | decide | omega)
      subst e1
      rw [if_pos (h1' rfl p rfl)]
      exact fin rfl
end NB90
end
section
set_option autoImplicit false
open PySem PySem.W PyProof.Rows
set_option Elab.async false
set_option maxRecDepth 100000
namespace NB90
variable {h₀ : Heap} {mg mb : Str → Option Value} {W : Addr → Prop} {z₀ z z' z₁ : Fz} {s₀ s s' s₁ : Shared} {env : Env} {ρ : List (Str × Value)} {prog : Program} {w : World} {A : Around} {E : Value → Shared → Prop}

noncomputable def strOf : Value → Str
  | .str x _ => x
  | _ => Str.ofString ""
/-- the order in which a set of strs is gone through -/
noncomputable def ordOf (w : World) (D : Addr) (es : Array (Int × Value)) (ep : Nat) (pl : List Nat) : List (Int × Value) :=
  if byText w then (pickOrder (w.params.setOrder D ep) es).toList else if 1 < es.size then pl.map (fun p => es.getD p (0, .none)) else es.toList

inductive SiSt (w : World) (D I tp : Addr) (oD : Obj) (es : Array (Int × Value)) (ep : Nat) (t : SetTable) (pl : List Nat) (i : Nat) (T : Addr → Prop) (z : Fz) (s : Shared) : Prop
  | mk : z D oD → T = (fun a => a = I ∨ a = tp) → I ≠ D → (∃ oT, s.heap.get? tp = some oT) → i ≤ es.size → ∀ (o : Obj) (first : Value), s.heap.get? I = some o → SiObj first i D es.size ep o →
    ((byText w = true ∧ first = .int 0 0) ∨ (byText w = false ∧ 1 < es.size ∧ first = .ref tp ∧ ∃ oT m, s.heap.get? tp = some oT ∧ oT.data = .seq (pl.map fun (i : Nat) => rawInt i).toArray m) ∨
     (byText w = false ∧ es.size ≤ 1 ∧ ∃ sl : Nat, first = .int sl 0 ∧ (i = 0 → sl = 0) ∧ (i = 1 → ∀ p, t.place[0]? = some p → p < sl))) → SiSt w D I tp oD es ep t pl i T z s

theorem ord_perm {D : Addr} {es : Array (Int × Value)} {ep : Nat} {pl : List Nat} (hp : List.Perm pl (List.range es.size)) : List.Perm (ordOf w D es ep pl) es.toList := by
  unfold ordOf
  split
  · exact pick_perm _ _
  · split
    · refine (hp.map _).trans (List.Perm.of_eq ?_)
      apply List.ext_getElem?
      intro i
      rw [List.getElem?_map]
      by_cases h : i < es.size
      · simp [h]
      · have h1 : (List.range es.size)[i]? = none := List.getElem?_eq_none (by simp; (first | with_reducible assumption | with_reducible exact Nat.add_le_add_left (by decide) _ | with_reducible exact Nat.le_trans (by assumption) (by decide) | with_reducible exact Nat.sub_succ_lt_self (by assumption) | with_reducible exact Nat.lt_of_lt_of_le (by assumption) (by assumption) | with_reducible exact Nat.le_trans (by assumption) (by assumption) | decide | omega))
        have h2 : es.toList[i]? = none := List.getElem?_eq_none (by simp; (first | with_reducible assumption | with_reducible exact Nat.add_le_add_left (by decide) _ | with_reducible exact Nat.le_trans (by assumption) (by decide) | with_reducible exact Nat.sub_succ_lt_self (by assumption) | with_reducible exact Nat.lt_of_lt_of_le (by assumption) (by assumption) | with_reducible exact Nat.le_trans (by assumption) (by assumption) | decide | omega))
        rw [h1, h2]; rfl
    · exact .refl _

theorem si_iter {D I tp : Addr} {oD : Obj} {es : Array (Int × Value)} {ep : Nat} {t : SetTable} {pl : List Nat} {G : Nat} (hh : A.handled = none) (hdD : oD.data = .set es ep t) (hf : t.fits es.size = true) (hel : ElemsOf (strKind prog w) es.toList)
    (hp : List.Perm pl (List.range es.size)) (hled : byText w = true ∨ t.led = true) :
    Iter prog w A I G ((ordOf w D es ep pl).map fun e => strOf e.2).length (fun i z v => ∀ a, ((ordOf w D es ep pl).map fun e => strOf e.2)[i]? = some a → Rd z v (.str a)) (SiSt w D I tp oD es ep t pl) := by
  have hperm := ord_perm (w := w) (D := D) (ep := ep) hp
  have hlen : (ordOf w D es ep pl).length = es.size := by rw [hperm.length_eq]; simp
  have hlt : ∀ p ∈ pl, p < es.size := fun p hq => List.mem_range.mp (hp.mem_iff.mp hq)
  have hval : ∀ (z : Fz) (x : Int × Value) (i : Nat), (ordOf w D es ep pl)[i]? = some x → ∀ a, ((ordOf w D es ep pl).map fun e => strOf e.2)[i]? = some a → Rd z x.2 (.str a) := fun z x i hx a ha => by
    have hm : x ∈ es.toList := hperm.mem_iff.mp (List.mem_of_getElem? hx)
    obtain ⟨⟨k, hk, _⟩, _⟩ := hel x hm
    obtain ⟨tk, e⟩ := Value.isStrOf_shape hk
    rw [List.getElem?_map, hx] at ha
    cases ha
    show Rd z x.2 (.str (strOf x.2))
    rw [e]
    exact .str _ _
  have gstep : ∀ {h' : Heap} {s : Shared}, Heap.SameBut I s.heap h' → Stp (fun a => a = I ∨ a = tp) G s { s with heap := h' } := fun {h' s} hsb => ((To.sameBut (tk := s.toks) hsb).mono fun a ha => .inl ha).stp
  have gend : ∀ {h' : Heap} {s : Shared}, Heap.ExtBut I s.heap h' → s.heap.objs.size ≤ h'.objs.size → Stp (fun a => a = I ∨ a = tp) G s { s with heap := h' } := fun {h' s} he hsz => ⟨fun b o hb e => he b o (fun q => hb (.inl q)) e, hsz, rfl, fun _ _ _ e => e, id⟩
  rw [List.length_map, hlen]
  constructor
  · rintro i T z s Q E hi hz ⟨hzD, hT, hID, htp, hi', o, first, ho, hs, hmode⟩ h
    subst hT
    have hoD := hz _ _ hzD
    obtain ⟨oP, hoP⟩ := htp
    have tpk : ∀ {h' : Heap}, Heap.SameBut I s.heap h' → ∀ o', h'.get? I = some o' → ∃ oT, h'.get? tp = some oT := fun {h'} hsb o' ho' => by
      by_cases e : tp = I
      · exact ⟨o', e ▸ ho'⟩
      · exact ⟨oP, (hsb.2 tp e).trans hoP⟩
    have tpl : ∀ {h' : Heap}, Heap.SameBut I s.heap h' → ∀ o', h'.get? I = some o' → ∀ a, (a = I ∨ a = tp) → ((a = I ∨ a = tp) ∨ s.heap.objs.size ≤ a) ∧ a < h'.objs.size := fun {h'} hsb o' ho' a ha => ⟨.inl ha, by
      rcases ha with rfl | rfl
      · exact Heap.lt_size ho'
      · obtain ⟨oT, hoT⟩ := tpk hsb o' ho'; exact Heap.lt_size hoT⟩
    rcases hmode with ⟨hb, rfl⟩ | ⟨hb, hn, rfl, oT, m, hoT, hdT⟩ | ⟨hb, hn, sl, rfl, h0, h1⟩
    · have hord : ordOf w D es ep pl = (pickOrder (w.params.setOrder D ep) es).toList := by unfold ordOf; rw [if_pos hb]
      refine next_text hh hb ho hs hoD hdD hf (fun x h' o' hx hsb ho' hs' => ?_) (fun hx => ?_)
      · exact h _ _ (fun a => a = I ∨ a = tp) (hval z x i (by rw [hord, Array.getElem?_toList]; exact hx)) ⟨hzD, rfl, hID, tpk hsb o' ho', hi, o', _, ho', hs', .inl ⟨hb, rfl⟩⟩ (gstep hsb) (tpl hsb o' ho')
      · have : (pickOrder (w.params.setOrder D ep) es).size = es.size := by rw [← Array.length_toList, ← hord, hlen]
        rw [Array.getElem?_eq_getElem (by (first | with_reducible assumption | with_reducible exact Nat.add_le_add_left (by decide) _ | with_reducible exact Nat.le_trans (by assumption) (by decide) | with_reducible exact Nat.sub_succ_lt_self (by assumption) | with_reducible exact Nat.lt_of_lt_of_le (by assumption) (by assumption) | with_reducible exact Nat.le_trans (by assumption) (by assumption) | decide | omega))] at hx; cases hx
    · have hord : ordOf w D es ep pl = pl.map (fun p => es.getD p (0, .none)) := by unfold ordOf; rw [if_neg (by rw [hb]; decide), if_pos hn]
      refine next_drawn hh ho hs hoT hdT hlt hoD hdD hf (fun p x h' o' hpx hx hsb ho' hs' => ?_) (fun hx => ?_)
      · have htI : tp ≠ I := fun e => by rw [e, ho] at hoT; cases hoT; rw [hs.2] at hdT; cases hdT
        refine h _ _ (fun a => a = I ∨ a = tp) (hval z x i ?_) ⟨hzD, rfl, hID, tpk hsb o' ho', hi, o', _, ho', hs', .inr (.inl ⟨hb, hn, rfl, oT, m, (hsb.2 tp htI).trans hoT, hdT⟩)⟩ (gstep hsb) (tpl hsb o' ho')
        rw [hord, List.getElem?_map, hpx]
        show some (es.getD p (0, .none)) = some x
        rw [Array.getD_eq_getD_getElem?, hx]; rfl
      · have : pl.length = es.size := by rw [hp.length_eq]; simp
        rw [List.getElem?_eq_getElem (by (first | with_reducible assumption | with_reducible exact Nat.add_le_add_left (by decide) _ | with_reducible exact Nat.le_trans (by assumption) (by decide) | with_reducible exact Nat.sub_succ_lt_self (by assumption) | with_reducible exact Nat.lt_of_lt_of_le (by assumption) (by assumption) | with_reducible exact Nat.le_trans (by assumption) (by assumption) | decide | omega))] at hx; cases hx
    · have hord : ordOf w D es ep pl = es.toList := by unfold ordOf; rw [if_neg (by rw [hb]; decide), if_neg (by (first | with_reducible assumption | with_reducible exact Nat.add_le_add_left (by decide) _ | with_reducible exact Nat.le_trans (by assumption) (by decide) | with_reducible exact Nat.sub_succ_lt_self (by assumption) | with_reducible exact Nat.lt_of_lt_of_le (by assumption) (by assumption) | with_reducible exact Nat.le_trans (by assumption) (by assumption) | decide | omega))]
      refine next_small hh hb (hled.resolve_left (by rw [hb]; decide)) hn ho hs hoD hdD hf hi' h0 h1 (fun x sl' h' o' hx hsl hsb ho' hs' => ?_) (fun hx => ?_)
      · exact h _ _ (fun a => a = I ∨ a = tp) (hval z x i (by rw [hord, Array.getElem?_toList]; exact hx)) ⟨hzD, rfl, hID, tpk hsb o' ho', hi, o', _, ho', hs', .inr (.inr ⟨hb, hn, sl', rfl, nofun, fun _ => hsl⟩)⟩ (gstep hsb) (tpl hsb o' ho')
      · rw [Array.getElem?_eq_getElem (by (first | with_reducible assumption | with_reducible exact Nat.add_le_add_left (by decide) _ | with_reducible exact Nat.le_trans (by assumption) (by decide) | with_reducible exact Nat.sub_succ_lt_self (by assumption) | with_reducible exact Nat.lt_of_lt_of_le (by assumption) (by assumption) | with_reducible exact Nat.le_trans (by assumption) (by assumption) | decide | omega))] at hx; cases hx
  · rintro T z s Q E hz ⟨hzD, hT, hID, htp, hi', o, first, ho, hs, hmode⟩ h
    subst hT
    have hoD := hz _ _ hzD
    rcases hmode with ⟨hb, rfl⟩ | ⟨hb, hn, rfl, oT, m, hoT, hdT⟩ | ⟨hb, hn, sl, rfl, h0, h1⟩
    · have hord : ordOf w D es ep pl = (pickOrder (w.params.setOrder D ep) es).toList := by unfold ordOf; rw [if_pos hb]
      have hsz : (pickOrder (w.params.setOrder D ep) es).size = es.size := by rw [← Array.length_toList, ← hord, hlen]
      refine next_text hh hb ho hs hoD hdD hf (fun x h' o' hx hsb ho' hs' => ?_) (fun hx h' he hs' => h _ (gend he hs'))
      have := (Array.getElem?_eq_some_iff.mp hx).1
      (first | with_reducible assumption | with_reducible exact Nat.add_le_add_left (by decide) _ | with_reducible exact Nat.le_trans (by assumption) (by decide) | with_reducible exact Nat.sub_succ_lt_self (by assumption) | with_reducible exact Nat.lt_of_lt_of_le (by assumption) (by assumption) | with_reducible exact Nat.le_trans (by assumption) (by assumption) | decide | omega)
    · refine next_drawn hh ho hs hoT hdT hlt hoD hdD hf (fun p x h' o' hpx hx hsb ho' hs' => ?_) (fun hx h' he hs' => h _ (gend he hs'))
      have := (List.getElem?_eq_some_iff.mp hpx).1
      rw [hp.length_eq] at this
      simp at this
    · refine next_small hh hb (hled.resolve_left (by rw [hb]; decide)) hn ho hs hoD hdD hf hi' h0 h1 (fun x sl' h' o' hx hsl hsb ho' hs' => ?_) (fun hx h' he hs' => h _ (gend he hs'))
      have := (Array.getElem?_eq_some_iff.mp hx).1
      (first | with_reducible assumption | with_reducible exact Nat.add_le_add_left (by decide) _ | with_reducible exact Nat.le_trans (by assumption) (by decide) | with_reducible exact Nat.sub_succ_lt_self (by assumption) | with_reducible exact Nat.lt_of_lt_of_le (by assumption) (by assumption) | with_reducible exact Nat.le_trans (by assumption) (by assumption) | decide | omega)
  · rintro i T z z' s s' ⟨hzD, hT, hID, htp, hi', o, first, ho, hs, hmode⟩ hle hk _
    subst hT
    refine ⟨hle _ _ hzD, rfl, hID, let ⟨oT, hoT⟩ := htp; ⟨oT, hk tp oT (.inr rfl) hoT⟩, hi', o, first, hk I o (.inl rfl) ho, hs, ?_⟩
    rcases hmode with hm | ⟨hb, hn, hfi, oT, m, hoT, hdT⟩ | hm
    · exact .inl hm
    · exact .inr (.inl ⟨hb, hn, hfi, oT, m, hk tp oT (.inr rfl) hoT, hdT⟩)
    · exact .inr (.inr hm)
  · rintro i T z s Q E hz ⟨hzD, hT, hID, htp, hi', o, first, ho, hs, hmode⟩ h
    have hTI : s.TypeIs (.ref I) "set_iterator" := ⟨o, ho, hs.1⟩
    refine wpAny_pyIter_slot hTI slot_si_iter (wpAny_call_entry slot_si_iter hTI entry_si_iter ?_ (args_si_iter _))
    show wpAny _ _ (ret (.ref I)) _ _ s
    exact wpAny_pure ⟨_, rfl, "set_iterator", _, hTI, slot_si_next.lookup, h⟩

/-- «iter» of a set of strs that stays as it is -/
theorem iter_set {D : Addr} {oD : Obj} {S : Str → Bool} {n : Nat} {Q : Value → Shared → Prop} (hz : z.In s.heap) (hzD : z D oD) (hS : SetObj prog w S n oD)
    (h : ∀ (I tp : Addr) (s' : Shared) (xs : List Str) (St : Nat → (Addr → Prop) → Fz → Shared → Prop), (∀ x, x ∈ xs ↔ S x = true) → xs.length = n → To No s s' → (s.heap.objs.size ≤ I ∧ I < s'.heap.objs.size) → (s.heap.objs.size ≤ tp ∧ tp < s'.heap.objs.size) →
      (∀ (A' : Around) (G : Nat), A'.handled = none → Iter prog w A' I G xs.length (fun i z v => ∀ a, xs[i]? = some a → Rd z v (.str a)) St) → St 0 (fun a => a = I ∨ a = tp) z s' → Q (.ref I) s') :
    wpAny (model prog w) A (pyIter (.ref D)) Q E s := by
  obtain ⟨es, ep, t, hex, hdD, hel, hmem, hb, hf, hn, htab⟩ := hS
  have hoD := hz _ _ hzD
  have hTD : s.TypeIs (.ref D) "set" := ⟨oD, hoD, hex.1⟩
  have hDl : D < s.heap.objs.size := Heap.lt_size hoD
  have memOf : ∀ pl, List.Perm pl (List.range es.size) → ∀ x, x ∈ ((ordOf w D es ep pl).map fun e => strOf e.2) ↔ S x = true := fun pl hp x => by
    have hperm := ord_perm (w := w) (D := D) (ep := ep) hp
    rw [hmem x, List.mem_map]
    constructor
    · rintro ⟨e, he, rfl⟩
      have he' := hperm.mem_iff.mp he
      obtain ⟨⟨k, hk, _⟩, _⟩ := hel e he'
      obtain ⟨tk, e2⟩ := Value.isStrOf_shape hk
      exact ⟨e, he', by rw [e2]; exact strKind_is prog w _ _⟩
    · rintro ⟨e, he, hk⟩
      obtain ⟨tk, e2⟩ := Value.isStrOf_shape hk
      exact ⟨e, hperm.mem_iff.mpr he, by rw [e2]; rfl⟩
  have lenOf : ∀ pl, List.Perm pl (List.range es.size) → ((ordOf w D es ep pl).map fun e => strOf e.2).length = n := fun pl hp => by
    rw [List.length_map, (ord_perm (w := w) (D := D) (ep := ep) hp).length_eq, ← hn]; simp
  have hled : byText w = true ∨ t.led = true := htab.1
  refine wpAny_pyIter_slot hTD slot_set_iter (wpAny_call_entry slot_set_iter hTD entry_set_iter ?_ (args_set_iter _))
  unfold Builtin.«frozenset.__iter__» Builtin.Frozenset.slot0 Builtin.Frozenset.addrOf Builtin.Frozenset.sizeOf setEntries
  refine wpAny_bind (wpAny_bind (wpAny_pure ?_))
  refine wpAny_pure ?_
  refine wpAny_bind (wpAny_bind (wpAny_bind (wpAny_setState_of hoD hdD hf (wpAny_pure (wpAny_pure ?_)))))
  dsimp only
  have hby : ∀ {Q' : Bool → Shared → Prop} {E' : Value → Shared → Prop}, Q' (byText w) s → wpAny (model prog w) A.in1 setsByText Q' E' s := fun hq => by
    unfold setsByText
    exact wpAny_bind (wpAny_askSetting (wpAny_pure hq))
  unfold setDrawn
  refine wpAny_bind (wpAny_bind (wpAny_setState_of hoD hdD hf (wpAny_bind (hby (wpAny_pure ?_)))))
  show wpAny _ _ (if (!byText w && (!t.plain && decide (es.size > 1))) = true then _ else _) _ _ _
  have hpl : 0 < es.size → t.plain = false := fun h0 => by
    cases q : t.plain with
    | false => rfl
    | true => have := htab.2 q; (first | with_reducible assumption | with_reducible exact Nat.add_le_add_left (by decide) _ | with_reducible exact Nat.le_trans (by assumption) (by decide) | with_reducible exact Nat.sub_succ_lt_self (by assumption) | with_reducible exact Nat.lt_of_lt_of_le (by assumption) (by assumption) | with_reducible exact Nat.le_trans (by assumption) (by assumption) | decide | omega)
  cases hbt : byText w with
  | true =>
    rw [if_neg (by simp)]
    refine wpAny_bind (wpAny_pure (wpAny_bind (wpAny_setEpoch_of hoD hdD hf (wpAny_bind ?_))))
    simp only [newFields]
    refine wpAny_newObj_type (wpAny_pure ⟨_, rfl, "set_iterator", _, ⟨_, Heap.get?_push_size _ rfl, rfl⟩, slot_si_next.lookup, ?_⟩) (by size_fits)
    refine h _ s.heap.objs.size _ _ (SiSt w D s.heap.objs.size s.heap.objs.size oD es ep t (List.range es.size)) (memOf _ (.refl _)) (lenOf _ (.refl _)) (To.push No s _) ⟨Nat.le_refl _, by simp⟩ ⟨Nat.le_refl _, by simp⟩ (fun A' G hh => si_iter hh hdD hf hel (.refl _) hled) ?_
    exact ⟨hzD, rfl, Nat.ne_of_gt hDl, ⟨_, Heap.get?_push_size _ rfl⟩, Nat.zero_le _, _, _, Heap.get?_push_size _ rfl, ⟨rfl, rfl⟩, .inl ⟨hbt, rfl⟩⟩
  | false =>
    by_cases h1 : 1 < es.size
    · rw [hpl (by (first | with_reducible assumption | with_reducible exact Nat.add_le_add_left (by decide) _ | with_reducible exact Nat.le_trans (by assumption) (by decide) | with_reducible exact Nat.sub_succ_lt_self (by assumption) | with_reducible exact Nat.lt_of_lt_of_le (by assumption) (by assumption) | with_reducible exact Nat.le_trans (by assumption) (by assumption) | decide | omega)), if_pos (by simp [h1])]
      refine wpAny_bind (draw_perm es.size (List.range es.size) _ _ (by simp) fun pl d hp => ?_)
      have hpl' : pl.length < scanBound := by rw [hp.length_eq, List.length_range]; exact hb
      refine wpAny_bind (wpAny_newObj_type ?_ (by show (List.map _ pl).toArray.size ≤ sizeLine; simp only [List.size_toArray, List.length_map]; exact fits_of_scanBound hpl'))
      refine wpAny_bind (wpAny_setEpoch_of (s := { s with drawn := d, heap := s.heap.push _ }) (Heap.get?_push_of_some _ hoD) hdD hf (wpAny_bind ?_))
      simp only [newFields]
      refine wpAny_newObj_type (wpAny_pure ⟨_, rfl, "set_iterator", _, ⟨_, Heap.get?_push_size _ rfl, rfl⟩, slot_si_next.lookup, ?_⟩) (by size_fits)
      refine h _ s.heap.objs.size _ _ (SiSt w D _ s.heap.objs.size oD es ep t pl) (memOf _ hp) (lenOf _ hp) ?_ ⟨by simp, by simp⟩ ⟨Nat.le_refl _, by simp only [Heap.size_push]; exact Nat.lt_succ_of_lt (Nat.lt_succ_self _)⟩ (fun A' G hh => si_iter hh hdD hf hel hp hled) ?_
      · exact ⟨fun b o _ e => Heap.get?_push_of_some _ (Heap.get?_push_of_some _ e), by simp only [Heap.size_push]; exact Nat.le_succ_of_le (Nat.le_succ _), rfl, fun _ _ e => e, id⟩
      · exact ⟨hzD, rfl, by simp; exact Nat.ne_of_gt (Nat.lt_succ_of_lt hDl), ⟨_, Heap.get?_push_of_some _ (Heap.get?_push_size _ rfl)⟩, Nat.zero_le _, _, _, Heap.get?_push_size _ rfl, ⟨rfl, rfl⟩, .inr (.inl ⟨hbt, h1, rfl, _, _, Heap.get?_push_of_some _ (Heap.get?_push_size _ rfl), rfl⟩)⟩
    · rw [if_neg (by simp; (first | with_reducible assumption | with_reducible exact Nat.add_le_add_left (by decide) _ | with_reducible exact Nat.le_trans (by assumption) (by decide) | with_reducible exact Nat.sub_succ_lt_self (by assumption) | with_reducible exact Nat.lt_of_lt_of_le (by assumption) (by assumption) | with_reducible exact Nat.le_trans (by assumption) (by assumption) | decide | omega))]
      refine wpAny_bind (wpAny_pure (wpAny_bind (wpAny_setEpoch_of hoD hdD hf (wpAny_bind ?_))))
      simp only [newFields]
      refine wpAny_newObj_type (wpAny_pure ⟨_, rfl, "set_iterator", _, ⟨_, Heap.get?_push_size _ rfl, rfl⟩, slot_si_next.lookup, ?_⟩) (by size_fits)
      refine h _ s.heap.objs.size _ _ (SiSt w D s.heap.objs.size s.heap.objs.size oD es ep t (List.range es.size)) (memOf _ (.refl _)) (lenOf _ (.refl _)) (To.push No s _) ⟨Nat.le_refl _, by simp⟩ ⟨Nat.le_refl _, by simp⟩ (fun A' G hh => si_iter hh hdD hf hel (.refl _) hled) ?_
      exact ⟨hzD, rfl, Nat.ne_of_gt hDl, ⟨_, Heap.get?_push_size _ rfl⟩, Nat.zero_le _, _, _, Heap.get?_push_size _ rfl, ⟨rfl, rfl⟩, .inr (.inr ⟨hbt, by (first | with_reducible assumption | with_reducible exact Nat.add_le_add_left (by decide) _ | with_reducible exact Nat.le_trans (by assumption) (by decide) | with_reducible exact Nat.sub_succ_lt_self (by assumption) | with_reducible exact Nat.lt_of_lt_of_le (by assumption) (by assumption) | with_reducible exact Nat.le_trans (by assumption) (by assumption) | decide | omega), 0, rfl, fun _ => rfl, nofun⟩)⟩
end NB90
end
section
set_option autoImplicit false
open PySem PySem.W PyProof.Rows
set_option Elab.async false
set_option maxRecDepth 100000
namespace NB90
variable {h₀ : Heap} {mg mb : Str → Option Value} {W : Addr → Prop} {z₀ z z' z₁ : Fz} {s₀ s s' s₁ : Shared} {env : Env} {ρ : List (Str × Value)} {prog : Program} {w : World} {A : Around} {E : Value → Shared → Prop}

/-- a method of the class -/
structure MtOk (h₀ : Heap) (nm qn : Str) (P : Arguments) (B : List Stmt) (S : Scope) (a : Addr) (cd : Value) : Prop where
  at_ : ∃ o pm doc, h₀.get? a = some o ∧ o.cls = .type "function" ∧ o.data = .func (methDef nm qn P B S pm cd doc)
  code : h₀.CodeRec cd qn

/-- the class -/
structure ClOk (prog : Program) (w : World) (h₀ : Heap) (C N fI fN : Addr) (mN : Str → Option Value) : Prop where
  mkC : PySem.W.Makes (model prog w) h₀ C
  mkI : PySem.W.Looks (model prog w) h₀ (typeLookup (.ref C) "__init__") (some (.ref fI))
  mkB : ∀ self, PySem.W.Looks (model prog w) h₀ (bindSpecial (.ref fI) self) (.ref fI, [self])
  cls : ClsAt h₀ C N mN
  init : mN (Str.ofString "__init__") = some (.ref fI)
  names : mN (Str.ofString "names") = some (.ref fN)
  ga : mN (Str.ofString "__getattribute__") = none
  gh : mN (Str.ofString "__getattr__") = none
  sa : mN (Str.ofString "__setattr__") = none
  mods : mN (Str.ofString "_mods") = none
  dirs : mN (Str.ofString "_dirs") = none
  ign : mN (Str.ofString "_ignore") = none

/-- an object whose own dict stays as it is -/
noncomputable def InstZ (z : Fz) (x C : Addr) (mA : Str → Option Value) : Prop := ∀ h : Heap, z.In h → h.Inst x C mA
theorem InstZ.mono {x C : Addr} {mA : Str → Option Value} (h : InstZ z x C mA) (hz : z.le z') : InstZ z' x C mA := fun hp hi => h hp fun b o e => hi b o (hz b o e)

theorem no_obj {name : Str} (h : name = Str.ofString "_mods" ∨ name = Str.ofString "_dirs" ∨ name = Str.ofString "_ignore") : typeLookup (.type "object") name = pure none := by
  rcases h with rfl | rfl | rfl <;> (rw [typeLookup_type, builtinLookup_eq_fast]; kernel_rfl)

/-- «x.name» -/
theorem ev_attr {C N fI fN x : Addr} {mN mA : Str → Option Value} {nm name : Str} {p pos : Pos} {v : Value} {Q : Value → Shared → Prop} (J : Inn h₀ W z₀ s₀ env ρ z s) (c : ClOk prog w h₀ C N fI fN mN) (hx : ρ.lookup nm = some (.ref x)) (hk : env.kindOf nm = some .local)
    (hd : (nm == ("__debug__" : Str)) = false ∧ (nm == ("__classdict__" : Str)) = false) (hI : s.heap.Inst x C mA) (hv : mA name = some v) (hh : handedOut v = pure v) (hn : name = Str.ofString "_mods" ∨ name = Str.ofString "_dirs" ∨ name = Str.ofString "_ignore")
    (h : ∀ s', Inn h₀ W z₀ s₀ env ρ z s' → s'.heap = s.heap → Q v s') : wpAny (model prog w) A (eval (.Attribute (.Name nm p) name pos) env) Q E s := by
  refine Attribute_name (J.ld hx (.inl hk) ?_ hd.1 hd.2)
  have hK := c.cls.keeps J.keep0
  obtain ⟨nm', q, bs, sn, sub, col, dd, k0, k1, k2, k3, k5, hC⟩ := hK.obj
  have hna : mN name = none := by
    rcases hn with rfl | rfl | rfl
    · exact c.mods
    · exact c.dirs
    · exact c.ign
  have J' := J.tok (s.toks + 1)
  obtain ⟨hp, g, d, t, os⟩ := s
  exact load_attr hC hK.ns c.ga hna (no_obj hn) hI hv hh (h _ J' rfl)

theorem makes_keeps {M : Model} {h h' : Heap} {C : Addr} (Y : PySem.W.Makes M h C) (k : ∀ b o, h.get? b = some o → h'.get? b = some o) : PySem.W.Makes M h' C :=
  ⟨let ⟨oc, od, cd, sl, e, r⟩ := Y.obj; ⟨oc, od, cd, sl, k _ _ e, r⟩, Y.made.keeps k, Y.base.keeps k, Y.self.keeps k, Y.top.keeps k, Y.call.keeps k, Y.typ.keeps k⟩

/-- «C(args)»: the object, then its __init__ -/
theorem make_obj {C N fI fN : Addr} {mN : Str → Option Value} {rest : List Value} {Q : Value → Shared → Prop} (c : ClOk prog w h₀ C N fI fN mN) (hz : z.In s.heap) (hb : Base h₀ z)
    (h : codeAny (model prog w) (A.under (.builtin "type.__call__" ⟨.ref C :: rest, []⟩)) (.call (.ref fI) ⟨.ref (s.heap.objs.size + 1) :: rest, []⟩) (fun r s' => r = .ok (.ret .none) ∧ Q (.ref (s.heap.objs.size + 1)) s')
      { s with heap := (s.heap.push PySem.W.emptyDict).push (PySem.W.instObj C s.heap.objs.size) }) :
    wpAny (model prog w) A (call (.ref C) rest) Q E s := by
  have k := hb.keep hz
  obtain ⟨hp, g, d, t, os⟩ := s
  refine wpAny_call (PySem.W.make_core (makes_keeps c.mkC k) (c.mkI.keeps k) (fun self => (c.mkB self).keeps k) (.inl rfl) (codeAny_mono h fun r s' hr => ?_))
  obtain ⟨rfl, hq⟩ := hr
  exact ⟨rfl, hq⟩
end NB90
end
section
set_option autoImplicit false
open PySem PySem.W PyProof.Rows
set_option Elab.async false
set_option maxRecDepth 100000
namespace NB90
variable {h₀ : Heap} {mg mb : Str → Option Value} {W : Addr → Prop} {z₀ z z' z₁ : Fz} {s₀ s s' s₁ : Shared} {env : Env} {ρ : List (Str × Value)} {prog : Program} {w : World} {A : Around} {E : Value → Shared → Prop}

/-- the frame of a call without cells -/
theorem enter_fd {fd : FuncData} {a : Addr} {binds : List (Str × Value)} (hg : fd.globals = mainGlobals) (hbi : fd.builtins = builtinsNs) (hk : fd.scope.kind = .function) (hc : cellsFrom (s.heap.objs.size + 1) fd.scope.names [] = []) (hz : z.In s.heap) (hb : Base h₀ z)
    (x : InCallC s (callEnvC fd s.heap.objs.size a).locals (bindL (callEnvC fd s.heap.objs.size a).kindOf binds fun _ => none) (callEnvC fd s.heap.objs.size a).cells (bindC (callEnvC fd s.heap.objs.size a).kindOf binds fun _ => none) s₁)
    (hall : ∀ x ∈ binds, fd.scope.names.lookup x.1 = some .local) :
    Inn h₀ No z s (callEnvC fd s.heap.objs.size a) binds.reverse z s₁ := by
  obtain ⟨⟨⟨h₁, tk, rfl⟩, hns, hkeep, _⟩, hcell, hap, hab⟩ := x
  have hsz : s.heap.objs.size ≤ h₁.objs.size := Nat.le_of_lt hns.lt
  have t : To No s { s with heap := h₁, toks := tk } := To.heap hkeep hsz No
  have hno : ∀ y c, (callEnvC fd s.heap.objs.size a).cells.lookup y ≠ some c := fun y c => by
    show List.lookup y (cellsFrom (s.heap.objs.size + 1) fd.scope.names []) ≠ some c
    rw [hc]; nofun
  refine ⟨Grow.same hz t, ?_, hb, Apart.no _⟩
  exact {
    fn := hk, gl := hg, bi := hbi
    ns := ⟨_, hns, fun y v hky hv => lookup_bindL binds _ y v hky hv⟩
    cell := fun y v hky hv => by
      have hm : (y, v) ∈ binds := List.mem_reverse.mp (mem_of_lookup hv)
      have h1 : (callEnvC fd s.heap.objs.size a).kindOf y = some .local := hall _ hm
      rw [h1] at hky; rcases hky with h | h <;> cases h
    nz := fun o e => absurd (Heap.lt_size (hz _ _ e)) (Nat.lt_irrefl _)
    cz := fun y c hc' => absurd hc' (hno y c)
    dist := fun y y' c hy _ => absurd hy (hno y c) }

/-- a call of a function that raises nothing, its arguments bound by looking -/
theorem meth_call {n : Nat} {a : Addr} {o : Obj} {fd : FuncData} {body : List Stmt} {vals : List Value} {binds : List (Str × Value)} {R : Result → Shared → Prop} (r : Room A (n + 1)) (lim : h₀.NoLimit) (ho : h₀.get? a = some o) (hd : o.data = .func fd) (hbody : fd.body = .stmts body)
    (hcd : h₀.CodeRec fd.code fd.qualname) (hclo : fd.closure = []) (hg : fd.globals = mainGlobals) (hbi : fd.builtins = builtinsNs) (hz : z.In s.heap) (hb : Base h₀ z) (hbind : PySem.W.Looks (model prog w) s.heap (bindArgs fd ⟨vals, []⟩) binds)
    (hall : ∀ x ∈ binds, fd.scope.names.lookup x.1 = some .local) (hc : ∀ L, cellsFrom L fd.scope.names [] = []) (hfl : fd.scope.isCoroutine = false ∧ fd.scope.isGenerator = false ∧ fd.scope.kind = .function)
    (h : ∀ env s₁, env.scope = fd.scope → s.heap.objs.size ≤ env.locals → (∀ y c, env.cells.lookup y ≠ some c) → Inn h₀ No z s env binds.reverse z s₁ → Room (A.deeper env) n →
      wpAny (model prog w) (A.deeper env) (execs body env) (fun fl s' => R (.ok (.ret (match fl with | .ret v => v | _ => .none))) s') (fun _ _ => False) s₁) :
    codeAny (model prog w) A (.call (.ref a) ⟨vals, []⟩) R s := by
  have k := hb.keep hz
  refine codeAny_call_function r.lt (k _ _ ho) hd hfl.1 hfl.2.1 hbody (hcd.keeps k) ?_
  refine hbind.here ?_
  rw [hclo]
  refine wpAny_newFunctionEnv_cells hfl.2.2 (fun x hx => .inl (hall x hx)) fun env he s2 x => ?_
  have he' : env = callEnvC fd s.heap.objs.size a := he
  subst he'
  refine ⟨(lim.keeps k).keeps x.toInCall.keep, codeAny_func ?_⟩
  refine wpAny_mono (h _ s2 rfl (Nat.le_refl _) (fun y c => by
    show List.lookup y (cellsFrom (s.heap.objs.size + 1) fd.scope.names []) ≠ some c
    rw [hc]; nofun) (enter_fd hg hbi hfl.2.2 (hc _) hz hb x hall) (r.deeper _)) (fun fl s' hq => hq) fun _ _ e => e.elim
end NB90
end
section
set_option autoImplicit false
open PySem PySem.W PyProof.Rows
set_option Elab.async false
set_option maxRecDepth 100000
namespace NB90
variable {h₀ : Heap} {mg mb : Str → Option Value} {W : Addr → Prop} {z₀ z z' z₁ : Fz} {s₀ s s' s₁ : Shared} {env : Env} {ρ : List (Str × Value)} {prog : Program} {w : World} {A : Around} {E : Value → Shared → Prop}

theorem gen_nobool : typeLookup (.type "generator") "__bool__" = pure none := by rw [typeLookup_type, builtinLookup_eq_fast]; kernel_rfl
theorem gen_nolen : typeLookup (.type "generator") "__len__" = pure none := by rw [typeLookup_type, builtinLookup_eq_fast]; kernel_rfl
theorem truthy_gen {gen : Addr} {g : Nat} {Q : Bool → Shared → Prop} (hg : s.heap.IsGen gen g) (h : Q true s) : wpAny (model prog w) A (truthy (.ref gen)) Q E s := by
  unfold truthy
  refine wpAny_bind (wpAny_bind (wpAny_specialOf hg.typeIs gen_nobool ?_))
  refine wpAny_pure ?_
  refine wpAny_bind (wpAny_specialOf hg.typeIs gen_nolen ?_)
  exact wpAny_pure h

/-- an object under construction: its own places are new and not frozen -/
structure Mkg (s₀ : Shared) (z : Fz) (env : Env) (x dx C : Addr) (mA : Str → Option Value) (s : Shared) : Prop where
  newX : s₀.heap.objs.size ≤ x
  newD : s₀.heap.objs.size ≤ dx
  zx : ∀ o, ¬ z x o
  zd : ∀ o, ¬ z dx o
  ap : Apart (fun a => a = x ∨ a = dx) env
  at_ : ∃ o, s.heap.get? x = some o ∧ o.dict = some dx
  inst : s.heap.Inst x C mA

theorem Mkg.up {x dx C : Addr} {mA : Str → Option Value} (m : Mkg s₀ z env x dx C mA s) (g : Grow No z s z' s') : Mkg s₀ z' env x dx C mA s' := by
  obtain ⟨o, ho, hd⟩ := m.at_
  have hdl : dx < s.heap.objs.size := by
    obtain ⟨o', ho', _, _, hdd⟩ := m.inst
    rw [ho] at ho'; cases ho'
    rcases hdd with ⟨hn, _⟩ | ⟨d, h1, _, hns⟩
    · rw [hd] at hn; cases hn
    · rw [hd] at h1; cases h1; exact hns.ns.lt
  exact ⟨m.newX, m.newD, fun p e => (g.new _ p e).elim (m.zx p) fun hl => absurd (Heap.lt_size ho) (Nat.not_lt.mpr hl), fun p e => (g.new _ p e).elim (m.zd p) fun hl => absurd hdl (Nat.not_lt.mpr hl), m.ap,
    ⟨o, g.all _ _ ho, hd⟩, m.inst.keeps g.all⟩

theorem st_attr {C N fI fN x dx : Addr} {mN mA : Str → Option Value} {name : Str} {v : Value} {ns : List Str} {Q : Unit → Shared → Prop} (J : Inn h₀ No z₀ s₀ env ρ z s) (c : ClOk prog w h₀ C N fI fN mN) (m : Mkg s₀ z env x dx C mA s)
    (hn : name = Str.ofString "_mods" ∨ name = Str.ofString "_dirs" ∨ name = Str.ofString "_ignore") (hw : Within mA ns) (hns : ns.length ≤ 10)
    (h : ∀ s', Inn h₀ No z₀ s₀ env ρ z s' → Mkg s₀ z env x dx C (fun y => if y = name then some v else mA y) s' → To (fun a => a = x ∨ a = dx) s s' → Q () s') :
    wpAny (model prog w) A (setAttr (.ref x) name v) Q E s := by
  have hK := c.cls.keeps J.keep0
  obtain ⟨nm', q, bs, sn, sub, col, dd, k0, k1, k2, k3, k5, hC⟩ := hK.obj
  have hna : mN name = none := by
    rcases hn with rfl | rfl | rfl
    · exact c.mods
    · exact c.dirs
    · exact c.ign
  obtain ⟨nm2, q2, bs2, sn2, sub2, col2, dd2, l0, l1, l2, l3, l5, hC0⟩ := c.cls.obj
  have hxC : x ≠ C := fun e => m.zx _ (e ▸ J.base _ _ hC0)
  obtain ⟨ox, hx, hdx⟩ := m.at_
  refine with_size ?_
  obtain ⟨hp, g, d, t, os⟩ := s
  refine store_attr PySem.F.store_object hC hK.ns c.sa hna (no_obj hn) hxC m.inst (fun h' tk' hI' hk hsame hsz => ?_) hw (le_line (by (first | with_reducible assumption | with_reducible exact Nat.add_le_add_left (by decide) _ | with_reducible exact Nat.le_trans (by assumption) (by decide) | with_reducible exact Nat.sub_succ_lt_self (by assumption) | with_reducible exact Nat.lt_of_lt_of_le (by assumption) (by assumption) | with_reducible exact Nat.le_trans (by assumption) (by assumption) | decide | omega)))
  have kk : ∀ b o, b ≠ x → b ≠ dx → hp.get? b = some o → h'.get? b = some o := fun b o h1 h2 e => hk b o h1 (fun o₀ d' e₀ ed => by
    obtain rfl := Option.some.inj (hx.symm.trans e₀); obtain rfl := Option.some.inj (hdx.symm.trans ed); exact h2) e
  have t1 : To (fun a => a = x ∨ a = dx) ⟨hp, g, d, t, os⟩ ⟨h', g, d, tk', os⟩ := ⟨fun b o hb e => kk b o (fun q => hb (.inl q)) (fun q => hb (.inr q)) e, hsz, rfl, fun _ _ e => e, id⟩
  have J' := J.step (fun a ha => ha.elim (fun e => e ▸ m.newX) fun e => e ▸ m.newD) (Nat.le_refl _) (fun a o ha => ha.elim (fun e => e ▸ m.zx o) fun e => e ▸ m.zd o) m.ap (t1.stp (G := s₀.gens.size))
  obtain ⟨o₁, e₁, _, _, _, dk₁⟩ := hsame ox hx
  exact h _ J' ⟨m.newX, m.newD, m.zx, m.zd, m.ap, ⟨o₁, e₁, dk₁ dx hdx⟩, hI'⟩ t1

theorem inst_at {h h' : Heap} {x dx C : Addr} {mA : Str → Option Value} {o : Obj} (hI : h.Inst x C mA) (ho : h.get? x = some o) (hd : o.dict = some dx) (hk : ∀ b p, (b = x ∨ b = dx) → h.get? b = some p → h'.get? b = some p) : h'.Inst x C mA := by
  obtain ⟨o', ho', hc, hn, hdd⟩ := hI
  rw [ho] at ho'; cases ho'
  refine ⟨o, hk x o (.inl rfl) ho, hc, hn, ?_⟩
  rcases hdd with ⟨h1, _⟩ | ⟨d, h1, h2, hns⟩
  · rw [hd] at h1; cases h1
  · rw [hd] at h1; cases h1
    exact .inr ⟨dx, hd, h2, hns.at fun p e => hk dx p (.inr rfl) e⟩
theorem Mkg.keepT {x dx C : Addr} {mA : Str → Option Value} (m : Mkg s₀ z env x dx C mA s) (hk : ∀ b p, (b = x ∨ b = dx) → s.heap.get? b = some p → s'.heap.get? b = some p) : Mkg s₀ z env x dx C mA s' :=
  let ⟨o, ho, hd⟩ := m.at_
  ⟨m.newX, m.newD, m.zx, m.zd, m.ap, ⟨o, hk x o (.inl rfl) ho, hd⟩, inst_at m.inst ho hd hk⟩
theorem Mkg.put {x dx C a : Addr} {mA : Str → Option Value} {p : Obj} (m : Mkg s₀ z env x dx C mA s) (h1 : a ≠ x) (h2 : a ≠ dx) : Mkg s₀ (z.put a p) env x dx C mA s :=
  { m with zx := fun o e => e.elim (m.zx o) fun q => h1 q.1.symm, zd := fun o e => e.elim (m.zd o) fun q => h2 q.1.symm }
theorem Fm.put {h : Heap} {a : Addr} {p : Obj} (F : Fm z h env ρ) (hc : ∀ y c, env.cells.lookup y ≠ some c) (ha : a ≠ env.locals) : Fm (z.put a p) h env ρ :=
  { F with nz := fun o e => e.elim (F.nz o) fun q => ha q.1.symm, cz := fun y c hc' => absurd hc' (hc y c) }
theorem put_in {h : Heap} {a : Addr} {p : Obj} (hz : z.In h) (ho : h.get? a = some p) : (z.put a p).In h := fun b o e => e.elim (hz b o) fun q => by obtain ⟨rfl, rfl⟩ := q; exact ho
end NB90
end
section
set_option autoImplicit false
open PySem PySem.W PyProof.Rows
set_option Elab.async false
set_option maxRecDepth 100000
namespace NB90
variable {h₀ : Heap} {mg mb : Str → Option Value} {W : Addr → Prop} {z₀ z z' z₁ : Fz} {s₀ s s' s₁ : Shared} {env : Env} {ρ : List (Str × Value)} {prog : Program} {w : World} {A : Around} {E : Value → Shared → Prop}

theorem Stp.mono {T U : Addr → Prop} {G : Nat} (t : Stp T G s s') (h : ∀ a, T a → U a) : Stp U G s s' := ⟨fun b o hb e => t.keep b o (fun q => hb (h b q)) e, t.size, t.os, t.gens, t.bare⟩

/-- a reader's own dict -/
noncomputable def mAof (D l0 d : Addr) : Str → Option Value := fun y => if y = Str.ofString "_ignore" then some (.ref d) else if y = Str.ofString "_dirs" then some (.ref l0) else if y = Str.ofString "_mods" then some (.ref D) else none

theorem init_body {n : Nat} {C N fI fN x dx gen : Addr} {G g : Nat} {mN : Str → Option Value} {xs : List Str} {T : Addr → Prop} {St : Around → Nat → (Addr → Prop) → Fz → Shared → Prop} {Q : Flow → Shared → Prop} (r : Room A (n + 3)) (Gd₀ : Gd h₀ mg mb) (c : ClOk prog w h₀ C N fI fN mN)
    (hS : env.scope = pScopeInit.1) (hc : ∀ y c, env.cells.lookup y ≠ some c)
    (J : Inn h₀ No z (noS s) env [(Str.ofString "dirs", .none), (Str.ofString "modules", .ref gen), (Str.ofString "self", .ref x)] z s) (m : Mkg (noS s) z env x dx C (fun _ => none) s)
    (It : ∀ A', Room A' n → Iter prog w A' gen G xs.length (fun i z v => ∀ a, xs[i]? = some a → Rd z v (.str a)) (St A')) (hst : ∀ A', Room A' n → St A' 0 T z s) (hgen : s.heap.IsGen gen g) (hT : ∀ a, T a → a < s.heap.objs.size ∧ ∀ o, ¬ z a o) (hb : xs.length + 1 < scanBound)
    (hTx : ¬ T x ∧ ¬ T dx ∧ ¬ T env.locals)
    (h : ∀ (D l0 d : Addr) (oD : Obj) (cnt : Nat) (z' : Fz) (s' : Shared), Stp (fun a => T a ∨ a = x ∨ a = dx) G s s' → z.le z' → z'.In s'.heap → (∀ a o, z' a o → z a o ∨ s.heap.objs.size ≤ a) → z' D oD → SetObj prog w (fun k => decide (k ∈ xs)) cnt oD → Rd z' (.ref l0) (.list []) →
      Mkg (noS s) z' env x dx C (mAof D l0 d) s' → s.heap.objs.size ≤ d → (∀ o, ¬ z' d o) → d ≠ x ∧ d ≠ dx → (∃ t, s'.heap.DictOf (strKind prog w) d [(Str.ofString "<string>", .int 1 t)]) → Q .next s') :
    wpAny (model prog w) A (execs pBodyInit.1 env) Q (fun _ _ => False) s := by
  simp only [pBodyInit]
  with_reducible refine wpAny_execs_cons (plainObj_wpAny_Assign_Attribute (IfExp_ (isTrue_not (isTrue_plain ?_ ?_))) ?_)
  · refine J.ld rfl (.inl (kind_of hS rfl)) (truthy_gen hgen ?_)
    rw [if_neg (by decide)]
    with_reducible refine ev_callT J Gd₀ Gd₀.set.1 Gd₀.set.2 (kind_of hS ?_) ?_ ?_ ?_
    · rfl
    · decide
    · rfl
    refine J.ld rfl (.inl (kind_of hS rfl)) ?_
    refine set_gen (It _ r.in1.in1.in1) J.inn (hst _ r.in1.in1.in1) hgen hT hb fun s1 cnt t1 hz1 hS1 => ?_
    have hDl : ∀ {b : Addr} {o : Obj}, s.heap.get? b = some o → s.heap.objs.size ≠ b := fun e q => Nat.lt_irrefl _ (q ▸ Heap.lt_size e)
    have J1 := Inn.freeAt (J.frame.at_ hc fun o e => t1.keep _ o hTx.2.2 e) hz1 J.base
    have m1 : Mkg (noS s) z env x dx C (fun _ => none) s1 := m.keepT fun b p hb e => t1.keep b p (hb.elim (fun q => q ▸ hTx.1) fun q => q ▸ hTx.2.1) e
    obtain ⟨oD, hoD, hSO⟩ := hS1
    generalize hD : s.heap.objs.size = D at *
    have hDL : D ≠ env.locals := by obtain ⟨mm, ⟨o, _, _, ho, _⟩, _⟩ := J.frame.ns; exact hDl ho
    have hDx : D ≠ x := by obtain ⟨o, ho, _⟩ := m.at_; exact hDl ho
    have hDd : D ≠ dx := by
      obtain ⟨o, ho, hd⟩ := m.at_
      obtain ⟨o', ho', _, _, hdd⟩ := m.inst
      rw [ho] at ho'; cases ho'
      rcases hdd with ⟨hn, _⟩ | ⟨d, h1, _, hns⟩
      · rw [hd] at hn; cases hn
      · rw [hd] at h1; cases h1
        obtain ⟨o2, _, _, ho2, _⟩ := hns.ns
        exact hDl ho2
    have J2 := Inn.freeAt (J1.frame.put (p := oD) hc hDL) (put_in hz1 hoD) (J.base.mono (Fz.put_le _ _ _))
    have m2 : Mkg (noS s1) (z.put D oD) env x dx C (fun _ => none) s1 := { m1.put (p := oD) hDx hDd with newX := Nat.zero_le _, newD := Nat.zero_le _ }
    refine J2.ld rfl (.inl (kind_of hS rfl)) ?_
    refine st_attr (ns := []) J2 c m2 (.inl rfl) Within.nil (by decide) fun s3 J3 m3 k3 => ?_
    with_reducible refine wpAny_execs_cons (plainObj_wpAny_Assign_Attribute (IfExp_ (isTrue_not (isTrue_plain ?_ ?_))) ?_)
    · refine J3.ld rfl (.inl (kind_of hS rfl)) (truthy_none ?_)
      rw [if_pos (by decide)]
      with_reducible refine ev_list (arg_n ?_)
      refine J3.here.newList (RdAll.nil _) (by decide) fun v4 z4 s4 hle4 K4 hr4 => ?_
      have J4 := J3.up K4.grow
      have m4 := m3.up K4.grow
      refine J4.ld rfl (.inl (kind_of hS rfl)) ?_
      refine st_attr (ns := [Str.ofString "_mods"]) J4 c m4 (.inr (.inl rfl)) (fun y hy => by by_cases e : y = Str.ofString "_mods" <;> simp_all) (by decide) fun s5 J5 m5 k5 => ?_
      with_reducible refine wpAny_execs_cons (plainObj_wpAny_Assign_Attribute (Dict_lits_str (D := [(.str (Str.ofString "<string>"), .int 1)]) ?_ ?_ ?_ ?_ ?_ ?_ ?_ ?_) ?_)
      · rfl
      · rfl
      · decide
      · rfl
      · rfl
      · simp
      · show 1 ≤ 15; decide
      · intro d od h6 tk6 hd6 hod6 T6 k6
        obtain ⟨l0, vs0, rfl, hl0, ha0⟩ := hr4.listIn K4.inn
        have t6 : To No s5 { s5 with heap := h6, toks := tk6 } := To.heap k6 (Nat.le_trans hd6 (Nat.le_of_lt (Heap.lt_size hod6))) No
        have g6 : Grow No z4 s5 z4 { s5 with heap := h6, toks := tk6 } := Grow.same J5.inn t6
        have J6 := J5.up g6
        have m6 := m5.up g6
        refine J6.ld rfl (.inl (kind_of hS rfl)) ?_
        refine st_attr (ns := [Str.ofString "_mods", Str.ofString "_dirs"]) J6 c m6 (.inr (.inr rfl)) (fun y hy => by by_cases e : y = Str.ofString "_mods" <;> by_cases e' : y = Str.ofString "_dirs" <;> simp_all) (by decide) fun s7 J7 m7 k7 => ?_
        refine wpAny_execs_nil (h D l0 d oD cnt z4 s7 ?_ ?_ J7.inn ?_ (hle4 _ _ (Fz.put_at _ _ _)) hSO hr4 ?_ ?_ ?_ ?_ ?_)
        · exact (t1.mono fun a ha => .inl ha).trans ((k3.stp.mono fun a ha => .inr ha).trans (K4.grow.toTo.no.stp.trans ((k5.stp.mono fun a ha => .inr ha).trans (t6.no.stp.trans (k7.stp.mono fun a ha => .inr ha)))))
        · exact (Fz.put_le _ _ _).trans hle4
        · intro a o e
          rcases K4.grow.new a o e with e | e
          · rcases e with e | ⟨rfl, _⟩
            · exact .inl e
            · exact .inr (Nat.le_refl _)
          · exact .inr (Nat.le_trans (hD ▸ t1.size) (Nat.le_trans k3.size e))
        · exact { m7 with newX := Nat.zero_le _, newD := Nat.zero_le _ }
        · exact Nat.le_trans (hD ▸ t1.size) (Nat.le_trans k3.size (Nat.le_trans K4.grow.size (Nat.le_trans k5.size hd6)))
        · exact fun o e => Nat.lt_irrefl _ (Nat.lt_of_lt_of_le (Heap.lt_size (J5.inn _ _ e)) hd6)
        · obtain ⟨o5, ho5, hd5⟩ := m5.at_
          refine ⟨fun e => Nat.lt_irrefl _ (Nat.lt_of_lt_of_le (Heap.lt_size ho5) (e ▸ hd6)), fun e => ?_⟩
          obtain ⟨o', ho', _, _, hdd⟩ := m5.inst
          rw [ho5] at ho'; cases ho'
          rcases hdd with ⟨hn, _⟩ | ⟨d', h1, _, hns⟩
          · rw [hd5] at hn; cases hn
          · rw [hd5] at h1; cases h1
            exact Nat.lt_irrefl _ (Nat.lt_of_lt_of_le hns.ns.lt (e ▸ hd6))
        · have hne : ¬ (d = x ∨ d = dx) := by
            obtain ⟨o5, ho5, hd5⟩ := m5.at_
            rintro (e | e)
            · exact Nat.lt_irrefl _ (Nat.lt_of_lt_of_le (Heap.lt_size ho5) (e ▸ hd6))
            · obtain ⟨o', ho', _, _, hdd⟩ := m5.inst
              rw [ho5] at ho'; cases ho'
              rcases hdd with ⟨hn, _⟩ | ⟨d', h1, _, hns⟩
              · rw [hd5] at hn; cases hn
              · rw [hd5] at h1; cases h1
                exact Nat.lt_irrefl _ (Nat.lt_of_lt_of_le hns.ns.lt (e ▸ hd6))
          obtain ⟨kvs, hkv, hfl⟩ := T6
          cases hfl with
          | cons hv hr =>
            cases hr
            obtain ⟨t, rfl⟩ := hv.int_inv
            exact ⟨t, Heap.dictOf_iff.mpr ⟨od, k7.keep _ _ hne hod6, hkv⟩⟩
      · rfl
    · rfl
    · rfl
  · rfl
  · rfl
end NB90
end
section
set_option autoImplicit false
open PySem PySem.W PyProof.Rows
set_option Elab.async false
set_option maxRecDepth 100000
namespace NB90
variable {h₀ : Heap} {mg mb : Str → Option Value} {W : Addr → Prop} {z₀ z z' z₁ : Fz} {s₀ s s' s₁ : Shared} {env : Env} {ρ : List (Str × Value)} {prog : Program} {w : World} {A : Around} {E : Value → Shared → Prop}

/-- a method as it stands: its body, its frame, how its arguments are bound -/
structure MfOk (h₀ : Heap) (a : Addr) (B : List Stmt) (S : Scope) (fd : FuncData) : Prop where
  at_ : ∃ o, h₀.get? a = some o ∧ o.cls = .type "function" ∧ o.data = .func fd
  body : fd.body = .stmts B
  scope : fd.scope = S
  code : h₀.CodeRec fd.code fd.qualname
  clo : fd.closure = []
  gl : fd.globals = mainGlobals
  bi : fd.builtins = builtinsNs

theorem room_under {n : Nat} {C : Addr} {vals : List Value} (r : Room A (n + 1)) : Room (A.under (.builtin "type.__call__" ⟨.ref C :: vals, []⟩)) n :=
  ⟨r.hh, by have := r.depth; show A.depth + 1 + n < 1000; (first | with_reducible assumption | with_reducible exact Nat.add_le_add_left (by decide) _ | with_reducible exact Nat.le_trans (by assumption) (by decide) | with_reducible exact Nat.sub_succ_lt_self (by assumption) | with_reducible exact Nat.lt_of_lt_of_le (by assumption) (by assumption) | with_reducible exact Nat.le_trans (by assumption) (by assumption) | decide | omega), by have := r.units; show A.units + 1 + 10 * n + 100 < 9900; (first | with_reducible assumption | with_reducible exact Nat.add_le_add_left (by decide) _ | with_reducible exact Nat.le_trans (by assumption) (by decide) | with_reducible exact Nat.sub_succ_lt_self (by assumption) | with_reducible exact Nat.lt_of_lt_of_le (by assumption) (by assumption) | with_reducible exact Nat.le_trans (by assumption) (by assumption) | decide | omega)⟩

theorem inst_nc (C m : Addr) : ∀ d : ClassData, (PySem.W.instObj C m).data = .cls d → False := fun _ h => Data.noConfusion h
theorem reader_new {n : Nat} {C N fI fN gen : Addr} {G g : Nat} {mN : Str → Option Value} {fd : FuncData} {xs : List Str} {T : Addr → Prop} {St : Around → Nat → (Addr → Prop) → Fz → Shared → Prop} {Q : Value → Shared → Prop} (r : Room A (n + 5)) (Gd₀ : Gd h₀ mg mb)
    (c : ClOk prog w h₀ C N fI fN mN) (fi : MfOk h₀ fI pBodyInit.1 pScopeInit.1 fd) (hbnd : ∀ self v, PySem.W.Looks (model prog w) h₀ (bindArgs fd ⟨[self, v], []⟩) [(Str.ofString "self", self), (Str.ofString "modules", v), (Str.ofString "dirs", .none)]) (hz : z.In s.heap) (hb : Base h₀ z)
    (It : ∀ A', Room A' n → Iter prog w A' gen G xs.length (fun i z v => ∀ a, xs[i]? = some a → Rd z v (.str a)) (St A')) (hst : ∀ A', Room A' n → St A' 0 T z s) (hgen : s.heap.IsGen gen g) (hT : ∀ a, T a → a < s.heap.objs.size ∧ ∀ o, ¬ z a o) (hlen : xs.length + 1 < scanBound)
    (h : ∀ (x D l0 d : Addr) (oD : Obj) (cnt : Nat) (z' : Fz) (s' : Shared), Stp T G s s' → z.le z' → z'.In s'.heap → (∀ a o, z' a o → z a o ∨ s.heap.objs.size ≤ a) → z' D oD → SetObj prog w (fun k => decide (k ∈ xs)) cnt oD → Rd z' (.ref l0) (.list []) →
      InstZ z' x C (mAof D l0 d) → s.heap.objs.size ≤ d → (∀ o, ¬ z' d o) → (∃ t, s'.heap.DictOf (strKind prog w) d [(Str.ofString "<string>", .int 1 t)]) → Q (.ref x) s') :
    wpAny (model prog w) A (call (.ref C) [.ref gen]) Q E s := by
  refine make_obj c hz hb ?_
  obtain ⟨o, ho, hoc, hod⟩ := fi.at_
  have k1 : ∀ b p, s.heap.get? b = some p → ((s.heap.push PySem.W.emptyDict).push (PySem.W.instObj C s.heap.objs.size)).get? b = some p := fun b p e => Heap.get?_push_of_some _ (Heap.get?_push_of_some _ e)
  have hz1 : z.In ((s.heap.push PySem.W.emptyDict).push (PySem.W.instObj C s.heap.objs.size)) := fun b p e => k1 b p (hz b p e)
  refine meth_call (n := n + 3) (z := z) (room_under r) Gd₀.lim ho hod fi.body fi.code fi.clo fi.gl fi.bi hz1 hb ((hbnd _ _).keeps (hb.keep hz1)) ?_ ?_ ?_ ?_
  · intro x hx
    rw [fi.scope]
    simp only [List.mem_cons, List.not_mem_nil, or_false] at hx
    rcases hx with rfl | rfl | rfl <;> rfl
  · intro L; rw [fi.scope]; rfl
  · rw [fi.scope]; exact ⟨rfl, rfl, rfl⟩
  intro env s1 hS hL hc J r'
  rw [fi.scope] at hS
  generalize hsz : s.heap.objs.size = m0 at *
  have hsm : ((s.heap.push PySem.W.emptyDict).push (PySem.W.instObj C m0)).objs.size = m0 + 2 := by simp [hsz]
  have hLge : m0 + 2 ≤ env.locals := by rw [← hsm]; exact hL
  have ox : s1.heap.get? (m0 + 1) = some (PySem.W.instObj C m0) := J.grow.all _ _ (by
    have : (s.heap.push PySem.W.emptyDict).objs.size = m0 + 1 := by simp [hsz]
    rw [← this]; exact Heap.get?_push_size _ rfl)
  have od : s1.heap.get? m0 = some PySem.W.emptyDict := J.grow.all _ _ (Heap.get?_push_of_some _ (hsz ▸ Heap.get?_push_size _ rfl))
  have znew : ∀ a o, m0 ≤ a → ¬ z a o := fun a o hl e => Nat.lt_irrefl _ (Nat.lt_of_lt_of_le (Heap.lt_size (hz _ _ e)) (hsz ▸ hl))
  have mk : Mkg (noS s1) z env (m0 + 1) m0 C (fun _ => none) s1 :=
    ⟨Nat.zero_le _, Nat.zero_le _, fun o => znew _ o (Nat.le_succ _), fun o => znew _ o (Nat.le_refl _),
     ⟨fun e => by rcases e with e | e <;> rw [e] at hLge <;> (first | with_reducible assumption | with_reducible exact Nat.add_le_add_left (by decide) _ | with_reducible exact Nat.le_trans (by assumption) (by decide) | with_reducible exact Nat.sub_succ_lt_self (by assumption) | with_reducible exact Nat.lt_of_lt_of_le (by assumption) (by assumption) | with_reducible exact Nat.le_trans (by assumption) (by assumption) | decide | omega), fun y cc hcc => absurd hcc (hc y cc)⟩, ⟨_, ox, rfl⟩,
     ⟨_, ox, rfl, inst_nc _ _, .inr ⟨m0, rfl, Nat.ne_of_lt (Nat.lt_succ_self _), Heap.Ns1.of_empty ⟨_, #[], 0, od, rfl, fun _ he => by simp at he, fun _ => rfl⟩⟩⟩⟩
  have t1 : Stp No G s s1 := by
    have := J.grow.toTo
    exact ⟨fun b p _ e => this.keep b p (fun q => q) (k1 b p e), Nat.le_trans (by simp; (first | with_reducible assumption | with_reducible exact Nat.add_le_add_left (by decide) _ | with_reducible exact Nat.le_trans (by assumption) (by decide) | with_reducible exact Nat.sub_succ_lt_self (by assumption) | with_reducible exact Nat.lt_of_lt_of_le (by assumption) (by assumption) | with_reducible exact Nat.le_trans (by assumption) (by assumption) | decide | omega)) this.size, this.os, fun i x _ e => this.gens i x e, this.bare⟩
  have hTn : ∀ a, T a → a < m0 := fun a ha => (hT a ha).1
  have hzs : ∀ a, T a → a < s1.heap.objs.size ∧ ∀ o, ¬ z a o := fun a ha => ⟨Nat.lt_of_lt_of_le (hTn a ha) (hsz ▸ t1.size), (hT a ha).2⟩
  refine init_body (G := G) (xs := xs) (T := T) (gen := gen) (n := n) r' Gd₀ c hS hc J.free mk It (fun A' ra => (It A' ra).keep _ _ _ _ _ _ (hst A' ra) (Fz.le.refl z) (fun a p _ e => t1.keep a p (fun q => q) e) ?_) (g := g) ?_ hzs hlen
    ⟨fun q => Nat.lt_irrefl _ (Nat.lt_trans (hTn _ q) (Nat.lt_succ_self m0)), fun q => Nat.lt_irrefl _ (hTn _ q), fun q => Nat.lt_irrefl _ (Nat.lt_of_lt_of_le (Nat.lt_trans (hTn _ q) (Nat.lt_succ_of_lt (Nat.lt_succ_self m0))) hLge)⟩ ?_
  · exact fun i x e => J.grow.gens i x e
  · obtain ⟨og, nm, qn, hog, rest⟩ := hgen
    exact ⟨og, nm, qn, t1.keep _ _ (fun q => q) hog, rest⟩
  intro D l0 d oD cnt z2 s2 t2 hle2 hz2 hnew2 hzD hSO hrl m2 hd2 hdz2 hne2 hdict
  refine ⟨rfl, ?_⟩
  obtain ⟨ox2, hox2, hdx2⟩ := m2.at_
  obtain ⟨od2, hod2⟩ : ∃ od2, s2.heap.get? m0 = some od2 := by
    obtain ⟨o', ho', _, _, hdd⟩ := m2.inst
    rw [hox2] at ho'; cases ho'
    rcases hdd with ⟨hn, _⟩ | ⟨d', h1, _, hns⟩
    · rw [hdx2] at hn; cases hn
    · rw [hdx2] at h1; cases h1
      obtain ⟨o2, _, _, ho2, _⟩ := hns.ns
      exact ⟨o2, ho2⟩
  have tS : Stp T G s s2 := (t1.mono (U := T) fun a ha => ha.elim).then t2 fun a ha => by
    rcases ha with ha | ha | ha
    · exact .inl ha
    · exact .inr (by rw [ha, hsz]; exact Nat.le_succ _)
    · exact .inr (by rw [ha, hsz]; exact Nat.le_refl _)
  refine h (m0 + 1) D l0 d oD cnt ((z2.put (m0 + 1) ox2).put m0 od2) s2 tS (hle2.trans ((Fz.put_le _ _ _).trans (Fz.put_le _ _ _))) (put_in (put_in hz2 hox2) hod2) (fun a o e => ?_) (.inl (.inl hzD)) hSO (hrl.mono ((Fz.put_le _ _ _).trans (Fz.put_le _ _ _))) (fun hp hi => ?_) ?_ (fun o e => ?_) hdict
  · rcases e with (e | ⟨rfl, _⟩) | ⟨rfl, _⟩
    · exact (hnew2 a o e).imp id fun q => Nat.le_trans (hsz ▸ t1.size) q
    · exact .inr (Nat.le_succ _)
    · exact .inr (Nat.le_refl _)
  · refine inst_at m2.inst hox2 hdx2 fun b p hb e => ?_
    rcases hb with rfl | rfl
    · rw [hox2] at e; cases e; exact hi _ _ (.inl (.inr ⟨rfl, rfl⟩))
    · rw [hod2] at e; cases e; exact hi _ _ (.inr ⟨rfl, rfl⟩)
  · exact Nat.le_trans (hsz ▸ t1.size) hd2
  · rcases e with (e | ⟨q, _⟩) | ⟨q, _⟩
    · exact hdz2 o e
    · exact hne2.1 q
    · exact hne2.2 q
end NB90
end
section
set_option autoImplicit false
open PySem PySem.W PyProof.Rows
set_option Elab.async false
set_option maxRecDepth 100000
namespace NB90
variable {h₀ : Heap} {mg mb : Str → Option Value} {W : Addr → Prop} {z₀ z z' z₁ : Fz} {s₀ s s' s₁ : Shared} {env : Env} {ρ : List (Str × Value)} {prog : Program} {w : World} {A : Around} {E : Value → Shared → Prop}

/-- what a reader of the names xs tells of m -/
noncomputable def tellB (xs : List Str) (m : Str) : Bool := decide (m ∈ xs) || xs.any fun x => Txt.startswith m (x ++ dot)
noncomputable def tellI (xs : List Str) (m : Str) : Int := if tellB xs m then 1 else 0
noncomputable def ltS : Str := Str.ofString "<string>"

/-- the reader's cache: what it holds is right -/
noncomputable def Cache (prog : Program) (w : World) (ks xs : List Str) (d : Addr) (h : Heap) : Prop :=
  ∃ kvs, h.DictOf (strKind prog w) d kvs ∧ (∀ p ∈ kvs, p.1 ∈ ks) ∧ (∀ p ∈ kvs, p.1 ≠ ltS → ∃ t, p.2 = .int (tellI xs p.1) t)
theorem Cache.at_ {ks xs : List Str} {d : Addr} {h h' : Heap} (x : Cache prog w ks xs d h) (hk : ∀ o, h.get? d = some o → h'.get? d = some o) : Cache prog w ks xs d h' :=
  let ⟨kvs, hd, r⟩ := x; ⟨kvs, hd.at hk, r⟩
theorem Cache.lt {ks xs : List Str} {d : Addr} {h : Heap} (x : Cache prog w ks xs d h) : d < h.objs.size := let ⟨_, ⟨_, _, _, ho, _⟩, _⟩ := x; Heap.lt_size ho
theorem Cache.len {ks : List Str} {d : Addr} {h : Heap} {kvs : List (Str × Value)} (hd : h.DictOf (strKind prog w) d kvs) (hk : ∀ p ∈ kvs, p.1 ∈ ks) : kvs.length ≤ ks.length := by
  obtain ⟨_, _, _, _, _, _, _, _, hn⟩ := hd
  have := length_le_of_nodup_of_subset (kvs.map (·.1)) ks hn fun a ha => by
    obtain ⟨p, hp, rfl⟩ := List.mem_map.mp ha
    exact hk p hp
  simpa using this
theorem stored_mem {kvs : List (Str × Value)} {k : Str} {v : Value} {p : Str × Value} (h : p ∈ stored kvs k v) : p = (k, v) ∨ p ∈ kvs := by
  unfold stored at h
  split at h
  · obtain ⟨q, hq, e⟩ := List.mem_map.mp h
    split at e
    · rename_i hk; subst e; exact .inl (by rw [← hk])
    · subst e; exact .inr hq
  · rcases List.mem_append.mp h with h | h
    · exact .inr h
    · exact .inl (List.mem_singleton.mp h)
theorem Cache.put {ks xs : List Str} {d : Addr} {h' : Heap} {kvs : List (Str × Value)} {m : Str} {t : Tok} (hk : ∀ p ∈ kvs, p.1 ∈ ks) (hv : ∀ p ∈ kvs, p.1 ≠ ltS → ∃ t, p.2 = .int (tellI xs p.1) t) (hm : m ∈ ks)
    (hd : h'.DictOf (strKind prog w) d (stored kvs m (.int (tellI xs m) t))) : Cache prog w ks xs d h' :=
  ⟨_, hd, fun p hp => (stored_mem hp).elim (fun e => by rw [e]; exact hm) (hk p), fun p hp hne => (stored_mem hp).elim (fun e => ⟨t, by rw [e]⟩) fun q => hv p q hne⟩

/-- a reader of the names xs: an object that stays, over a set that stays; its cache is at d -/
noncomputable def Rdr (prog : Program) (w : World) (C : Addr) (xs : List Str) (x d : Addr) (z : Fz) : Prop :=
  ∃ D l0 oD cnt, InstZ z x C (mAof D l0 d) ∧ z D oD ∧ SetObj prog w (fun k => decide (k ∈ xs)) cnt oD ∧ Rd z (.ref l0) (.list [])
theorem Rdr.mono {C x d : Addr} {xs : List Str} (r : Rdr prog w C xs x d z) (hz : z.le z') : Rdr prog w C xs x d z' :=
  let ⟨D, l0, oD, cnt, h1, h2, h3, h4⟩ := r; ⟨D, l0, oD, cnt, h1.mono hz, hz _ _ h2, h3, h4.mono hz⟩

theorem handed_ref {a : Addr} : handedOut (.ref a) = pure (.ref a) := rfl

/-- a frame of «names» -/
structure Nf (prog : Program) (w : World) (h₀ : Heap) (C N fI fN x d D l0 : Addr) (mN : Str → Option Value) (z₀ : Fz) (s₀ : Shared) (env : Env) (m : Str) (tm : Tok) (ρ : List (Str × Value)) (z : Fz) (s : Shared) : Prop where
  J : Inn h₀ (· = d) z₀ s₀ env ρ z s
  c : ClOk prog w h₀ C N fI fN mN
  inst : InstZ z x C (mAof D l0 d)
  hS : env.scope = pScopeNames.1
  self : ρ.lookup (Str.ofString "self") = some (.ref x)
  mod : ρ.lookup (Str.ofString "modulename") = some (.str m tm)
  dz : ∀ o, ¬ z d o
  dm : (d == sysModules) = false
  dl : d < s.heap.objs.size

theorem Inn.hereN (I : Inn h₀ W z₀ s₀ env ρ z s) : Inn h₀ No z s env ρ z s := ⟨Grow.refl I.inn, I.frame, I.base, Apart.no _⟩

theorem Grow.set {d : Addr} {h' : Heap} {k : Nat} (hz : z.In s.heap) (hdz : ∀ o, ¬ z d o) (hs : Heap.SameBut d s.heap h') : Grow (· = d) z s z { s with heap := h', toks := k } :=
  ⟨To.sameBut hs, Fz.le.refl z, fun b o e => (hs.2 b (fun q => hdz o (q ▸ e))).trans (hz b o e), fun _ _ e => .inl e⟩

variable {C N fI fN x d D l0 : Addr} {mN : Str → Option Value} {m : Str} {tm : Tok}

theorem Nf.ign {p pos : Pos} {Q : Value → Shared → Prop} (F : Nf prog w h₀ C N fI fN x d D l0 mN z₀ s₀ env m tm ρ z s)
    (h : ∀ s', Nf prog w h₀ C N fI fN x d D l0 mN z₀ s₀ env m tm ρ z s' → s'.heap = s.heap → Q (.ref d) s') :
    wpAny (model prog w) A (eval (.Attribute (.Name (Str.ofString "self") p) (Str.ofString "_ignore") pos) env) Q E s :=
  ev_attr F.J F.c F.self (kind_of F.hS rfl) ⟨by decide, by decide⟩ (F.inst _ F.J.inn) (by rfl) handed_ref (.inr (.inr rfl)) fun s' J' hh => h s' { F with J := J', dl := by rw [hh]; exact F.dl } hh

theorem Nf.mods {p pos : Pos} {Q : Value → Shared → Prop} (F : Nf prog w h₀ C N fI fN x d D l0 mN z₀ s₀ env m tm ρ z s)
    (h : ∀ s', Nf prog w h₀ C N fI fN x d D l0 mN z₀ s₀ env m tm ρ z s' → s'.heap = s.heap → Q (.ref D) s') :
    wpAny (model prog w) A (eval (.Attribute (.Name (Str.ofString "self") p) (Str.ofString "_mods") pos) env) Q E s :=
  ev_attr F.J F.c F.self (kind_of F.hS rfl) ⟨by decide, by decide⟩ (F.inst _ F.J.inn) (by rfl) handed_ref (.inl rfl) fun s' J' hh => h s' { F with J := J', dl := by rw [hh]; exact F.dl } hh

theorem Nf.dirs {p pos : Pos} {Q : Value → Shared → Prop} (F : Nf prog w h₀ C N fI fN x d D l0 mN z₀ s₀ env m tm ρ z s)
    (h : ∀ s', Nf prog w h₀ C N fI fN x d D l0 mN z₀ s₀ env m tm ρ z s' → s'.heap = s.heap → Q (.ref l0) s') :
    wpAny (model prog w) A (eval (.Attribute (.Name (Str.ofString "self") p) (Str.ofString "_dirs") pos) env) Q E s :=
  ev_attr F.J F.c F.self (kind_of F.hS rfl) ⟨by decide, by decide⟩ (F.inst _ F.J.inn) (by rfl) handed_ref (.inr (.inl rfl)) fun s' J' hh => h s' { F with J := J', dl := by rw [hh]; exact F.dl } hh

theorem Nf.up (F : Nf prog w h₀ C N fI fN x d D l0 mN z₀ s₀ env m tm ρ z s) (g : Grow No z s z' s') : Nf prog w h₀ C N fI fN x d D l0 mN z₀ s₀ env m tm ρ z' s' :=
  { F with J := F.J.up g.no, inst := F.inst.mono g.le, dz := fun o e => (g.new d o e).elim (F.dz o) fun hl => Nat.lt_irrefl _ (Nat.lt_of_lt_of_le F.dl hl), dl := Nat.lt_of_lt_of_le F.dl g.size }

/-- «self._ignore[modulename] = v», then «return v» -/
theorem Nf.store {ks xs : List Str} {v : Int} {p1 p2 p3 p4 p5 p6 p7 p8 : Pos} {Q : Flow → Shared → Prop} (F : Nf prog w h₀ C N fI fN x d D l0 mN z₀ s₀ env m tm ρ z s) (hc : Cache prog w ks xs d s.heap) (hv : v = tellI xs m) (hm : m ∈ ks) (hks : ks.length ≤ 10000)
    (h : ∀ t s', Grow (· = d) z₀ s₀ z s' → Cache prog w ks xs d s'.heap → Q (.ret (.int v t)) s') :
    wpAny (model prog w) A (execs [.Assign [.Subscript (.Attribute (.Name (Str.ofString "self") p1) (Str.ofString "_ignore") p2) (.Name (Str.ofString "modulename") p3) p4] (.Constant (.int v) 0 p5) p6, .Return (some (.Constant (.int v) 0 p7)) p8] env) Q E s := by
  refine wpAny_execs_cons (wpAny_Assign_Subscript (F.J.hereN.int fun t1 s1 J1 => ?_))
  have F1 := F.up J1.grow
  have hc1 := hc.at_ fun o e => J1.grow.all d o e
  refine F1.ign fun s2 F2 hh2 => ?_
  rw [← hh2] at hc1
  refine F2.J.ld F2.mod (.inl (kind_of F.hS rfl)) ?_
  obtain ⟨kvs, hd, hk, hvs⟩ := hc1
  refine wpAny_setItem_pairs (strKind_is prog w m tm) hd (fun h' hd' hs' => ?_) (le_line (Nat.le_trans (Cache.len hd hk) hks))
  subst hv
  have g := Grow.set (k := s2.toks + 1) F2.J.inn F2.dz hs'
  have J3 := F2.J.up g
  have hc3 := Cache.put hk hvs hm hd'
  refine wpAny_execs_cons (wpAny_Return_some (J3.hereN.int fun t4 s4 J4 => ?_))
  exact h t4 s4 (J3.grow.trans J4.grow.no) (hc3.at_ fun o e => J4.grow.all d o e)
end NB90
end
section
set_option autoImplicit false
open PySem PySem.W PyProof.Rows
set_option Elab.async false
set_option maxRecDepth 100000
namespace NB90
variable {h₀ : Heap} {mg mb : Str → Option Value} {W : Addr → Prop} {z₀ z z' z₁ : Fz} {s₀ s s' s₁ : Shared} {env : Env} {ρ : List (Str × Value)} {prog : Program} {w : World} {A : Around} {E : Value → Shared → Prop}
variable {C N fI fN x d D l0 : Addr} {mN : Str → Option Value} {m : Str} {tm : Tok}

theorem Nf.step {T : Addr → Prop} {G : Nat} (F : Nf prog w h₀ C N fI fN x d D l0 mN z₀ s₀ env m tm ρ z s) (hT : ∀ a, T a → s₀.heap.objs.size ≤ a) (hG : s₀.gens.size ≤ G) (hz : ∀ a o, T a → ¬ z a o) (hA : Apart T env) (t : Stp T G s s') :
    Nf prog w h₀ C N fI fN x d D l0 mN z₀ s₀ env m tm ρ z s' := { F with J := F.J.step hT hG hz hA t, dl := Nat.lt_of_lt_of_le F.dl t.size }

noncomputable def rhoN (m : Str) (tm : Tok) (f : Str) (tf : Tok) (x : Addr) : List (Str × Value) := [(Str.ofString "modulename", .str m tm), (Str.ofString "filename", .str f tf), (Str.ofString "self", .ref x)]

theorem valueAt_mem {kvs : List (Str × Value)} {k : Str} {v : Value} (h : valueAt kvs k = some v) : (k, v) ∈ kvs := by
  unfold valueAt at h
  obtain ⟨p, hp, rfl⟩ := Option.map_eq_some_iff.mp h
  have h1 := List.find?_some hp
  have h2 := List.mem_of_find?_eq_some hp
  simp only [decide_eq_true_eq] at h1
  rw [← h1]; exact h2

theorem names_body {n cnt : Nat} {ks xs : List Str} {oD : Obj} {f : Str} {tf : Tok} {Q : Flow → Shared → Prop} (r : Room A n) (F : Nf prog w h₀ C N fI fN x d D l0 mN z s env m tm (rhoN m tm f tf x) z s₁) (hL : s.heap.objs.size ≤ env.locals) (hcl : ∀ y c, env.cells.lookup y ≠ some c)
    (hzD : z D oD) (hSO : SetObj prog w (fun k => decide (k ∈ xs)) cnt oD) (hrl : Rd z (.ref l0) (.list [])) (hc : Cache prog w ks xs d s₁.heap) (hdl : d < s.heap.objs.size) (hm : m ∈ ks) (hks : ks.length ≤ 10000) (hne : m ≠ ltS) (hsm : m.length ≤ 1000) (hxs : ∀ x ∈ xs, x.length ≤ 1000)
    (h : ∀ t s', Grow (· = d) z s z s' → Cache prog w ks xs d s'.heap → Q (.ret (.int (tellI xs m) t)) s') :
    wpAny (model prog w) A (execs pBodyNames.1 env) Q (fun _ _ => False) s₁ := by
  simp only [pBodyNames, dot_eq]
  with_reducible refine wpAny_execs_cons (wpAny_If (test_cmp ?_ ?_))
  · rfl
  refine F.J.ld F.mod (.inl (kind_of F.hS rfl)) ?_
  refine F.ign fun s2 F2 hh2 => ?_
  rw [← hh2] at hc
  obtain ⟨kvs, hd, hk, hvs⟩ := id hc
  refine wpAny_in_of (strKind_is prog w m tm) F.dm hd.mapOf (wpAny_truthy_bool ?_)
  have F3 := F2.up (Grow.same F2.J.inn (To.tok No s2 (s2.toks + 1)))
  cases hva : valueAt kvs m with
  | some v =>
    rw [Option.isSome_some, if_pos rfl]
    obtain ⟨tv, hv⟩ := hvs _ (valueAt_mem hva) hne
    have hv : v = .int (tellI xs m) tv := hv
    subst hv
    with_reducible refine wpAny_execs_cons (wpAny_Return_some (Subscript_ ?_))
    refine F3.ign fun s4 F4 hh4 => ?_
    refine F4.J.ld F4.mod (.inl (kind_of F.hS rfl)) ?_
    have hd4 : s4.heap.DictOf (strKind prog w) d kvs := by rw [hh4]; exact hd
    refine tail_any hd4.typeIs slot_dict_getitem.lookup (wpAny_getItem_of (strKind_is prog w m tm) hd4.mapOf hva ?_) rfl
    have F5 := F4.up (Grow.same F4.J.inn (To.tok No s4 (s4.toks + 1)))
    exact h _ _ F5.J.grow (by show Cache _ _ _ _ _ s4.heap; rw [hh4]; exact hc)
  | none =>
    rw [Option.isSome_none, if_neg Bool.false_ne_true]
    refine wpAny_execs_nil ?_
    have hc3 : Cache prog w ks xs d ({ s2 with toks := s2.toks + 1 } : Shared).heap := hc
    generalize ({ s2 with toks := s2.toks + 1 } : Shared) = s3 at F3 hc3
    with_reducible refine wpAny_execs_cons (wpAny_If (test_cmp ?_ ?_))
    · rfl
    refine F3.J.ld F3.mod (.inl (kind_of F.hS rfl)) ?_
    refine F3.mods fun s4 F4 hh4 => ?_
    rw [← hh4] at hc3
    refine wpAny_inSet_of (strKind_is prog w m tm) rfl (SetT.setOf ⟨oD, F4.J.inn _ _ hzD, hSO⟩) (wpAny_truthy_bool ?_)
    have F5 := F4.up (Grow.same F4.J.inn (To.tok No s4 (s4.toks + 1)))
    have hc5 : Cache prog w ks xs d ({ s4 with toks := s4.toks + 1 } : Shared).heap := hc3
    generalize ({ s4 with toks := s4.toks + 1 } : Shared) = s5 at F5 hc5
    by_cases hmx : m ∈ xs
    · have ht : tellI xs m = 1 := by unfold tellI tellB; rw [decide_eq_true hmx]; rfl
      rw [decide_eq_true hmx, if_pos rfl]
      refine F5.store hc5 ht.symm hm hks fun t s' g hc' => ?_
      rw [ht] at h
      exact h t s' g hc'
    · rw [decide_eq_false hmx, if_neg Bool.false_ne_true]
      refine wpAny_execs_nil ?_
      with_reducible refine wpAny_execs_cons (wpAny_For ?_ ?hs)
      case hs => intro _; rfl
      refine F5.mods fun s6 F6 hh6 => ?_
      rw [← hh6] at hc5
      refine iter_set F6.J.inn hzD hSO fun I tp s7 ys St hmem hlen t7 hI hTp hIt hst => ?_
      have F7 := F6.up (Grow.same F6.J.inn t7)
      have hc7 := hc5.at_ fun o e => t7.all d o e
      have It := hIt A s.gens.size r.hh
      have hLl : env.locals < s6.heap.objs.size := by obtain ⟨mm, hn, _⟩ := F6.J.frame.ns; exact hn.lt
      refine for_loop It (fun i T z' s' => z = z' ∧ Nf prog w h₀ C N fI fN x d D l0 mN z s env m tm (rhoN m tm f tf x) z s' ∧ Cache prog w ks xs d s'.heap ∧ (∀ a, T a → s.heap.objs.size ≤ a ∧ a < s'.heap.objs.size ∧ ∀ o, ¬ z a o) ∧ Apart T env ∧
        ∀ y ∈ ys.take i, Txt.startswith m (y ++ dot) = false) ?step ?stop _ z s7 F7.J.inn hst
        ⟨rfl, F7, hc7, ?_, ?_, by simp⟩
      case step =>
        rintro i T z' s8 E8 hi hst8 ⟨rfl, F8, hc8, hT8, hA8, hno⟩ v s9 T' hP hst9 t9 hT'
        obtain ⟨ty, rfl⟩ := (hP ys[i] (List.getElem?_eq_getElem hi)).isStr
        generalize hy : ys[i] = y at *
        have hyx : y ∈ xs := by have := (hmem y).mp (hy ▸ List.getElem_mem hi); simpa using this
        have hTd : ¬ T d := fun q => Nat.lt_irrefl _ (Nat.lt_of_lt_of_le hdl (hT8 d q).1)
        have F9 := F8.step (fun a ha => (hT8 a ha).1) (Nat.le_refl _) (fun a o ha => (hT8 a ha).2.2 o) hA8 t9
        have hc9 := hc8.at_ fun o e => t9.keep d o hTd e
        have hLl8 : env.locals < s8.heap.objs.size := by obtain ⟨mm, hn, _⟩ := F8.J.frame.ns; exact hn.lt
        have hT9 : ∀ a, T' a → s.heap.objs.size ≤ a ∧ a < s9.heap.objs.size ∧ ∀ o, ¬ z a o := fun a ha => by
          obtain ⟨h1 | h1, h2⟩ := hT' a ha
          · exact ⟨(hT8 a h1).1, h2, (hT8 a h1).2.2⟩
          · exact ⟨Nat.le_trans F8.J.grow.size h1, h2, fun o e => Nat.lt_irrefl _ (Nat.lt_of_lt_of_le (Heap.lt_size (F8.J.inn _ _ e)) h1)⟩
        have hTL : ¬ T' env.locals := fun q => (hT' _ q).1.elim hA8.1 fun hl => Nat.lt_irrefl _ (Nat.lt_of_lt_of_le hLl8 hl)
        have hA9 : Apart T' env := ⟨hTL, fun y' c hc' => absurd hc' (hcl y' c)⟩
        refine F9.J.st hL (kind_of F.hS rfl) fun s10 J10 t10 => ?_
        have hdL : d ≠ env.locals := fun e => Nat.lt_irrefl _ (Nat.lt_of_lt_of_le hdl (e ▸ hL))
        have hc10 := hc9.at_ fun o e => t10.keep d o hdL e
        have F10 : Nf prog w h₀ C N fI fN x d D l0 mN z s env m tm ((Str.ofString "mod", .str y ty) :: rhoN m tm f tf x) z s10 := { F9 with J := J10, self := rfl, mod := rfl, dl := hc10.lt }
        have hst10 := It.keep _ _ _ _ _ _ hst9 (Fz.le.refl z) (fun a o ha e => t10.keep a o (fun q => hTL (q ▸ ha)) e) t10.gens
        with_reducible refine wpAny_execs_cons (wpAny_If (isTrue_plain (meth1 ?_ ?_) ?_))
        · rfl
        · have K10 := J10.hereN
          refine K10.ld rfl (.inl (kind_of F.hS rfl)) (SB.startswith ?_)
          with_reducible refine wpAny_BinOp ?_
          refine K10.ld rfl (.inl (kind_of F.hS rfl)) (K10.str fun t11 s11 K11 => ?_)
          refine K11.addStr (by have := hxs y hyx; have : dot.length = 1 := rfl; exact le_line (by (first | with_reducible assumption | with_reducible exact Nat.add_le_add_left (by decide) _ | with_reducible exact Nat.le_trans (by assumption) (by decide) | with_reducible exact Nat.sub_succ_lt_self (by assumption) | with_reducible exact Nat.lt_of_lt_of_le (by assumption) (by assumption) | with_reducible exact Nat.le_trans (by assumption) (by assumption) | decide | omega))) fun t12 s12 K12 => ?_
          refine ⟨_, _, rfl, wpAny_truthy_bool ?_⟩
          have F12 := F10.up K12.grow
          have hc12 := hc10.at_ fun o e => K12.grow.all d o e
          cases hsw : Txt.startswith m (y ++ dot) with
          | true =>
            rw [if_pos rfl]
            have ht : tellI xs m = 1 := by
              unfold tellI tellB
              rw [if_pos]
              rw [Bool.or_eq_true]
              exact .inr (List.any_eq_true.mpr ⟨y, hyx, hsw⟩)
            refine F12.store hc12 ht.symm hm hks fun t s' g hc' => ?_
            rw [ht] at h
            exact h t s' g hc'
          | false =>
            rw [if_neg Bool.false_ne_true]
            refine wpAny_execs_nil (wpAny_execs_nil ⟨T', z, F12.J.inn, It.keep _ _ _ _ _ _ hst10 (Fz.le.refl z) (fun a o _ e => K12.grow.all a o e) K12.grow.gens, rfl,
              { F12 with J := F12.J.weak (weak_cons rfl), self := rfl, mod := rfl }, hc12, fun a ha => ⟨(hT9 a ha).1, Nat.lt_of_lt_of_le (hT9 a ha).2.1 (Nat.le_trans t10.size K12.grow.size), (hT9 a ha).2.2⟩, hA9, ?_⟩)
            intro y' hy'
            rw [List.take_add_one, List.getElem?_eq_getElem hi, Option.toList_some, List.mem_append, hy] at hy'
            rcases hy' with hy' | hy'
            · exact hno y' hy'
            · rw [List.mem_singleton.mp hy']; exact hsw
        · rfl
      case stop =>
        rintro T z' s8 s9 hst8 ⟨rfl, F8, hc8, hT8, hA8, hno⟩ t9
        have hTd : ¬ T d := fun q => Nat.lt_irrefl _ (Nat.lt_of_lt_of_le hdl (hT8 d q).1)
        have F9 := F8.step (fun a ha => (hT8 a ha).1) (Nat.le_refl _) (fun a o ha => (hT8 a ha).2.2 o) hA8 t9
        have hc9 := hc8.at_ fun o e => t9.keep d o hTd e
        rw [List.take_length] at hno
        have ht : tellI xs m = 0 := by
          unfold tellI tellB
          rw [if_neg]
          rw [Bool.or_eq_true, decide_eq_true_eq]
          rintro (q | q)
          · exact hmx q
          · obtain ⟨y, hy, hq⟩ := List.any_eq_true.mp q
            have := hno y ((hmem y).mpr (by simpa using hy))
            rw [hq] at this; cases this
        rw [ht] at h
        with_reducible refine wpAny_execs_cons (wpAny_If (test_cmp ?_ ?_))
        · rfl
        refine F9.J.ld rfl (.inl (kind_of F.hS rfl)) (cnone (is_str_none (wpAny_truthy_bool ?_)))
        rw [if_neg Bool.false_ne_true]
        refine wpAny_execs_nil ?_
        with_reducible refine wpAny_execs_cons (wpAny_For ?_ ?hs2)
        case hs2 => intro _; rfl
        refine F9.dirs fun s10 F10 hh10 => ?_
        rw [← hh10] at hc9
        obtain ⟨l0', vs, e, hl, ha⟩ := hrl.listIn F10.J.inn
        cases e
        refine wpAny_pyIter_list hl ?_
        have F11 := F10.up (Grow.same F10.J.inn (To.push No s10 { cls := .type "list_iterator", data := .fields #[.ref l0, .int 0 0] }))
        have hc11 := hc9.at_ fun o e => Heap.get?_push_of_some (h := s10.heap) { cls := .type "list_iterator", data := .fields #[.ref l0, .int 0 0] } e
        have hLl10 : env.locals < s10.heap.objs.size := by obtain ⟨mm, hn, _⟩ := F10.J.frame.ns; exact hn.lt
        have It2 := Iter.list (prog := prog) (w := w) (A := A) (xs := ([] : List Str)) (enc := PyData.str) (I := s10.heap.objs.size) (l := l0) r.hh s.gens.size
        refine for_loop It2 (fun i T z' s' => z = z' ∧ i = 0 ∧ Nf prog w h₀ C N fI fN x d D l0 mN z s env m tm (rhoN m tm f tf x) z s' ∧ Cache prog w ks xs d s'.heap) ?step2 ?stop2 (· = s10.heap.objs.size) z _ F11.J.inn ⟨rfl, hrl, _, Heap.get?_push_size _ rfl, rfl, rfl⟩ ⟨rfl, rfl, F11, hc11⟩
        case step2 => intro i T z' s8 E8 hi; exact absurd hi (Nat.not_lt_zero _)
        case stop2 =>
          rintro T z' s12 s13 ⟨hT, _⟩ ⟨rfl, _, F12, hc12⟩ t13
          subst hT
          have hge : s.heap.objs.size ≤ s10.heap.objs.size := F10.J.grow.size
          have F13 := F12.step (T := (· = s10.heap.objs.size)) (fun a ha => ha ▸ hge) (Nat.le_refl _) (fun a o ha e => Nat.lt_irrefl _ (ha ▸ Heap.lt_size (F10.J.inn _ _ e))) ⟨fun e => Nat.lt_irrefl _ (e ▸ hLl10), fun y c hc' => absurd hc' (hcl y c)⟩ t13
          have hc13 := hc12.at_ fun o e => t13.keep d o (fun q => Nat.lt_irrefl _ (Nat.lt_of_lt_of_le hdl (q ▸ hge))) e
          exact F13.store hc13 ht.symm hm hks fun t s' g hc' => h t s' g hc'
      · intro a ha
        rcases ha with rfl | rfl
        · exact ⟨Nat.le_trans F6.J.grow.size hI.1, hI.2, fun o e => Nat.lt_irrefl _ (Nat.lt_of_lt_of_le (Heap.lt_size (F6.J.inn _ _ e)) hI.1)⟩
        · exact ⟨Nat.le_trans F6.J.grow.size hTp.1, hTp.2, fun o e => Nat.lt_irrefl _ (Nat.lt_of_lt_of_le (Heap.lt_size (F6.J.inn _ _ e)) hTp.1)⟩
      · refine ⟨fun q => ?_, fun y c hc' => absurd hc' (hcl y c)⟩
        rcases q with q | q
        · exact Nat.lt_irrefl _ (Nat.lt_of_lt_of_le hLl (q ▸ hI.1))
        · exact Nat.lt_irrefl _ (Nat.lt_of_lt_of_le hLl (q ▸ hTp.1))
end NB90
end
section
set_option autoImplicit false
open PySem PySem.W PyProof.Rows
set_option Elab.async false
set_option maxRecDepth 100000
namespace NB90
variable {h₀ : Heap} {mg mb : Str → Option Value} {W : Addr → Prop} {z₀ z z' z₁ : Fz} {s₀ s s' s₁ : Shared} {env : Env} {ρ : List (Str × Value)} {prog : Program} {w : World} {A : Around} {E : Value → Shared → Prop}
variable {C N fI fN x d : Addr} {mN : Str → Option Value} {m : Str} {tm : Tok}

theorem no_names : typeLookup (.type "object") (Str.ofString "names") = pure none := by rw [typeLookup_type, builtinLookup_eq_fast]; kernel_rfl

/-- all that is used of the class and its methods -/
structure Cls (prog : Program) (w : World) (h₀ : Heap) (C N fI fN : Addr) (mN : Str → Option Value) (fdI fdN : FuncData) : Prop where
  c : ClOk prog w h₀ C N fI fN mN
  fi : MfOk h₀ fI pBodyInit.1 pScopeInit.1 fdI
  bi : ∀ self v, PySem.W.Looks (model prog w) h₀ (bindArgs fdI ⟨[self, v], []⟩) [(Str.ofString "self", self), (Str.ofString "modules", v), (Str.ofString "dirs", .none)]
  fn : MfOk h₀ fN pBodyNames.1 pScopeNames.1 fdN
  bn : ∀ self v u, PySem.W.Looks (model prog w) h₀ (bindArgs fdN ⟨[self, v, u], []⟩) [(Str.ofString "self", self), (Str.ofString "filename", v), (Str.ofString "modulename", u)]
variable {fdI fdN : FuncData}

theorem names_spec {n : Nat} {ks xs : List Str} {f : Str} {tf : Tok} {Q : Value → Shared → Prop} (r : Room A (n + 1)) (Gd₀ : Gd h₀ mg mb) (K : Cls prog w h₀ C N fI fN mN fdI fdN) (hz : z.In s.heap) (hb : Base h₀ z) (hR : Rdr prog w C xs x d z) (hdz : ∀ o, ¬ z d o) (hdm : (d == sysModules) = false)
    (hc : Cache prog w ks xs d s.heap) (hm : m ∈ ks) (hks : ks.length ≤ 10000) (hne : m ≠ ltS) (hsm : m.length ≤ 1000) (hxs : ∀ x ∈ xs, x.length ≤ 1000)
    (h : ∀ t s', Grow (· = d) z s z s' → Cache prog w ks xs d s'.heap → Q (.int (tellI xs m) t) s') :
    wpAny (model prog w) A (call (.ref fN) [.ref x, .str f tf, .str m tm]) Q E s := by
  obtain ⟨D, l0, oD, cnt, hI, hzD, hSO, hrl⟩ := hR
  obtain ⟨o, ho, hoc, hod⟩ := K.fn.at_
  refine wpAny_call (meth_call (z := z) (n := n) r Gd₀.lim ho hod K.fn.body K.fn.code K.fn.clo K.fn.gl K.fn.bi hz hb ((K.bn _ _ _).keeps (hb.keep hz)) ?_ ?_ ?_ ?_)
  · intro x hx
    rw [K.fn.scope]
    simp only [List.mem_cons, List.not_mem_nil, or_false] at hx
    rcases hx with rfl | rfl | rfl <;> rfl
  · intro L; rw [K.fn.scope]; rfl
  · rw [K.fn.scope]; exact ⟨rfl, rfl, rfl⟩
  intro env s1 hS hL hcl J r'
  rw [K.fn.scope] at hS
  have hdl := hc.lt
  have F : Nf prog w h₀ C N fI fN x d D l0 mN z s env m tm (rhoN m tm f tf x) z s1 :=
    { J := ⟨J.grow.no, J.frame, J.base, ⟨fun e => Nat.lt_irrefl _ (Nat.lt_of_lt_of_le hdl (e ▸ hL)), fun y c hc' => absurd hc' (hcl y c)⟩⟩
      c := K.c, inst := hI, hS := hS, self := rfl, mod := rfl, dz := hdz, dm := hdm, dl := Nat.lt_of_lt_of_le hdl J.grow.size }
  exact names_body r' F hL hcl hzD hSO hrl (hc.at_ fun o e => J.grow.all d o e) hdl hm hks hne hsm hxs fun t s' g hc' => h t s' g hc'

/-- «o.names(e1, e2)» on a reader -/
theorem ev_names {o e1 e2 : Expr} {apos pos : Pos} {Q : Value → Shared → Prop} (K : Cls prog w h₀ C N fI fN mN fdI fdN) (ok : (plainBase o && notStar e1 && notStar e2 && apos.endLine == pos.line) = true)
    (h : wpAny (model prog w) A (eval o env) (fun ov s₁ => ∃ x mA, ov = .ref x ∧ (∀ b o, h₀.get? b = some o → s₁.heap.get? b = some o) ∧ s₁.heap.Inst x C mA ∧ mA (Str.ofString "names") = none ∧
      wpAny (model prog w) A (spliced (backTo pos (starEach [e1, e2] env))) (fun vs s₂ => (∀ b o, h₀.get? b = some o → s₂.heap.get? b = some o) ∧ wpAny (model prog w) A (call (.ref fN) (.ref x :: vs)) Q E s₂) E s₁) E s) :
    wpAny (model prog w) A (eval (.Call (.Attribute o (Str.ofString "names") apos) [e1, e2] [] pos) env) Q E s := by
  simp only [Bool.and_eq_true] at ok
  have hst : starEach [e1, e2] env = (false, eval e1 env) :: starEach [e2] env := star1 ok.1.1.2
  have hst2 : starEach [e1, e2] env = [(false, eval e1 env), (false, eval e2 env)] := by rw [hst, star0 ok.1.2]
  have hform : methodCallForm ([e1, e2].length + ([] : List Keyword).length) (backTo pos (starEach [e1, e2] env)) (backToKw pos (keywordEach [] env)) = true := by rw [hst2]; rfl
  have hpos : methodCallPos true o env apos pos = pure pos := by unfold methodCallPos; simp [ok.2]
  rw [arm_eval_Call, base1 ok.1.1.1]
  refine wpAny_bind (wpAny_mono h (fun ov s₁ h₁ => ?_) fun _ _ e => e)
  obtain ⟨x, mA, rfl, keep0, hI, hno, hc⟩ := h₁
  refine wpAny_bind (wpAny_standAt ?_)
  unfold methodCall
  rw [hform]
  obtain ⟨of, hof, hofc, hofd⟩ := K.fn.at_
  have hK := K.c.cls.keeps keep0
  obtain ⟨nm', q, bs, sn, sub, col, dd, k0, k1, k2, k3, k5, hC⟩ := hK.obj
  refine wpAny_bind (wpAny_holding ?_)
  have key : wpAny (model prog w) A (callWith pos (.ref fN) [.ref x] (backTo pos (starEach [e1, e2] env)) []) Q E s₁ :=
    callWith_meth (h₀ := h₀) hofd hof (wpAny_mono hc (fun vs s₂ h₂ => h₂) fun _ _ e => e) hst
  obtain ⟨hp, g, dr, t, os⟩ := s₁
  exact method_of hC hK.ns K.c.ga K.c.gh K.c.names (keep0 _ _ hof) hofc no_names hI hno (wpAny_bind (wpAny_of_eq hpos key))
end NB90
end
section
set_option autoImplicit false
open PySem PySem.W PyProof.Rows
set_option Elab.async false
set_option maxRecDepth 100000
namespace NB90
variable {h₀ : Heap} {mg mb : Str → Option Value} {W : Addr → Prop} {z₀ z z' z₁ : Fz} {s₀ s s' s₁ : Shared} {env : Env} {ρ : List (Str × Value)} {prog : Program} {w : World} {A : Around} {E : Value → Shared → Prop}
variable {C N fI fN x d : Addr} {mN : Str → Option Value} {m : Str} {tm : Tok} {fdI fdN : FuncData}

theorem rest_len (tg : Str) (lines : List Str) : (restL tg lines).length ≤ lines.length := by
  unfold restL; rw [List.length_map]; exact List.length_filter_le _ _
theorem cut_sn {l : Str} (h : Sn l) : Sn (cutL l) := slice_sn _ _ h
theorem rest_sn {tg : Str} {lines : List Str} (h : ∀ x ∈ lines, Sn x) : ∀ x ∈ restL tg lines, Sn x := by
  intro x hx
  obtain ⟨l, hl, rfl⟩ := List.mem_map.mp hx
  exact cut_sn (h l (List.mem_filter.mp hl).1)

theorem not_modules {a : Addr} (G : Gd h₀ mg mb) (hz : z.In s.heap) (hb : Base h₀ z) (ha : s.heap.objs.size ≤ a) : (a == sysModules) = false := by
  have h1 : mainGlobals < s.heap.objs.size := (G.g.keeps (hb.keep hz)).lt
  have h2 : sysModules < mainGlobals := by decide
  exact beq_eq_false_iff_ne.mpr fun e => Nat.lt_irrefl _ (Nat.lt_of_lt_of_le (Nat.lt_trans h2 h1) (e ▸ ha))

/-- «_Ignore(restore(lines, k))» -/
theorem ev_reader {n : Nat} {aR l : Addr} {cdR : Value} {k : Int} {lines ks : List Str} {p1 p2 pos1 pos2 : Pos} {e1 e2 : Expr} {Q : Value → Shared → Prop} (r : Room A (n + 7)) (G : Gd h₀ mg mb) (K : Cls prog w h₀ C N fI fN mN fdI fdN) (fR : FnOk h₀ (Str.ofString "restore") pArgsRestore.1 pBodyRestore.1 pScopeRestore.1 aR cdR)
    (hgC : mg (Str.ofString "_Ignore") = some (.ref C)) (hgR : mg (Str.ofString "restore") = some (.ref aR)) (hkC : env.kindOf (Str.ofString "_Ignore") = some .globalImplicit) (hkR : env.kindOf (Str.ofString "restore") = some .globalImplicit) (ok : notStar e1 = true)
    (J : Inn h₀ No z s env ρ z s) (hk : k = 1 ∨ k = 2) (hln : ∀ x ∈ lines, Sn x) (hlen : lines.length ≤ 1000) (hr : Rd z (.ref l) (.list (lines.map .str))) (hks : ltS ∈ ks)
    (harg : ∀ {Q' : List Value → Shared → Prop}, (∀ tk s1, Inn h₀ No z s env ρ z s1 → Q' [.ref l, .int k tk] s1) → wpAny (model prog w) A (spliced (backTo pos2 (starEach [e1, e2] env))) Q' E s)
    (h : ∀ x d z' s', Grow No z s z' s' → Rdr prog w C (restL (tagOf k) lines) x d z' → s.heap.objs.size ≤ d → (∀ o, ¬ z' d o) → (d == sysModules) = false → Cache prog w ks (restL (tagOf k) lines) d s'.heap → Q (.ref x) s') :
    wpAny (model prog w) A (eval (.Call (.Name (Str.ofString "_Ignore") p1) [.Call (.Name (Str.ofString "restore") p2) [e1, e2] [] pos2] [] pos1) env) Q E s := by
  with_reducible refine Call_ (J.ldG G hgC hkC ?_ ?_) ?_
  · refine callWith_cls K.c.cls (arg_c rfl ?_) (star1 rfl) rfl
    with_reducible refine ev_call J G fR hgR hkR ?_ ok (harg fun tk s1 J1 => ?_)
    · decide
    refine ⟨z, J1, restore_new (n := n) (r.le (by (first | with_reducible assumption | with_reducible exact Nat.add_le_add_left (by decide) _ | with_reducible exact Nat.le_trans (by assumption) (by decide) | with_reducible exact Nat.sub_succ_lt_self (by assumption) | with_reducible exact Nat.lt_of_lt_of_le (by assumption) (by assumption) | with_reducible exact Nat.le_trans (by assumption) (by assumption) | decide | omega))) G fR J1.inn J1.base hk hln hr fun gen L s2 t2 hst hL hgn => arg_n ⟨(J1.to t2).keep0, ?_⟩⟩
    have J2 := J1.to t2
    have hs12 : s.heap.objs.size ≤ s1.heap.objs.size := J1.grow.size
    have hnew : ∀ a, (a = L ∨ a = gen) → s1.heap.objs.size ≤ a ∧ a < s2.heap.objs.size := fun a ha => ha.elim (fun e => e ▸ hL) fun e => e ▸ hgn
    refine reader_new (n := n + 2) (G := s1.gens.size) (g := s1.gens.size) (xs := restL (tagOf k) lines) (T := fun a => a = L ∨ a = gen) (St := fun A' => gSt prog w A' z L gen s1.gens.size (restL (tagOf k) lines)) r G K.c K.fi K.bi J2.inn J2.base
      (fun A' r' => gIter r' G.lim J2.base) (fun A' r' => hst A' n r') (hst A n (r.le (by (first | with_reducible assumption | with_reducible exact Nat.add_le_add_left (by decide) _ | with_reducible exact Nat.le_trans (by assumption) (by decide) | with_reducible exact Nat.sub_succ_lt_self (by assumption) | with_reducible exact Nat.lt_of_lt_of_le (by assumption) (by assumption) | with_reducible exact Nat.le_trans (by assumption) (by assumption) | decide | omega)))).2.2.2.1 (fun a ha => ⟨(hnew a ha).2, fun o e => Nat.lt_irrefl _ (Nat.lt_of_lt_of_le (Heap.lt_size (J1.inn _ _ e)) (hnew a ha).1)⟩)
      (by have := rest_len (tagOf k) lines; unfold scanBound; (first | with_reducible assumption | with_reducible exact Nat.add_le_add_left (by decide) _ | with_reducible exact Nat.le_trans (by assumption) (by decide) | with_reducible exact Nat.sub_succ_lt_self (by assumption) | with_reducible exact Nat.lt_of_lt_of_le (by assumption) (by assumption) | with_reducible exact Nat.le_trans (by assumption) (by assumption) | decide | omega)) ?_
    intro x D l0 d oD cnt z' s3 t3 hle hin hnw hzD hSO hrl hI hd hdz hdict
    have hs : s.heap.objs.size ≤ s2.heap.objs.size := Nat.le_trans hs12 t2.size
    have g : Grow No z s z' s3 := {
      keep := fun b o _ e => t3.keep b o (fun hb => Nat.lt_irrefl _ (Nat.lt_of_lt_of_le (Heap.lt_size e) (Nat.le_trans hs12 (hnew b hb).1))) (t2.all b o (J1.grow.all b o e))
      size := Nat.le_trans hs t3.size
      os := t3.os.trans (t2.os.trans J1.grow.os)
      gens := fun i y e => by
        have e1 := J1.grow.gens i y e
        exact t3.gens i y (Array.getElem?_eq_some_iff.mp e1).1 (t2.gens i y e1)
      bare := fun hb => t3.bare (t2.bare (J1.grow.bare hb))
      le := hle
      inn := hin
      new := fun a o e => (hnw a o e).imp id fun q => Nat.le_trans hs q }
    obtain ⟨t, hdo⟩ := hdict
    refine h x d z' s3 g ⟨D, l0, oD, cnt, hI, hzD, hSO, hrl⟩ (Nat.le_trans hs hd) hdz (not_modules G J2.inn J2.base hd) ⟨_, hdo, fun p hp => ?_, fun p hp hne => ?_⟩
    · rw [List.mem_singleton.mp hp]; exact hks
    · rw [List.mem_singleton.mp hp] at hne; exact absurd rfl hne
  · decide
  · rfl

/-- a change at a place that is new -/
theorem Grow.then_ {W' : Addr → Prop} {s'' : Shared} {z'' : Fz} (g : Grow W z s z' s') (k : Grow W' z' s' z'' s'') (h : ∀ a, W' a → W a ∨ s.heap.objs.size ≤ a) : Grow W z s z'' s'' where
  keep := fun b o hb e => k.keep b o (fun hw => (h b hw).elim hb fun hl => Nat.lt_irrefl _ (Nat.lt_of_lt_of_le (Heap.lt_size e) hl)) (g.keep b o hb e)
  size := Nat.le_trans g.size k.size
  os := k.os.trans g.os
  gens := fun i x e => k.gens i x (g.gens i x e)
  bare := fun b => k.bare (g.bare b)
  le := g.le.trans k.le
  inn := k.inn
  new := fun a o e => (k.new a o e).elim (fun q => g.new a o q) fun q => .inr (Nat.le_trans g.size q)
theorem Inn.then_ {W' : Addr → Prop} {s'' : Shared} {z'' : Fz} (J : Inn h₀ W z₀ s₀ env ρ z s) (K : Inn h₀ W' z s env ρ z'' s'') (h : ∀ a, W' a → W a ∨ s₀.heap.objs.size ≤ a) : Inn h₀ W z₀ s₀ env ρ z'' s'' :=
  ⟨J.grow.then_ K.grow h, K.frame, K.base, J.apart⟩
/-- from here on, some places may be changed -/
theorem Inn.hereW {W' : Addr → Prop} (J : Inn h₀ W z₀ s₀ env ρ z s) (h : Apart W' env) : Inn h₀ W' z s env ρ z s := ⟨Grow.refl J.inn, J.frame, J.base, h⟩

theorem cell_of {S : Scope} {y : Str} {c : Addr} (h : env.cells = cellsFrom (env.locals + 1) S.names []) (hy : (cellsFrom (env.locals + 1) S.names []).lookup y = some c) : env.cells.lookup y = some c := by rw [h]; exact hy

theorem told_spec {n : Nat} {a aR l : Addr} {cd cdR va : Value} {k : Int} {tk : Tok} {lines asked : List Str} {Q : Value → Shared → Prop} (r : Room A (n + 9)) (G : Gd h₀ mg mb) (K : Cls prog w h₀ C N fI fN mN fdI fdN)
    (fR : FnOk h₀ (Str.ofString "restore") pArgsRestore.1 pBodyRestore.1 pScopeRestore.1 aR cdR) (hgC : mg (Str.ofString "_Ignore") = some (.ref C)) (hgR : mg (Str.ofString "restore") = some (.ref aR)) (f : FnOk h₀ (Str.ofString "_law_told") pArgsTold.1 pBodyTold.1 pScopeTold.1 a cd)
    (hz : z.In s.heap) (hb : Base h₀ z) (hk : k = 1 ∨ k = 2) (hln : ∀ x ∈ lines, Sn x) (hlen : lines.length ≤ 1000) (hr : Rd z (.ref l) (.list (lines.map .str))) (ha : Rd z va (.list (asked.map .str))) (has : ∀ x ∈ asked, Sn x ∧ x ≠ ltS) (hal : asked.length ≤ 1000)
    (h : ∀ v z' s', Grow No z s z' s' → Rd z' v (.list (asked.map fun m => .int (tellI (restL (tagOf k) lines) m))) → Q v s') :
    wpAny (model prog w) A (call (.ref a) [.ref l, .int k tk, va]) Q E s := by
  refine call_def (n := n + 8) (binds := [(Str.ofString "lines", .ref l), (Str.ofString "side", .int k tk), (Str.ofString "asked", va)]) r G.lim f hz hb (fun pm doc => rfl) (fun L => rfl) ⟨rfl, rfl, rfl⟩ fun env s₁ hS hcn J r' => ?_
  simp only [pBodyTold]
  with_reducible refine wpAny_execs_cons (asg ?_ (ev_reader (n := n) (l := l) (k := k) (lines := lines) (ks := ltS :: asked) (r'.le (by (first | with_reducible assumption | with_reducible exact Nat.add_le_add_left (by decide) _ | with_reducible exact Nat.le_trans (by assumption) (by decide) | with_reducible exact Nat.sub_succ_lt_self (by assumption) | with_reducible exact Nat.lt_of_lt_of_le (by assumption) (by assumption) | with_reducible exact Nat.le_trans (by assumption) (by assumption) | decide | omega))) G K fR hgC hgR (kind_of hS ?_) (kind_of hS ?_) ?_ J.here hk hln hlen (hr.mono J.grow.le) List.mem_cons_self ?_ ?_))
  · rfl
  · rfl
  · rfl
  · rfl
  · intro Q' hq
    refine arg_c rfl (J.ld rfl (.inl (kind_of hS rfl)) (arg_c rfl (J.ld rfl (.inl (kind_of hS rfl)) (arg_n (hq tk _ J.here)))))
  intro x d z1 s1 g1 hR hd hdz hdm hc
  have J1 := J.up g1
  have hcell : env.cells.lookup (Str.ofString "reader") = some (env.locals + 1) := cell_of hcn.2.2.1 rfl
  have hdc : d ≠ env.locals + 1 := fun e => by
    obtain ⟨⟨_, hv⟩, _⟩ := J.frame.cz _ _ hcell
    exact Nat.lt_irrefl _ (Nat.lt_of_lt_of_le hv.lt (e ▸ hd))
  refine J1.stC (kind_of hS rfl) hcell (hcn.2.1 _ _ hcell) fun s2 J2 t2 => ?_
  have hc2 := hc.at_ fun o e => t2.keep d o hdc e
  have hAp : Apart (· = d) env := by
    refine ⟨fun e => ?_, fun y c hy e => ?_⟩
    · obtain ⟨mm, hn, _⟩ := J.frame.ns
      exact Nat.lt_irrefl _ (Nat.lt_of_lt_of_le hn.lt (e ▸ hd))
    · obtain ⟨⟨_, hv⟩, _⟩ := J.frame.cz _ _ hy
      exact Nat.lt_irrefl _ (Nat.lt_of_lt_of_le hv.lt (e ▸ hd))
  have J3 := J2.hereW hAp
  with_reducible refine wpAny_execs_cons (wpAny_Return_some (ev_comp (W := (· = d)) (xs := asked) (enc := PyData.str) (p := fun _ => true) (f := fun m => .int (tellI (restL (tagOf k) lines) m)) (K := Cache prog w (ltS :: asked) (restL (tagOf k) lines) d) (own := false) r'.hh hS ?cs ?fr (le_line (by (first | with_reducible assumption | with_reducible exact Nat.add_le_add_left (by decide) _ | with_reducible exact Nat.le_trans (by assumption) (by decide) | with_reducible exact Nat.sub_succ_lt_self (by assumption) | with_reducible exact Nat.lt_of_lt_of_le (by assumption) (by assumption) | with_reducible exact Nat.le_trans (by assumption) (by assumption) | decide | omega))) (fun h h' hw hK => hK.at_ fun o e => hw d o rfl e) J3 ?src ?hs))
  case cs => exact ⟨rfl, fun _ _ => rfl, fun _ => rfl, nofun, fun _ => rfl, by decide⟩
  case fr => rfl
  case hs => intro _; rfl
  refine J3.ld (v := va) rfl (.inl (kind_of hS rfl)) ?_
  refine ⟨z1, J3, ha.mono (J.grow.le.trans g1.le), hc2, fun a e => by subst e; exact ⟨hc2.lt, hdz⟩, fun cenv hC m hm v z4 s4 E4 hv hle J4 hc4 hW4 => ?_, fun v z' s' hle J' hv _ => ?_⟩
  · obtain ⟨tm, rfl⟩ := hv.isStr
    refine wpAny_tests_nil ⟨rfl, z4, Grow.refl J4.inn, hc4, fun _ => ?_⟩
    with_reducible refine ev_names K ?_ ?_
    · rfl
    have N4 := J4.hereN
    have hR4 := hR.mono hle
    refine N4.ld (v := .ref x) rfl (.inr (.inl (kind_of hC rfl))) ?_
    obtain ⟨D, l0, oD, cnt, hI, _⟩ := id hR4
    refine ⟨x, _, rfl, N4.keep0, hI _ N4.inn, rfl, ?_⟩
    refine arg_c rfl (N4.str fun tf s5 N5 => arg_c rfl (N5.ld rfl (.inl (kind_of hC rfl)) (arg_n ⟨N5.keep0, ?_⟩)))
    refine names_spec (n := n) (r'.le (by (first | with_reducible assumption | with_reducible exact Nat.add_le_add_left (by decide) _ | with_reducible exact Nat.le_trans (by assumption) (by decide) | with_reducible exact Nat.sub_succ_lt_self (by assumption) | with_reducible exact Nat.lt_of_lt_of_le (by assumption) (by assumption) | with_reducible exact Nat.le_trans (by assumption) (by assumption) | decide | omega))) G K N5.inn N5.base hR4 (hW4 d rfl).2 hdm (hc4.at_ fun o e => N5.grow.all d o e) (List.mem_cons_of_mem _ hm) (by simp only [List.length_cons]; (first | with_reducible assumption | with_reducible exact Nat.add_le_add_left (by decide) _ | with_reducible exact Nat.le_trans (by assumption) (by decide) | with_reducible exact Nat.sub_succ_lt_self (by assumption) | with_reducible exact Nat.lt_of_lt_of_le (by assumption) (by assumption) | with_reducible exact Nat.le_trans (by assumption) (by assumption) | decide | omega)) (has m hm).2 (has m hm).1.1 (fun y hy => (rest_sn hln y hy).1) fun t s6 g6 hc6 => ?_
    exact ⟨z4, N5.grow.no.trans g6, .int _ _, hc6⟩
  · have g := J2.grow.then_ J'.grow fun a e => .inr (e ▸ Nat.le_trans J.grow.size hd)
    refine h v z' s' g ?_
    rw [List.filter_eq_self.mpr fun _ _ => rfl] at hv
    exact hv
end NB90
end
section
set_option autoImplicit false
open PySem PySem.W PyProof.Rows
set_option Elab.async false
set_option maxRecDepth 100000
namespace NB90
variable {h₀ : Heap} {mg mb : Str → Option Value} {W : Addr → Prop} {z₀ z z' z₁ : Fz} {s₀ s s' s₁ : Shared} {env : Env} {ρ : List (Str × Value)} {prog : Program} {w : World} {A : Around} {E : Value → Shared → Prop}
variable {C N fI fN x d : Addr} {mN : Str → Option Value} {m : Str} {tm : Tok} {fdI fdN : FuncData}

theorem To.gsize (t : To W s s') : s.gens.size ≤ s'.gens.size := by
  refine Nat.le_of_not_lt fun hl => ?_
  have h1 := t.gens s'.gens.size _ (Array.getElem?_eq_getElem hl)
  have := (Array.getElem?_eq_some_iff.mp h1).1
  exact Nat.lt_irrefl _ this

/-- «restore(e1, e2)» as the source of a comprehension -/
theorem gen_src {n : Nat} {aR l : Addr} {cdR : Value} {k : Int} {lines : List Str} {p pos : Pos} {e1 e2 : Expr} (r : Room A (n + 2)) (G : Gd h₀ mg mb) (fR : FnOk h₀ (Str.ofString "restore") pArgsRestore.1 pBodyRestore.1 pScopeRestore.1 aR cdR)
    (hgR : mg (Str.ofString "restore") = some (.ref aR)) (hkR : env.kindOf (Str.ofString "restore") = some .globalImplicit) (ok : notStar e1 = true)
    (J : Inn h₀ No z s env ρ z s) (hk : k = 1 ∨ k = 2) (hln : ∀ x ∈ lines, Sn x) (hr : Rd z (.ref l) (.list (lines.map .str)))
    (harg : ∀ {Q' : List Value → Shared → Prop}, (∀ tk s1, Inn h₀ No z s env ρ z s1 → Q' [.ref l, .int k tk] s1) → wpAny (model prog w) A (spliced (backTo pos (starEach [e1, e2] env))) Q' E s) :
    wpAny (model prog w) A (eval (.Call (.Name (Str.ofString "restore") p) [e1, e2] [] pos) env) (fun xv s₁ => wpAny (model prog w) A (pyIter xv) (fun it s₂ => ∃ I T G St, it = .ref I ∧ To No s s₂ ∧
      Iter prog w A I G (restL (tagOf k) lines).length (fun i z v => ∀ a, (restL (tagOf k) lines)[i]? = some a → Rd z v (.str a)) St ∧ St 0 T z s₂ ∧ (∀ a, T a → s.heap.objs.size ≤ a ∧ a < s₂.heap.objs.size) ∧ s.gens.size ≤ G ∧ True) E s₁) E s := by
  with_reducible refine ev_call J G fR hgR hkR ?_ ok (harg fun tk s1 J1 => ?_)
  · decide
  refine ⟨z, J1, restore_new (n := n) (r.le (by (first | with_reducible assumption | with_reducible exact Nat.add_le_add_left (by decide) _ | with_reducible exact Nat.le_trans (by assumption) (by decide) | with_reducible exact Nat.sub_succ_lt_self (by assumption) | with_reducible exact Nat.lt_of_lt_of_le (by assumption) (by assumption) | with_reducible exact Nat.le_trans (by assumption) (by assumption) | decide | omega))) G fR J1.inn J1.base hk hln hr fun gen L s2 t2 hst hL hgn => ?_⟩
  have hs := hst A n r
  refine wpAny_pyIter_gen hs.2.2.2.1 ⟨gen, _, s1.gens.size, _, rfl, J1.grow.toTo.trans t2, gIter r G.lim J1.base, hs, fun a ha => ?_, J1.grow.toTo.gsize, trivial⟩
  rcases ha with rfl | rfl
  · exact ⟨Nat.le_trans J1.grow.size hL.1, hL.2⟩
  · exact ⟨Nat.le_trans J1.grow.size hgn.1, hgn.2⟩

noncomputable def encN (k : Nat) : PyData := .int (k : Nat)
/-- «[0, 1]» -/
theorem ev_01 {p1 p2 p3 : Pos} {Q : Value → Shared → Prop} (J : Inn h₀ W z₀ s₀ env ρ z s) (h : ∀ v z' s', z.le z' → Inn h₀ W z₀ s₀ env ρ z' s' → Rd z' v (.list ([0, 1].map encN)) → Q v s') :
    wpAny (model prog w) A (eval (.List [.Constant (.int 0) 0 p1, .Constant (.int 1) 0 p2] p3) env) Q E s := by
  refine ev_list (arg_c rfl (J.int fun t1 s1 J1 => arg_c rfl (J1.int fun t2 s2 J2 => arg_n ?_)))
  exact J2.newList (ds := [0, 1].map encN) (.cons (.int 0 _) (.cons (.int 1 _) (.nil _))) (le_line (by show 2 ≤ 10000; (first | with_reducible assumption | with_reducible exact Nat.add_le_add_left (by decide) _ | with_reducible exact Nat.le_trans (by assumption) (by decide) | with_reducible exact Nat.sub_succ_lt_self (by assumption) | with_reducible exact Nat.lt_of_lt_of_le (by assumption) (by assumption) | with_reducible exact Nat.le_trans (by assumption) (by assumption) | decide | omega))) fun v z' s' hle J' hr => h v z' s' hle J' hr

/-- what the two readers of _law_short keep of a side -/
noncomputable def topOf (R : List Str) : List Str := R.filter fun x => !Txt.contains x dot || tellI R (upS x) == 0
noncomputable def restK (lines : List Str) (k : Nat) : List Str := restL (tagOf ((k : Int) + 1)) lines
noncomputable def shortL (lines : List Str) : List Str := taggedL (topOf (restK lines 0)) (topOf (restK lines 1))

/-- «readers[k].names('f', _law_up(x)) == 0», or no dot -/
theorem top_turn {n : Nat} {aU lr : Addr} {cdU : Value} {k : Nat} {tk : Tok} {ks R : List Str} {vs : List Value} {num : Nat} {a : Str} {KK : Heap → Prop} {q1 q2 q3 q4 q5 q6 q7 q8 q9 q10 q11 q12 q13 q14 q15 q16 : Pos}
    (hpos : (q7.endLine == q12.line) = true) (r : Room A (n + 1)) (G : Gd h₀ mg mb) (K : Cls prog w h₀ C N fI fN mN fdI fdN) (fU : FnOk h₀ (Str.ofString "_law_up") pArgsUp.1 pBodyUp.1 pScopeUp.1 aU cdU) (hgU : mg (Str.ofString "_law_up") = some (.ref aU))
    (hkx : env.kindOf (Str.ofString "x") = some .local) (hkU : env.kindOf (Str.ofString "_law_up") = some .globalImplicit) (hkk : env.kindOf (Str.ofString "k") = some .cell ∨ env.kindOf (Str.ofString "k") = some .free) (hkr : env.kindOf (Str.ofString "readers") = some .cell ∨ env.kindOf (Str.ofString "readers") = some .free)
    (hlk : ρ.lookup (Str.ofString "k") = some (.int k tk)) (hlr : ρ.lookup (Str.ofString "readers") = some (.ref lr)) (hk : k < 2) (hzr : z₁ lr { cls := .type "list", data := .seq vs.toArray num }) (hvs : vs[k]? = some (.ref x))
    (hWd : W d) (hR : Rdr prog w C R x d z₁) (hdm : (d == sysModules) = false) (hks : ks.length ≤ 10000) (hR1 : ∀ y ∈ R, y.length ≤ 1000)
    (hKK : ∀ h : Heap, KK h → Cache prog w ks R d h ∧ ∀ h' : Heap, (∀ b o, b ≠ d → h.get? b = some o → h'.get? b = some o) → Cache prog w ks R d h' → KK h')
    (hkeep : ∀ h h' : Heap, (∀ b o, W b → h.get? b = some o → h'.get? b = some o) → KK h → KK h')
    (ha : a.length ≤ 1000) (hup : upS a ∈ ks ∧ upS a ≠ ltS ∧ (upS a).length ≤ 1000) :
    Turn h₀ W z₁ env ρ prog w A (Str.ofString "x") [.BoolOp .Or [.Compare (.Constant (.str dot) 0 q1) [.NotIn] [.Name (Str.ofString "x") q2] q3,
      .Compare (.Call (.Attribute (.Subscript (.Name (Str.ofString "readers") q4) (.Name (Str.ofString "k") q5) q6) (Str.ofString "names") q7) [.Constant (.str (Str.ofString "f")) 0 q8, .Call (.Name (Str.ofString "_law_up") q9) [.Name (Str.ofString "x") q10] [] q11] [] q12) [.Eq] [.Constant (.int 0) 0 q13] q14] q15]
      (.Name (Str.ofString "x") q16) KK PyData.str (fun x => !Txt.contains x dot || tellI R (upS x) == 0) PyData.str a := by
  intro v z2 s2 E2 hv hle J2 hKs hW2
  obtain ⟨tv, rfl⟩ := hv.isStr
  have N2 := J2.hereN
  have lkk : ((Str.ofString "x", Value.str a tv) :: ρ).lookup (Str.ofString "k") = some (.int k tk) := by rw [lookup_cons_ne (by decide)]; exact hlk
  have lkr : ((Str.ofString "x", Value.str a tv) :: ρ).lookup (Str.ofString "readers") = some (.ref lr) := by rw [lookup_cons_ne (by decide)]; exact hlr
  have elt : ∀ {z3 : Fz} {s3 : Shared} {E3 : Value → Shared → Prop} {c : Bool}, Inn h₀ W z2 s2 env ((Str.ofString "x", Value.str a tv) :: ρ) z3 s3 → KK s3.heap → c = true →
      wpAny (model prog w) A (eval (.Name (Str.ofString "x") q16) env) (fun y s'' => ∃ z'', Grow W z3 s3 z'' s'' ∧ Rd z'' y (.str a) ∧ KK s''.heap) E3 s3 := fun J3 hK3 _ =>
    J3.ld lookup_cons_self (.inl hkx) ⟨_, Grow.refl J3.inn, .str _ _, hK3⟩
  refine wpAny_tests_one (isTrue_or (test_cmp rfl (N2.str fun t3 s3 N3 => N3.ld lookup_cons_self (.inl hkx) (SB.notContains (wpAny_truthy_bool ?_)))))
  have hK3 : KK s3.heap := hkeep _ _ (fun b o _ e => N3.grow.all b o e) hKs
  have J3 := J2.up N3.grow.no
  cases hct : Txt.contains a dot with
  | false =>
    rw [Bool.not_false, if_pos rfl]
    exact ⟨by simp [hct], z2, J3.grow, hK3, fun _ => elt (c := true) J3 hK3 rfl⟩
  | true =>
    rw [Bool.not_true, if_neg Bool.false_ne_true]
    with_reducible refine isTrue_or (test_cmp ?_ (ev_names K ?_ (Subscript_ ?_)))
    · rfl
    · show (true && true && true && (q7.endLine == q12.line)) = true; rw [hpos]; rfl
    have lrr := hkr
    refine N3.ld lkr (hkr.elim (fun e => .inr (.inl e)) fun e => .inr (.inr e)) (N3.ld lkk (hkk.elim (fun e => .inr (.inl e)) fun e => .inr (.inr e)) ?_)
    have hlst : s3.heap.IsList lr vs.toArray := ⟨_, N3.inn _ _ (hle _ _ hzr), rfl, _, rfl⟩
    refine tail_any hlst.typeIs slot_list_getitem.lookup (wpAny_getItem_list hlst (by (first | with_reducible assumption | with_reducible exact Nat.add_le_add_left (by decide) _ | with_reducible exact Nat.le_trans (by assumption) (by decide) | with_reducible exact Nat.sub_succ_lt_self (by assumption) | with_reducible exact Nat.lt_of_lt_of_le (by assumption) (by assumption) | with_reducible exact Nat.le_trans (by assumption) (by assumption) | decide | omega)) (by (first | with_reducible assumption | with_reducible exact Nat.add_le_add_left (by decide) _ | with_reducible exact Nat.le_trans (by assumption) (by decide) | with_reducible exact Nat.sub_succ_lt_self (by assumption) | with_reducible exact Nat.lt_of_lt_of_le (by assumption) (by assumption) | with_reducible exact Nat.le_trans (by assumption) (by assumption) | decide | omega)) (by simpa using hvs) ?_) rfl
    have hR3 : Rdr prog w C R x d z2 := hR.mono hle
    obtain ⟨D, l0, oD, cnt, hI, _⟩ := id hR3
    refine ⟨x, _, rfl, N3.keep0, hI _ N3.inn, rfl, ?_⟩
    refine arg_c rfl (N3.str fun tf s4 N4 => arg_c rfl ?_)
    with_reducible refine ev_call N4 G fU hgU hkU ?_ ?_ ?_
    · decide
    · rfl
    refine arg_c rfl (N4.ld lookup_cons_self (.inl hkx) (arg_n ⟨z2, N4, up_spec (n := n) r G.lim fU N4.inn N4.base ha fun t5 z5 s5 g5 => ?_⟩))
    have N5 := N4.up g5
    refine arg_n ⟨N5.keep0, ?_⟩
    obtain ⟨hcS, hput⟩ := hKK _ hKs
    have hdz5 : ∀ o, ¬ z5 d o := fun o e => (N5.grow.new d o e).elim ((hW2 d hWd).2 o) fun hl => Nat.lt_irrefl _ (Nat.lt_of_lt_of_le hcS.lt hl)
    refine names_spec (n := n) r G K N5.inn N5.base (hR3.mono g5.le) hdz5 hdm (hcS.at_ fun o e => N5.grow.all d o e) hup.1 hks hup.2.1 hup.2.2 hR1 fun t6 s6 g6 hc6 => ?_
    have hK6 : KK s6.heap := hput _ (fun b o hb e => g6.keep b o hb (N5.grow.all b o e)) hc6
    have J6 := (J2.up N5.grow.no).up (g6.mono fun b e => e ▸ hWd)
    have N6 := J6.hereN
    refine N6.int fun t7 s7 N7 => eq_int (wpAny_truthy_bool ?_)
    have J7 := J6.up N7.grow.no
    have hK7 : KK s7.heap := hkeep _ _ (fun b o _ e => N7.grow.all b o e) hK6
    cases hq : tellI R (upS a) == 0 with
    | true =>
      rw [if_pos rfl]
      exact ⟨by simp [hct, hq], z5, J7.grow, hK7, fun _ => elt (c := true) J7 hK7 rfl⟩
    | false =>
      rw [if_neg Bool.false_ne_true]
      refine isTrue_or_nil ⟨by simp [hct, hq], z5, J7.grow, hK7, fun e => ?_⟩
      simp [hct, hq] at e
end NB90
end
section
set_option autoImplicit false
open PySem PySem.W PyProof.Rows
set_option Elab.async false
set_option maxRecDepth 100000
namespace NB90
variable {h₀ : Heap} {mg mb : Str → Option Value} {W : Addr → Prop} {z₀ z z' z₁ : Fz} {s₀ s s' s₁ : Shared} {env : Env} {ρ : List (Str × Value)} {prog : Program} {w : World} {A : Around} {E : Value → Shared → Prop}
variable {C N fI fN x d : Addr} {mN : Str → Option Value} {m : Str} {tm : Tok} {fdI fdN : FuncData}

theorem top_mem {R : List Str} {x : Str} (h : x ∈ topOf R) : x ∈ R := (List.mem_filter.mp h).1
theorem top_len (R : List Str) : (topOf R).length ≤ R.length := List.length_filter_le _ _
theorem mem01 {k : Nat} (h : k ∈ [0, 1]) : k = 0 ∨ k = 1 := by simpa using h

theorem short_spec {n : Nat} {a aR aU aT l : Addr} {cd cdR cdU cdT : Value} {lines : List Str} {Q : Value → Shared → Prop} (r : Room A (n + 9)) (G : Gd h₀ mg mb) (K : Cls prog w h₀ C N fI fN mN fdI fdN)
    (fR : FnOk h₀ (Str.ofString "restore") pArgsRestore.1 pBodyRestore.1 pScopeRestore.1 aR cdR) (hgC : mg (Str.ofString "_Ignore") = some (.ref C)) (hgR : mg (Str.ofString "restore") = some (.ref aR))
    (fU : FnOk h₀ (Str.ofString "_law_up") pArgsUp.1 pBodyUp.1 pScopeUp.1 aU cdU) (hgU : mg (Str.ofString "_law_up") = some (.ref aU))
    (fT : FnOk h₀ (Str.ofString "_law_tagged") pArgsTagged.1 pBodyTagged.1 pScopeTagged.1 aT cdT) (hgT : mg (Str.ofString "_law_tagged") = some (.ref aT))
    (f : FnOk h₀ (Str.ofString "_law_short") pArgsShort.1 pBodyShort.1 pScopeShort.1 a cd)
    (hz : z.In s.heap) (hb : Base h₀ z) (hln : ∀ x ∈ lines, Sn x) (hlen : lines.length ≤ 400) (hr : Rd z (.ref l) (.list (lines.map .str))) (hN : ∀ k < 2, ∀ x ∈ restK lines k, Nm x ∧ upS x ≠ ltS ∧ (upS x).length ≤ 1000)
    (h : ∀ v z' s', Grow No z s z' s' → Rd z' v (row (shortL lines)) → Q v s') :
    wpAny (model prog w) A (call (.ref a) [.ref l]) Q E s := by
  refine call_def (n := n + 8) (binds := [(Str.ofString "lines", .ref l)]) r G.lim f hz hb (fun pm doc => rfl) (fun L => rfl) ⟨rfl, rfl, rfl⟩ fun env s₁ hS hcn J r' => ?_
  simp only [pBodyShort, dot_eq]
  have hkl : ∀ k, (restK lines k).length ≤ 400 := fun k => Nat.le_trans (rest_len _ _) hlen
  generalize hks : ltS :: ((restK lines 0).map upS ++ (restK lines 1).map upS) = ks
  have hksl : ks.length ≤ 10000 := by
    rw [← hks]; simp only [List.length_cons, List.length_append, List.length_map]
    have := hkl 0; have := hkl 1; (first | with_reducible assumption | with_reducible exact Nat.add_le_add_left (by decide) _ | with_reducible exact Nat.le_trans (by assumption) (by decide) | with_reducible exact Nat.sub_succ_lt_self (by assumption) | with_reducible exact Nat.lt_of_lt_of_le (by assumption) (by assumption) | with_reducible exact Nat.le_trans (by assumption) (by assumption) | decide | omega)
  have hlt : ltS ∈ ks := by rw [← hks]; exact List.mem_cons_self
  with_reducible refine wpAny_execs_cons (asg ?_ (ev_list (arg_c ?_ (ev_reader (n := n) (l := l) (k := 1) (lines := lines) (ks := ks) (r'.le (by (first | with_reducible assumption | with_reducible exact Nat.add_le_add_left (by decide) _ | with_reducible exact Nat.le_trans (by assumption) (by decide) | with_reducible exact Nat.sub_succ_lt_self (by assumption) | with_reducible exact Nat.lt_of_lt_of_le (by assumption) (by assumption) | with_reducible exact Nat.le_trans (by assumption) (by assumption) | decide | omega))) G K fR hgC hgR (kind_of hS ?_) (kind_of hS ?_) ?_ J.here (.inl rfl) hln (by (first | with_reducible assumption | with_reducible exact Nat.add_le_add_left (by decide) _ | with_reducible exact Nat.le_trans (by assumption) (by decide) | with_reducible exact Nat.sub_succ_lt_self (by assumption) | with_reducible exact Nat.lt_of_lt_of_le (by assumption) (by assumption) | with_reducible exact Nat.le_trans (by assumption) (by assumption) | decide | omega)) (hr.mono J.grow.le) hlt ?_ ?_))))
  · rfl
  · rfl
  · rfl
  · rfl
  · rfl
  · intro Q' hq
    exact arg_c rfl (J.here.ld rfl (.inr (.inl (kind_of hS rfl))) (arg_c rfl (J.here.int fun tk s1 J1 => arg_n (hq tk s1 J1))))
  intro x0 d0 z1 s1 g1 hR0 hd0 hdz0 hdm0 hc0
  have J1 := J.up g1
  with_reducible refine arg_c ?_ (ev_reader (n := n) (l := l) (k := 2) (lines := lines) (ks := ks) (r'.le (by (first | with_reducible assumption | with_reducible exact Nat.add_le_add_left (by decide) _ | with_reducible exact Nat.le_trans (by assumption) (by decide) | with_reducible exact Nat.sub_succ_lt_self (by assumption) | with_reducible exact Nat.lt_of_lt_of_le (by assumption) (by assumption) | with_reducible exact Nat.le_trans (by assumption) (by assumption) | decide | omega))) G K fR hgC hgR (kind_of hS ?_) (kind_of hS ?_) ?_ J1.here (.inr rfl) hln (by (first | with_reducible assumption | with_reducible exact Nat.add_le_add_left (by decide) _ | with_reducible exact Nat.le_trans (by assumption) (by decide) | with_reducible exact Nat.sub_succ_lt_self (by assumption) | with_reducible exact Nat.lt_of_lt_of_le (by assumption) (by assumption) | with_reducible exact Nat.le_trans (by assumption) (by assumption) | decide | omega)) (hr.mono (J.grow.le.trans g1.le)) hlt ?_ ?_)
  · rfl
  · rfl
  · rfl
  · rfl
  · intro Q' hq
    exact arg_c rfl (J1.here.ld rfl (.inr (.inl (kind_of hS rfl))) (arg_c rfl (J1.here.int fun tk s1 J1 => arg_n (hq tk s1 J1))))
  intro x1 d1 z2 s2 g2 hR1 hd1 hdz1 hdm1 hc1
  have J2 := J1.up g2
  have hd0l := hc0.lt
  have hd1l := hc1.lt
  have hc0 := hc0.at_ fun o e => g2.all d0 o e
  have hd01 : d0 ≠ d1 := fun e => Nat.lt_irrefl _ (Nat.lt_of_lt_of_le hd0l (e ▸ hd1))
  have hdz0 : ∀ o, ¬ z2 d0 o := fun o e => (g2.new d0 o e).elim (hdz0 o) fun hl => Nat.lt_irrefl _ (Nat.lt_of_lt_of_le hd0l hl)
  refine arg_n (wpAny_newObj_type ?_)
  generalize hob : ({ cls := .type "list", data := .seq [Value.ref x0, Value.ref x1].toArray } : Obj) = ob
  have J3 := J2.push ob s2.toks (by rw [← hob]; rfl)
  generalize hlr : s2.heap.objs.size = lr at J3
  have hzr : (z2.put lr ob) lr ob := Fz.put_at _ _ _
  generalize hz3 : z2.put lr ob = z3 at J3 hzr
  have hle23 : z2.le z3 := hz3 ▸ Fz.put_le _ _ _
  have hc0 := hc0.at_ fun o e => Heap.get?_push_of_some ob e
  have hc1 := hc1.at_ fun o e => Heap.get?_push_of_some ob e
  have hdz0 : ∀ o, ¬ z3 d0 o := fun o e => by
    rw [← hz3] at e
    exact e.elim (hdz0 o) fun q => Nat.lt_irrefl _ (Nat.lt_of_lt_of_le hd0l (by rw [q.1, ← hlr]; exact g2.size))
  have hdz1 : ∀ o, ¬ z3 d1 o := fun o e => by
    rw [← hz3] at e
    exact e.elim (hdz1 o) fun q => Nat.lt_irrefl _ (Nat.lt_of_lt_of_le hd1l (by rw [q.1, ← hlr]; exact Nat.le_refl _))
  have hcr : env.cells.lookup (Str.ofString "readers") = some (env.locals + 2) := cell_of hcn.2.2.1 rfl
  have hcn' : env.cells.lookup (Str.ofString "names") = some (env.locals + 3) := cell_of hcn.2.2.1 rfl
  have hnew : ∀ b, (b = env.locals ∨ ∃ y, env.cells.lookup y = some b) → d0 ≠ b ∧ d1 ≠ b := fun b hb => by
    have hlb : b < s₁.heap.objs.size := by
      rcases hb with rfl | ⟨y, hy⟩
      · obtain ⟨mm, hn, _⟩ := J.frame.ns; exact hn.lt
      · obtain ⟨⟨_, hv⟩, _⟩ := J.frame.cz _ _ hy; exact hv.lt
    exact ⟨fun e => Nat.lt_irrefl _ (Nat.lt_of_lt_of_le hlb (e ▸ hd0)), fun e => Nat.lt_irrefl _ (Nat.lt_of_lt_of_le hlb (e ▸ Nat.le_trans g1.size hd1))⟩
  refine J3.stC (kind_of hS rfl) hcr (hcn.2.1 _ _ hcr) fun s4 J4 t4 => ?_
  have hc0 := hc0.at_ fun o e => t4.keep d0 o (hnew _ (.inr ⟨_, hcr⟩)).1 e
  have hc1 := hc1.at_ fun o e => t4.keep d1 o (hnew _ (.inr ⟨_, hcr⟩)).2 e
  have H4 := J4.hereN
  with_reducible refine wpAny_execs_cons (asgC hS ?_ (ev_comp (W := No) (xs := [0, 1]) (enc := encN) (p := fun _ => true) (f := fun k => row (restK lines k)) (K := fun _ => True) (own := false) r'.hh hS ?csA ?frA ?lenA (fun _ _ _ _ => trivial) H4 ?srcA ?hsA))
  · rfl
  case csA => exact ⟨rfl, fun _ _ => rfl, fun _ => rfl, nofun, fun _ => rfl, by decide⟩
  case frA => rfl
  case lenA => exact le_line (by show 2 ≤ 10000; (first | with_reducible assumption | with_reducible exact Nat.add_le_add_left (by decide) _ | with_reducible exact Nat.le_trans (by assumption) (by decide) | with_reducible exact Nat.sub_succ_lt_self (by assumption) | with_reducible exact Nat.lt_of_lt_of_le (by assumption) (by assumption) | with_reducible exact Nat.le_trans (by assumption) (by assumption) | decide | omega))
  case hsA => intro _; rfl
  refine ev_01 H4 fun v5 z5 s5 hle5 H5 hr5 => ⟨z5, H5, hr5, trivial, no_lt, ?turnA, ?finA⟩
  case turnA =>
    intro cenv hC k hk v6 z6 s6 E6 hv6 hle6 J6 _ _
    obtain ⟨tk, rfl⟩ := hv6.isInt
    refine wpAny_tests_nil ⟨rfl, z6, Grow.refl J6.inn, trivial, fun _ => ?_⟩
    have hr6 : Rd z6 (.ref l) (.list (lines.map .str)) := hr.mono (J4.grow.le.trans (hle5.trans hle6))
    with_reducible refine ev_compI (W := No) (xs := restK lines k) (enc := PyData.str) (p := fun _ => true) (f := PyData.str) (K := fun _ => True) (own := false) hC ?csB ?frB (le_line (Nat.le_trans (hkl k) (by (first | with_reducible assumption | with_reducible exact Nat.add_le_add_left (by decide) _ | with_reducible exact Nat.le_trans (by assumption) (by decide) | with_reducible exact Nat.sub_succ_lt_self (by assumption) | with_reducible exact Nat.lt_of_lt_of_le (by assumption) (by assumption) | with_reducible exact Nat.le_trans (by assumption) (by assumption) | decide | omega)))) (fun _ _ _ _ => trivial) J6 no_lt ?srcB ?turnB ?finB ?hsB
    case csB => exact ⟨rfl, fun _ _ => rfl, fun _ => rfl, nofun, fun _ => rfl, by decide⟩
    case frB => rfl
    case hsB => intro _; rfl
    case srcB =>
      refine gen_src (n := n) (l := l) (r'.le (by (first | with_reducible assumption | with_reducible exact Nat.add_le_add_left (by decide) _ | with_reducible exact Nat.le_trans (by assumption) (by decide) | with_reducible exact Nat.sub_succ_lt_self (by assumption) | with_reducible exact Nat.lt_of_lt_of_le (by assumption) (by assumption) | with_reducible exact Nat.le_trans (by assumption) (by assumption) | decide | omega))) G fR hgR (kind_of hC rfl) rfl J6 (by rcases mem01 hk with rfl | rfl; exact .inl rfl; exact .inr rfl) hln hr6 fun {Q'} hq => ?_
      refine arg_c rfl (J6.ld rfl (.inr (.inl (kind_of hC rfl))) (arg_c rfl (wpAny_BinOp (J6.ld rfl (.inl (kind_of hC rfl)) (J6.int fun t7 s7 J7 => J7.addInt fun t8 s8 J8 => arg_n (hq t8 s8 J8))))))
    case turnB =>
      intro cenv2 hC2 y hy v7 z7 s7 E7 hv7 hle7 J7 _ _
      refine wpAny_tests_nil ⟨rfl, z7, Grow.refl J7.inn, trivial, fun _ => ?_⟩
      exact J7.ld rfl (.inl (kind_of hC2 rfl)) ⟨z7, Grow.refl J7.inn, hv7, trivial⟩
    case finB =>
      intro v7 z7 s7 hle7 J7 hv7 _ g7
      rw [List.filter_eq_self.mpr fun _ _ => rfl] at hv7
      exact ⟨z7, g7, hv7, trivial⟩
  intro v5 z6 s6 hle6 H6 hv6 _
  rw [List.filter_eq_self.mpr fun _ _ => rfl] at hv6
  have J6 := J4.up H6.grow
  have hc0 := hc0.at_ fun o e => H6.grow.all d0 o e
  have hc1 := hc1.at_ fun o e => H6.grow.all d1 o e
  have hdl0 : d0 < s4.heap.objs.size := Nat.lt_of_lt_of_le (Nat.lt_of_lt_of_le hd0l g2.size) (Nat.le_trans (by simp) t4.size)
  have hdl1 : d1 < s4.heap.objs.size := Nat.lt_of_lt_of_le hd1l (Nat.le_trans (by simp) t4.size)
  have hdz0 : ∀ o, ¬ z6 d0 o := fun o e => (H6.grow.new d0 o e).elim (hdz0 o) fun hl => Nat.lt_irrefl _ (Nat.lt_of_lt_of_le hdl0 hl)
  have hdz1 : ∀ o, ¬ z6 d1 o := fun o e => (H6.grow.new d1 o e).elim (hdz1 o) fun hl => Nat.lt_irrefl _ (Nat.lt_of_lt_of_le hdl1 hl)
  refine J6.stC (kind_of hS rfl) hcn' (hcn.2.1 _ _ hcn') fun s7 J7 t7 => ?_
  have hc0 := hc0.at_ fun o e => t7.keep d0 o (hnew _ (.inr ⟨_, hcn'⟩)).1 e
  have hc1 := hc1.at_ fun o e => t7.keep d1 o (hnew _ (.inr ⟨_, hcn'⟩)).2 e
  have hR0 : Rdr prog w C (restK lines 0) x0 d0 z6 := hR0.mono (g2.le.trans (hle23.trans H6.grow.le))
  have hR1 : Rdr prog w C (restK lines 1) x1 d1 z6 := hR1.mono (hle23.trans H6.grow.le)
  have hzr6 : z6 lr { cls := .type "list", data := .seq [Value.ref x0, Value.ref x1].toArray } := hob ▸ H6.grow.le _ _ hzr
  have hAp : Apart (fun b => b = d0 ∨ b = d1) env := ⟨fun q => q.elim (fun e => (hnew _ (.inl rfl)).1 e.symm) fun e => (hnew _ (.inl rfl)).2 e.symm, fun y c hy q => q.elim (fun e => (hnew _ (.inr ⟨_, hy⟩)).1 e.symm) fun e => (hnew _ (.inr ⟨_, hy⟩)).2 e.symm⟩
  have JW := J7.hereW hAp
  let KK : Heap → Prop := fun hp => Cache prog w ks (restK lines 0) d0 hp ∧ Cache prog w ks (restK lines 1) d1 hp
  have hkeep : ∀ h h' : Heap, (∀ b o, (b = d0 ∨ b = d1) → h.get? b = some o → h'.get? b = some o) → KK h → KK h' := fun h h' hk hK => ⟨hK.1.at_ fun o e => hk d0 o (.inl rfl) e, hK.2.at_ fun o e => hk d1 o (.inr rfl) e⟩
  with_reducible refine wpAny_execs_cons (wpAny_Return_some (ev_call JW G fT hgT (kind_of hS ?_) ?_ ?_ (arg_c ?_ (ev_comp (W := fun b => b = d0 ∨ b = d1) (xs := [0, 1]) (enc := encN) (p := fun _ => true) (f := fun k => row (topOf (restK lines k))) (K := KK) (own := true) r'.hh hS ?csC ?frC ?lenC hkeep JW ?srcC ?hsC))))
  · rfl
  · decide
  · rfl
  · rfl
  case csC => exact ⟨rfl, fun _ _ => rfl, fun _ => rfl, fun _ => rfl, nofun, by decide⟩
  case frC => rfl
  case lenC => exact le_line (by show 2 ≤ 10000; (first | with_reducible assumption | with_reducible exact Nat.add_le_add_left (by decide) _ | with_reducible exact Nat.le_trans (by assumption) (by decide) | with_reducible exact Nat.sub_succ_lt_self (by assumption) | with_reducible exact Nat.lt_of_lt_of_le (by assumption) (by assumption) | with_reducible exact Nat.le_trans (by assumption) (by assumption) | decide | omega))
  case hsC => intro _; rfl
  refine ev_01 JW.hereN fun v8 z8 s8 hle8 H8 hr8 => ?_
  have J8 := JW.up H8.grow.no
  have hc0 := hc0.at_ fun o e => H8.grow.all d0 o e
  have hc1 := hc1.at_ fun o e => H8.grow.all d1 o e
  refine ⟨z8, J8, hr8, ⟨hc0, hc1⟩, ?hW, ?turn2, ?fin2⟩
  case hW =>
    intro b hb
    rcases hb with rfl | rfl
    · exact ⟨hc0.lt, fun o e => (H8.grow.new _ o e).elim (hdz0 o) fun hl => Nat.lt_irrefl _ (Nat.lt_of_lt_of_le (Nat.lt_of_lt_of_le hdl0 (Nat.le_trans H6.grow.size t7.size)) hl)⟩
    · exact ⟨hc1.lt, fun o e => (H8.grow.new _ o e).elim (hdz1 o) fun hl => Nat.lt_irrefl _ (Nat.lt_of_lt_of_le (Nat.lt_of_lt_of_le hdl1 (Nat.le_trans H6.grow.size t7.size)) hl)⟩
  case turn2 =>
    intro cenv hC k hk v9 z9 s9 E9 hv9 hle9 J9 hK9 hW9
    obtain ⟨tk, rfl⟩ := hv9.isInt
    refine wpAny_tests_nil ⟨rfl, z9, Grow.refl J9.inn, hK9, fun _ => ?_⟩
    have hk2 : k < 2 := by rcases mem01 hk with rfl | rfl <;> (first | with_reducible assumption | with_reducible exact Nat.add_le_add_left (by decide) _ | with_reducible exact Nat.le_trans (by assumption) (by decide) | with_reducible exact Nat.sub_succ_lt_self (by assumption) | with_reducible exact Nat.lt_of_lt_of_le (by assumption) (by assumption) | with_reducible exact Nat.le_trans (by assumption) (by assumption) | decide | omega)
    have hr9 : Rd z9 v5 (.list ([0, 1].map fun k => row (restK lines k))) := hv6.mono (hle8.trans hle9)
    obtain ⟨xk, dk, hvk, hWk, hRk, hdk, hKk⟩ : ∃ xk dk, [Value.ref x0, Value.ref x1][k]? = some (.ref xk) ∧ (dk = d0 ∨ dk = d1) ∧ Rdr prog w C (restK lines k) xk dk z9 ∧ (dk == sysModules) = false ∧
        ∀ h : Heap, KK h → Cache prog w ks (restK lines k) dk h ∧ ∀ h' : Heap, (∀ b o, b ≠ dk → h.get? b = some o → h'.get? b = some o) → Cache prog w ks (restK lines k) dk h' → KK h' := by
      rcases mem01 hk with rfl | rfl
      · exact ⟨x0, d0, rfl, .inl rfl, hR0.mono (hle8.trans hle9), hdm0, fun h hK => ⟨hK.1, fun h' hh hc => ⟨hc, hK.2.at_ fun o e => hh d1 o (Ne.symm hd01) e⟩⟩⟩
      · exact ⟨x1, d1, rfl, .inr rfl, hR1.mono (hle8.trans hle9), hdm1, fun h hK => ⟨hK.2, fun h' hh hc => ⟨hK.1.at_ fun o e => hh d0 o hd01 e, hc⟩⟩⟩
    with_reducible refine ev_comp (W := fun b => b = d0 ∨ b = d1) (xs := restK lines k) (enc := PyData.str) (p := fun x => !Txt.contains x dot || tellI (restK lines k) (upS x) == 0) (f := PyData.str) (K := KK) (own := false) r'.hh hC ?csD ?frD (le_line (Nat.le_trans (hkl k) (by (first | with_reducible assumption | with_reducible exact Nat.add_le_add_left (by decide) _ | with_reducible exact Nat.le_trans (by assumption) (by decide) | with_reducible exact Nat.sub_succ_lt_self (by assumption) | with_reducible exact Nat.lt_of_lt_of_le (by assumption) (by assumption) | with_reducible exact Nat.le_trans (by assumption) (by assumption) | decide | omega)))) hkeep J9 ?srcD ?hsD
    case csD => exact ⟨rfl, fun _ _ => rfl, fun _ => rfl, nofun, fun _ => rfl, by decide⟩
    case frD => rfl
    case hsD => intro _; rfl
    with_reducible refine Subscript_ ?_
    refine J9.ld rfl (.inr (.inl (kind_of hC rfl))) (J9.ld rfl (.inr (.inl (kind_of hC rfl))) ?_)
    refine tail_list (k := (k : Nat)) J9.inn hr9 (by (first | with_reducible assumption | with_reducible exact Nat.add_le_add_left (by decide) _ | with_reducible exact Nat.le_trans (by assumption) (by decide) | with_reducible exact Nat.sub_succ_lt_self (by assumption) | with_reducible exact Nat.lt_of_lt_of_le (by assumption) (by assumption) | with_reducible exact Nat.le_trans (by assumption) (by assumption) | decide | omega)) (by (first | with_reducible assumption | with_reducible exact Nat.add_le_add_left (by decide) _ | with_reducible exact Nat.le_trans (by assumption) (by decide) | with_reducible exact Nat.sub_succ_lt_self (by assumption) | with_reducible exact Nat.lt_of_lt_of_le (by assumption) (by assumption) | with_reducible exact Nat.le_trans (by assumption) (by assumption) | decide | omega)) (d := row (restK lines k)) (by rcases mem01 hk with rfl | rfl <;> rfl) fun v10 hr10 => ?_
    refine ⟨z9, J9, hr10, hK9, hW9, fun cenv2 hC2 y hy => ?_, fun v11 z11 s11 hle11 J11 hv11 hK11 => ⟨z11, J11.grow, hv11, hK11⟩⟩
    have hNy := hN k hk2 y hy
    have hyk : upS y ∈ ks := by
      rw [← hks]
      refine List.mem_cons_of_mem _ (List.mem_append.mpr ?_)
      rcases mem01 hk with rfl | rfl
      · exact .inl (List.mem_map.mpr ⟨y, hy, rfl⟩)
      · exact .inr (List.mem_map.mpr ⟨y, hy, rfl⟩)
    have hzr9 := hle9 _ _ (hle8 _ _ hzr6)
    with_reducible refine top_turn (n := n) (x := xk) (d := dk) (k := k) (tk := tk) (lr := lr) (vs := [Value.ref x0, Value.ref x1]) ?_ (r'.le (by (first | with_reducible assumption | with_reducible exact Nat.add_le_add_left (by decide) _ | with_reducible exact Nat.le_trans (by assumption) (by decide) | with_reducible exact Nat.sub_succ_lt_self (by assumption) | with_reducible exact Nat.lt_of_lt_of_le (by assumption) (by assumption) | with_reducible exact Nat.le_trans (by assumption) (by assumption) | decide | omega))) G K fU hgU ?_ ?_ ?_ ?_ ?_ ?_ hk2 hzr9 hvk hWk hRk hdk hksl ?_ hKk hkeep ?_ ⟨hyk, hNy.2⟩
    · rfl
    · exact kind_of hC2 rfl
    · exact kind_of hC2 rfl
    · exact .inl (kind_of hC2 rfl)
    · exact .inl (kind_of hC2 rfl)
    · rfl
    · rfl
    · intro u hu; have := (hN k hk2 u hu).1.1; (first | with_reducible assumption | with_reducible exact Nat.add_le_add_left (by decide) _ | with_reducible exact Nat.le_trans (by assumption) (by decide) | with_reducible exact Nat.sub_succ_lt_self (by assumption) | with_reducible exact Nat.lt_of_lt_of_le (by assumption) (by assumption) | with_reducible exact Nat.le_trans (by assumption) (by assumption) | decide | omega)
    · have := hNy.1.1; (first | with_reducible assumption | with_reducible exact Nat.add_le_add_left (by decide) _ | with_reducible exact Nat.le_trans (by assumption) (by decide) | with_reducible exact Nat.sub_succ_lt_self (by assumption) | with_reducible exact Nat.lt_of_lt_of_le (by assumption) (by assumption) | with_reducible exact Nat.le_trans (by assumption) (by assumption) | decide | omega)
  case fin2 =>
    intro v9 z9 s9 hle9 J9 hv9 hK9
    rw [List.filter_eq_self.mpr fun _ _ => rfl] at hv9
    have hv9 : Rd z9 v9 (.list [row (topOf (restK lines 0)), row (topOf (restK lines 1))]) := hv9
    refine arg_n ⟨z9, J9, tagged_spec (n := n) (r'.le (by (first | with_reducible assumption | with_reducible exact Nat.add_le_add_left (by decide) _ | with_reducible exact Nat.le_trans (by assumption) (by decide) | with_reducible exact Nat.sub_succ_lt_self (by assumption) | with_reducible exact Nat.lt_of_lt_of_le (by assumption) (by assumption) | with_reducible exact Nat.le_trans (by assumption) (by assumption) | decide | omega))) G fT J9.inn J9.base hv9 ?_ ?_ ?_ fun v10 z10 s10 g10 hr10 => ?_⟩
    · have := top_len (restK lines 0); have := top_len (restK lines 1); have := hkl 0; have := hkl 1; (first | with_reducible assumption | with_reducible exact Nat.add_le_add_left (by decide) _ | with_reducible exact Nat.le_trans (by assumption) (by decide) | with_reducible exact Nat.sub_succ_lt_self (by assumption) | with_reducible exact Nat.lt_of_lt_of_le (by assumption) (by assumption) | with_reducible exact Nat.le_trans (by assumption) (by assumption) | decide | omega)
    · intro u hu; exact (hN 0 (by (first | with_reducible assumption | with_reducible exact Nat.add_le_add_left (by decide) _ | with_reducible exact Nat.le_trans (by assumption) (by decide) | with_reducible exact Nat.sub_succ_lt_self (by assumption) | with_reducible exact Nat.lt_of_lt_of_le (by assumption) (by assumption) | with_reducible exact Nat.le_trans (by assumption) (by assumption) | decide | omega)) u (top_mem hu)).1
    · intro u hu; exact (hN 1 (by (first | with_reducible assumption | with_reducible exact Nat.add_le_add_left (by decide) _ | with_reducible exact Nat.le_trans (by assumption) (by decide) | with_reducible exact Nat.sub_succ_lt_self (by assumption) | with_reducible exact Nat.lt_of_lt_of_le (by assumption) (by assumption) | with_reducible exact Nat.le_trans (by assumption) (by assumption) | decide | omega)) u (top_mem hu)).1
    · refine h v10 z10 s10 (J7.grow.then_ (J9.grow.trans g10.no) fun b hb => .inr ?_) hr10
      rcases hb with rfl | rfl
      · exact Nat.le_trans J.grow.size hd0
      · exact Nat.le_trans J.grow.size (Nat.le_trans g1.size hd1)
end NB90
end
section
set_option autoImplicit false
open PySem PySem.W PyProof.Rows
set_option Elab.async false
set_option maxRecDepth 100000
namespace NB90
variable {h₀ : Heap} {mg mb : Str → Option Value} {W : Addr → Prop} {z₀ z z' z₁ : Fz} {s₀ s s' s₁ : Shared} {env : Env} {outer : List Env} {ρ : List (Str × Value)} {prog : Program} {w : World} {A : Around} {E : Value → Shared → Prop} {M : Model}

/-- all that the base has stays, but for the frames' slots -/
structure Sl (F : List Addr) (base h : Heap) : Prop where
  keep : ∀ b o, b ∉ F → base.get? b = some o → h.get? b = some o
  slot : ∀ b o, b ∈ F → base.get? b = some o → ∃ sl, h.get? b = some { o with slots := sl }
variable {F : List Addr} {base : Heap}
theorem Sl.refl (h : Heap) : Sl F h h := ⟨fun _ _ _ e => e, fun _ o _ e => ⟨o.slots, e⟩⟩
theorem Sl.of_keeps {h h' : Heap} (x : Sl F base h) (k : ∀ b o, h.get? b = some o → h'.get? b = some o) : Sl F base h' :=
  ⟨fun b o hb e => k b o (x.keep b o hb e), fun b o hb e => let ⟨sl, e1⟩ := x.slot b o hb e; ⟨sl, k _ _ e1⟩⟩
theorem Sl.isSome {h : Heap} (x : Sl F base h) {b : Addr} {o : Obj} (e : base.get? b = some o) : ∃ o', h.get? b = some o' ∧ o'.data = o.data := by
  by_cases hb : b ∈ F
  · obtain ⟨sl, e1⟩ := x.slot b o hb e; exact ⟨_, e1, rfl⟩
  · exact ⟨o, x.keep b o hb e, rfl⟩
theorem Sl.isNone {h : Heap} (x : Sl F base h) {b : Addr} (e : h.get? b = none) : base.get? b = none := by
  cases q : base.get? b with
  | none => rfl
  | some o => obtain ⟨o', h1, _⟩ := x.isSome q; rw [e] at h1; cases h1
theorem Sl.upd {h : Heap} {a : Addr} (x : Sl F base h) (f : Obj → Obj) (ha : base.get? a = none) : Sl F base (h.update a f) :=
  have other : ∀ b o, base.get? b = some o → (h.update a f).get? b = h.get? b := fun b o hb => Heap.get?_update_other _ _ fun e => by rw [e, hb] at ha; cases ha
  ⟨fun b o hb e => (other b o e).trans (x.keep b o hb e), fun b o hb e => let ⟨sl, e1⟩ := x.slot b o hb e; ⟨sl, (other b o e).trans e1⟩⟩
theorem Sl.of_slots {h h' : Heap} (x : Sl F base h) (y : Heap.SlotsOnly F h h') : Sl F base h' :=
  ⟨fun b o hb e => (y.2.1 b hb).trans (x.keep b o hb e), fun b o hb e => let ⟨sl, e1⟩ := x.slot b o hb e; let ⟨sl', e2⟩ := y.2.2 b _ e1; ⟨sl', e2⟩⟩
theorem Sl.ns {h : Heap} {a : Addr} {m : Str → Option Value} (x : Sl F base h) (hn : base.Ns a m) : h.Ns a m := by
  obtain ⟨o, es, ep, ho, hd, r⟩ := hn
  obtain ⟨o', ho', hd'⟩ := x.isSome ho
  exact ⟨o', es, ep, ho', hd'.trans hd, r⟩

/-- the frames on the stack -/
noncomputable def Frs (base : Heap) (l : List Env) : Prop := ∀ env ∈ l, env.scope.kind ≠ .module ∧ ∃ L o, env.frame = some L ∧ base.get? L = some o ∧ ∀ vs, o.data ≠ .fields vs
theorem Frs.funs {h : Heap} {l : List Env} (x : Frs base l) (k : Sl F base h) (s : Shared) : h.FunFrames (noS s).heap l := by
  induction l with
  | nil => trivial
  | cons env l ih =>
    obtain ⟨h1, L, o, h2, h4, h5⟩ := x env List.mem_cons_self
    obtain ⟨o', h6, h7⟩ := k.isSome h4
    exact ⟨h1, ⟨L, o', h2, noS_none _ _, h6, fun vs q => h5 vs (h7 ▸ q)⟩, ih fun e he => x e (List.mem_cons_of_mem _ he)⟩
theorem Frs.not {l : List Env} (x : Frs base l) {e : Addr} (he : base.get? e = none) : e ∉ l.filterMap (·.frame) := fun ha => by
  obtain ⟨env, hm, hf⟩ := List.mem_filterMap.mp ha
  obtain ⟨_, L, o, h2, h3, _⟩ := x env hm
  rw [h2] at hf; cases hf; rw [he] at h3; cases h3

/-- an exception: its context, and where its traceback stands -/
inductive Exc (base h : Heap) (e : Addr) (cls : String) (ctx : Value) (fl : Option Value) : Prop
  | mk (oe : Obj) (vs : Array Value) : h.get? e = some oe → oe.cls = .type cls → oe.data = .fields vs → vs.size = 6 → vs[2]? = some ctx → base.get? e = none →
    ((fl = none ∧ vs[1]? = some .none) ∨ ∃ f T oT ts, fl = some f ∧ vs[1]? = some (.ref T) ∧ T ≠ e ∧ base.get? T = none ∧ h.get? T = some oT ∧ oT.data = .fields ts ∧ ts[3]? = some f) → Exc base h e cls ctx fl
theorem Exc.typeIs {e : Addr} {cls : String} {ctx : Value} {fl : Option Value} (x : Exc base s.heap e cls ctx fl) : s.TypeIs (.ref e) cls := by obtain ⟨oe, _, he, hc⟩ := x; exact ⟨oe, he, hc⟩
theorem Exc.keeps {h h' : Heap} {e : Addr} {cls : String} {ctx : Value} {fl : Option Value} (x : Exc base h e cls ctx fl) (k : ∀ b o, h.get? b = some o → h'.get? b = some o) : Exc base h' e cls ctx fl := by
  obtain ⟨oe, vs, h1, h2, h3, h4, h5, h6, h7⟩ := x
  refine ⟨oe, vs, k _ _ h1, h2, h3, h4, h5, h6, ?_⟩
  rcases h7 with h7 | ⟨f, T, oT, ts, a1, a2, a3, a4, a5, a6, a7⟩
  · exact .inl h7
  · exact .inr ⟨f, T, oT, ts, a1, a2, a3, a4, k _ _ a5, a6, a7⟩
theorem Exc.of_new {h h' : Heap} {e : Addr} {cls : String} (x : Heap.NewExc h h' e cls) (k : Sl F base h) : Exc base h' e cls .none none := by
  obtain ⟨ob, t, h1, h2, h3⟩ := x.there
  exact ⟨ob, _, h1, h2, h3, rfl, rfl, k.isNone x.new, .inl ⟨rfl, rfl⟩⟩

theorem entry_ex {L e : Addr} {oe : Obj} {vs : Array Value} {head ctx : Value} {cls : String} {hadNext : Bool} {Q : Unit → Shared → Prop} (hfr : A.frames = some (env :: outer)) (hF : Frs base (env :: outer)) (hf : env.frame = some L) (hsub : ∀ a ∈ (env :: outer).filterMap (·.frame), a ∈ F) (k : Sl F base s.heap)
    (he : s.heap.get? e = some oe) (hc : oe.cls = .type cls) (hd : oe.data = .fields vs) (hsz : vs.size = 6) (h2 : vs[2]? = some ctx) (hlo : base.get? e = none)
    (h : ∀ h', Sl F base h' → Exc base h' e cls ctx (some (rawInt L)) → Q () { s with heap := h' }) :
    wpAny M A (do let a ← frameOf env; let pl ← entryPlaceOf L hadNext; let b ← EntryCells.newEntry head a .none (rawInt L) .none pl; setField (.ref e) 1 b) Q E s := by
  have hene : e ∉ (env :: outer).filterMap (·.frame) := hF.not hlo
  refine wpAny_bind (wpAny_frameOf_fun hfr (hF.funs k s) hf fun h₁ hs₁ => ?_)
  refine wpAny_bind (wpAny_entryPlaceOf fun pl hpl => ?_)
  unfold EntryCells.newEntry newFields
  refine wpAny_bind (wpAny_newObj_type ?_ (hpl.sizeOk5 _ _ _ _ _))
  have he₁ : h₁.get? e = some oe := (hs₁.2.1 e hene).trans he
  generalize hT : ({ cls := .type "traceback", dict := none, data := .fields ([head, .ref L, .none, rawInt L, .none] ++ (if pl.isEmpty then List.replicate 6 Value.none else pl)).toArray } : Obj) = ot
  have hof : ot.isFreed = false := by rw [← hT]; rfl
  have he₂ := Heap.get?_push_of_some (h := h₁) ot he₁
  have k₁ := k.of_slots (hs₁.mono hsub)
  have hnew : base.get? h₁.objs.size = none := k₁.isNone (Heap.get?_none_of_le (Nat.le_refl _))
  refine wpAny_setField he₂ hd (by (first | with_reducible assumption | with_reducible exact Nat.add_le_add_left (by decide) _ | with_reducible exact Nat.le_trans (by assumption) (by decide) | with_reducible exact Nat.sub_succ_lt_self (by assumption) | with_reducible exact Nat.lt_of_lt_of_le (by assumption) (by assumption) | with_reducible exact Nat.le_trans (by assumption) (by assumption) | decide | omega)) (h _ ?_ ?_)
  · exact (k₁.of_keeps (fun b o e => Heap.get?_push_of_some _ e)).upd _ hlo
  · have hTe : h₁.objs.size ≠ e := Nat.ne_of_gt (Heap.lt_size he₁)
    have hd₃ := Obj.data_mapFields hd (·.setIfInBounds 1 (Value.ref h₁.objs.size))
    have he₃ := Heap.get?_update_self (Obj.mapFields (·.setIfInBounds 1 (Value.ref h₁.objs.size))) he₂ (Obj.isFreed_of_fields hd₃)
    have hT₃ := (Heap.get?_update_other (h₁.push ot) (Obj.mapFields (·.setIfInBounds 1 (Value.ref h₁.objs.size))) (Ne.symm hTe)).trans (Heap.get?_push_size h₁ hof)
    exact ⟨_, _, he₃, (Obj.cls_mapFields _ _).trans hc, hd₃, by simp [hsz], by rw [Array.getElem?_setIfInBounds_ne (by decide)]; exact h2, hlo,
      .inr ⟨_, h₁.objs.size, ot, _, rfl, by simp [hsz], hTe, hnew, hT₃, by rw [← hT], by first | (simp; done) | (rcases hpl with rfl | ⟨_, _, _, _, _, _, _, rfl⟩ <;> simp)⟩⟩

theorem note_ex {L e : Addr} {ctx : Value} {cls : String} {fl : Option Value} {Q : Unit → Shared → Prop} (hfr : A.frames = some (env :: outer)) (hF : Frs base (env :: outer)) (hf : env.frame = some L) (hsub : ∀ a ∈ (env :: outer).filterMap (·.frame), a ∈ F) (k : Sl F base s.heap) (hx : Exc base s.heap e cls ctx fl) (hfl : fl = none ∨ fl = some .none)
    (h : ∀ h', Sl F base h' → Exc base h' e cls ctx (some (rawInt L)) → Q () { s with heap := h' }) : wpAny M A (noteFrame (.ref e) env) Q E s := by
  obtain ⟨oe, vs, he, hc, hd, hsz, h2, hlo, hT⟩ := hx
  unfold noteFrame
  simp only [hf]
  rcases hT with ⟨_, h1⟩ | ⟨f, T, oT, ts, hf', h1, hTe, hTlo, hoT, hdT, h3⟩
  · refine wpAny_bind (wpAny_field he hd h1 ?_)
    rw [if_neg (by decide)]
    exact entry_ex hfr hF hf hsub k he hc hd hsz h2 hlo h
  · obtain rfl : f = .none := by rcases hfl with q | q <;> rw [q] at hf' <;> cases hf'; rfl
    refine wpAny_bind (wpAny_field he hd h1 ?_)
    rw [if_pos (show (Value.ref T != Value.none) = true from by simp)]
    refine wpAny_bind (wpAny_field hoT hdT h3 ?_)
    rw [if_neg (show ¬ ((Value.none == rawInt L) = true) from by simp [rawInt])]
    refine wpAny_bind (wpAny_setField hoT hdT (Array.getElem?_eq_some_iff.mp h3).1 ?_)
    exact entry_ex hfr hF hf hsub (k.upd _ hTlo) ((Heap.get?_update_other _ _ hTe).trans he) hc hd hsz h2 hlo h

theorem note_again {L e : Addr} {ctx : Value} {cls : String} {Q : Unit → Shared → Prop} (hf : env.frame = some L) (hx : Exc base s.heap e cls ctx (some (rawInt L))) (h : Q () s) : wpAny M A (noteFrame (.ref e) env) Q E s := by
  obtain ⟨oe, vs, he, hc, hd, hsz, h2, hlo, hT⟩ := hx
  unfold noteFrame
  simp only [hf]
  rcases hT with ⟨q, _⟩ | ⟨f, T, oT, ts, hf', h1, hTe, hTlo, hoT, hdT, h3⟩
  · cases q
  · cases hf'
    refine wpAny_bind (wpAny_field he hd h1 ?_)
    rw [if_pos (show (Value.ref T != Value.none) = true from by simp)]
    refine wpAny_bind (wpAny_field hoT hdT h3 ?_)
    rw [if_pos (show (rawInt L == rawInt L) = true from by simp)]
    exact wpAny_pure h

noncomputable def flV (f : Option Addr) : Value := f.elim .none fun f => rawInt f
theorem flight_ex {e : Addr} {ctx f : Value} {cls : String} {fr : Option Addr} {Q : Unit → Shared → Prop} (k : Sl F base s.heap) (hx : Exc base s.heap e cls ctx (some f))
    (h : ∀ h', Sl F base h' → Exc base h' e cls ctx (some (flV fr)) → Q () { s with heap := h' }) : wpAny M A (setFlight (.ref e) fr) Q E s := by
  obtain ⟨oe, vs, he, hc, hd, hsz, h2, hlo, hT⟩ := hx
  unfold setFlight
  rcases hT with ⟨q, _⟩ | ⟨f, T, oT, ts, hf', h1, hTe, hTlo, hoT, hdT, h3⟩
  · cases q
  · refine wpAny_bind (wpAny_field he hd h1 ?_)
    rw [if_pos (show (Value.ref T != Value.none) = true from by simp)]
    have hs3 := (Array.getElem?_eq_some_iff.mp h3).1
    refine wpAny_setField hoT hdT hs3 (h _ (k.upd _ hTlo) ?_)
    exact ⟨oe, vs, (Heap.get?_update_other _ _ hTe).trans he, hc, hd, hsz, h2, hlo, .inr ⟨_, T, _, _, rfl, h1, hTe, hTlo, Heap.get?_update_self _ hoT (Obj.isFreed_of_fields (Obj.data_mapFields hdT _)), Obj.data_mapFields hdT _, by simp [hs3, flV]⟩⟩
theorem flight_none {e : Addr} {ctx : Value} {cls : String} {fr : Option Addr} {Q : Unit → Shared → Prop} (hx : Exc base s.heap e cls ctx none) (h : Q () s) : wpAny M A (setFlight (.ref e) fr) Q E s := by
  obtain ⟨oe, vs, he, hc, hd, hsz, h2, hlo, hT⟩ := hx
  unfold setFlight
  rcases hT with ⟨_, h1⟩ | ⟨f, T, oT, ts, hf', _⟩
  · refine wpAny_bind (wpAny_field he hd h1 ?_)
    rw [if_neg (by decide)]
    exact wpAny_pure h
  · cases hf'
theorem came_back {e : Addr} {ctx f : Value} {cls : String} (k : Sl F base s.heap) (hx : Exc base s.heap e cls ctx (some f))
    (h : ∀ h', Sl F base h' → Exc base h' e cls ctx (some (flV env.frame)) → E (.ref e) { s with heap := h' }) : cameBackBy M A env E (.ref e) s := by
  unfold cameBackBy
  obtain ⟨oe, vs, he, hc, hd, hsz, h2, hlo, hT⟩ := id hx
  rcases hT with ⟨q, _⟩ | ⟨f, T, oT, ts, hf', h1, hTe, hTlo, hoT, hdT, h3⟩
  · cases q
  · refine wpAny_bind (wpAny_field he hd h1 ?_)
    rw [if_neg (by simp)]
    exact flight_ex k hx h
end NB90
end
section
set_option autoImplicit false
open PySem PySem.W PyProof.Rows
set_option Elab.async false
set_option maxRecDepth 100000
namespace NB90
variable {h₀ : Heap} {mg mb : Str → Option Value} {W : Addr → Prop} {z₀ z z' z₁ : Fz} {s₀ s s' s₁ : Shared} {env : Env} {outer : List Env} {ρ : List (Str × Value)} {prog : Program} {w : World} {A : Around} {E : Value → Shared → Prop} {M : Model} {F : List Addr} {base : Heap}

theorem entry_unchain : entryFor table "proto.unchain" = some Builtin.«proto.unchain» := entryFor_of_tree (by kernel_rfl)

theorem Exc.upd {h : Heap} {e : Addr} {cls : String} {ctx v : Value} {fl : Option Value} {i : Nat} (hx : Exc base h e cls ctx fl) (hi1 : i ≠ 1) (hi : i < 6) : Exc base (h.update e (Obj.mapFields (·.setIfInBounds i v))) e cls (if i = 2 then v else ctx) fl := by
  obtain ⟨oe, vs, he, hc, hd, hsz, h2, hlo, hT⟩ := hx
  have hd₃ := Obj.data_mapFields hd (·.setIfInBounds i v)
  have he₃ := Heap.get?_update_self (Obj.mapFields (·.setIfInBounds i v)) he (Obj.isFreed_of_fields hd₃)
  refine ⟨_, _, he₃, (Obj.cls_mapFields _ _).trans hc, hd₃, by simp [hsz], ?_, hlo, ?_⟩
  · split
    · rename_i q; subst q; simp [hsz]
    · rename_i q; rw [Array.getElem?_setIfInBounds_ne (Ne.symm (Ne.symm q))]; exact h2
  · rcases hT with ⟨q, h1⟩ | ⟨f, T, oT, ts, hf', h1, hTe, hTlo, hoT, hdT, h3⟩
    · exact .inl ⟨q, by rw [Array.getElem?_setIfInBounds_ne hi1]; exact h1⟩
    · exact .inr ⟨f, T, oT, ts, hf', by rw [Array.getElem?_setIfInBounds_ne hi1]; exact h1, hTe, hTlo, (Heap.get?_update_other _ _ (Ne.symm hTe)).trans hoT, hdT, h3⟩
theorem set_ex {e : Addr} {cls : String} {ctx v : Value} {fl : Option Value} {i : Nat} {Q : Unit → Shared → Prop} (hx : Exc base s.heap e cls ctx fl) (hi1 : i ≠ 1) (hi : i < 6)
    (k : Sl F base s.heap) (h : ∀ h', Sl F base h' → (∀ b, b ≠ e → h'.get? b = s.heap.get? b) → Exc base h' e cls (if i = 2 then v else ctx) fl → Q () { s with heap := h' }) : wpAny M A (setField (.ref e) i v) Q E s := by
  obtain ⟨oe, vs, he, hc, hd, hsz, h2, hlo, hT⟩ := id hx
  exact wpAny_setField he hd (by (first | with_reducible assumption | with_reducible exact Nat.add_le_add_left (by decide) _ | with_reducible exact Nat.le_trans (by assumption) (by decide) | with_reducible exact Nat.sub_succ_lt_self (by assumption) | with_reducible exact Nat.lt_of_lt_of_le (by assumption) (by assumption) | with_reducible exact Nat.le_trans (by assumption) (by assumption) | decide | omega)) (h _ (k.upd _ hlo) (fun b hb => Heap.get?_update_other _ _ (Ne.symm hb)) (hx.upd hi1 hi))
theorem upd_ex {e : Addr} {cls : String} {ctx v : Value} {fl : Option Value} {i : Nat} {Q : Unit → Shared → Prop} (hx : Exc base s.heap e cls ctx fl) (hi1 : i ≠ 1) (hi : i < 6)
    (k : Sl F base s.heap) (h : ∀ h', Sl F base h' → (∀ b, b ≠ e → h'.get? b = s.heap.get? b) → Exc base h' e cls (if i = 2 then v else ctx) fl → Q () { s with heap := h' }) : wpAny M A (updateField e i v) Q E s := by
  obtain ⟨oe, vs, he, hc, hd, hsz, h2, hlo, hT⟩ := id hx
  unfold updateField
  refine wpAny_bind (wpAny_load he ?_)
  rw [hd]
  dsimp only
  rw [if_pos (by (first | with_reducible assumption | with_reducible exact Nat.add_le_add_left (by decide) _ | with_reducible exact Nat.le_trans (by assumption) (by decide) | with_reducible exact Nat.sub_succ_lt_self (by assumption) | with_reducible exact Nat.lt_of_lt_of_le (by assumption) (by assumption) | with_reducible exact Nat.le_trans (by assumption) (by assumption) | decide | omega))]
  exact wpAny_update he (h _ (k.upd _ hlo) (fun b hb => Heap.get?_update_other _ _ (Ne.symm hb)) (hx.upd hi1 hi))

theorem exc_inst {e : Addr} {ctx : Value} {fl : Option Value} {c : String} {Q : Value → Shared → Prop} (hx : Exc base s.heap e "ValueError" ctx fl) (h : Q (.ref e) s) : wpAny M A (excFromValue (.ref e) c) Q E s := by
  have hsub := PySem.F.excRaise_ValueError.isExc
  obtain ⟨⟨oc, od, dt, sl⟩, vs, he, hc, hd, _⟩ := hx
  obtain ⟨hp, g, d, tk, os⟩ := s
  simp only at hc hd
  subst hc hd
  unfold excFromValue isExcClass
  repeat (first | refine wpAny_loadPart he ?_ | wp_step)
  exact h
theorem raised_inst {e : Addr} {ctx : Value} {fl : Option Value} {Q : Value → Shared → Prop} (hx : Exc base s.heap e "ValueError" ctx fl) (h : Q (.ref e) s) : wpAny M A (raisedInstance (.ref e)) Q E s := by
  have hmeta := PySem.F.excRaise_ValueError.plainMeta
  obtain ⟨⟨oc, od, dt, sl⟩, vs, he, hc, hd, _⟩ := hx
  obtain ⟨hp, g, d, tk, os⟩ := s
  simp only at hc hd
  subst hc hd
  unfold raisedInstance
  repeat (first | refine wpAny_loadPart he ?_ | wp_step)
  exact h
theorem type_inst {e : Addr} {ctx : Value} {fl : Option Value} {Q : Bool → Shared → Prop} (hx : Exc base s.heap e "ValueError" ctx fl) (h : Q false s) : wpAny M A (isType (.ref e)) Q E s := by
  obtain ⟨⟨oc, od, dt, sl⟩, vs, he, hc, hd, _⟩ := hx
  obtain ⟨hp, g, d, tk, os⟩ := s
  simp only at hc hd
  subst hc hd
  repeat (first | refine wpAny_loadPart he ?_ | wp_step)
  exact h

theorem unchain_none {e e1 : Addr} {Q : Value → Shared → Prop} (hx : ∃ oe vs, s.heap.get? e1 = some oe ∧ oe.data = .fields vs ∧ vs[2]? = some .none) (h : Q .none s) :
    wpAny (model prog w) A (runValue (.builtin "proto.unchain" ⟨[.ref e, .ref e1, .ref e1, .bool false], []⟩)) Q E s := by
  obtain ⟨oe, vs, he, hd, h2⟩ := hx
  refine wpAny_runValue (codeAny_builtin entry_unchain ?_)
  unfold Builtin.«proto.unchain»
  refine wpAny_bind (wpAny_field he hd h2 ?_)
  rw [if_pos (by rfl)]
  exact wpAny_pure h

/-- «raise x from None» where another one is being handled -/
theorem raise_from {e1 : Addr} {x : Expr} {k : Nat} {p pos : Pos} {fl : Option Value} {Q : Flow → Shared → Prop} (hA : A.handled = some (.ref e1))
    (h : wpAny (model prog w) A (eval x env) (fun v s₁ => ∃ e t, v = .ref e ∧ s₁.heap.get? e = some { cls := .type "ValueError", data := .fields #[.ref t, .none, .none, .none, .bool false, .none] } ∧ base.get? e = none ∧ Sl F base s₁.heap ∧
      Exc base s₁.heap e1 "KeyError" .none fl ∧ e ≠ e1 ∧ ∀ h', Sl F base h' → Exc base h' e "ValueError" (.ref e1) none → E (.ref e) { s₁ with heap := h' }) E s) :
    wpAny (model prog w) A (exec (.Raise (some x) (some (.Constant .none k p)) pos) env) Q E s := by
  rw [arm_exec_Raise]
  refine wpAny_bind (wpAny_standAt ?_)
  show wpAny _ A (raiseStmt env (some (do let v ← eval x env; standAt pos; pure v)) (some (do let v ← eval (.Constant .none k p) env; standAt pos; pure v))) Q E s
  unfold raiseStmt
  refine wpAny_bind (wpAny_bind (wpAny_mono h (fun v s₁ h₁ => wpAny_bind (wpAny_standAt (wpAny_pure ?_))) fun _ _ e => e))
  obtain ⟨e, t, rfl, he, hlo, k0, hx1, hne, hE⟩ := h₁
  refine wpAny_bind (wpAny_holding (wpAny_bind (cnone (wpAny_bind (wpAny_standAt (wpAny_pure (wpAny_bind (wpAny_pure ?_))))))))
  have hx : Exc base s₁.heap e "ValueError" .none none := ⟨_, _, he, rfl, rfl, rfl, rfl, hlo, .inl ⟨rfl, rfl⟩⟩
  refine wpAny_bind (wpAny_holding (exc_inst hx ?_))
  refine wpAny_bind (wpAny_pure ?_)
  refine wpAny_bind (set_ex hx (by decide) (by decide) k0 fun h3 k3 o3 x3 => ?_)
  refine wpAny_bind (set_ex (s := { s₁ with heap := h3 }) x3 (by decide) (by decide) k3 fun h4 k4 o4 x4 => ?_)
  have x4 : Exc base h4 e "ValueError" .none none := x4
  show wpAny _ _ (isType (.ref e) >>= _) _ _ _
  refine wpAny_bind (type_inst (s := { s₁ with heap := h4 }) x4 ?_)
  rw [if_neg Bool.false_ne_true]
  refine wpAny_bind (raised_inst (s := { s₁ with heap := h4 }) x4 ?_)
  refine wpAny_bind (flight_none (s := { s₁ with heap := h4 }) x4 ?_)
  unfold raiseNew
  refine wpAny_bind (wpAny_handled ?_)
  rw [hA]
  dsimp only
  rw [if_pos (by simpa using Ne.symm hne)]
  have hx1' : ∃ oe vs, h4.get? e1 = some oe ∧ oe.data = .fields vs ∧ vs[2]? = some Value.none := by
    obtain ⟨oe, vs, a1, a2, a3, a4, a5, a6, a7⟩ := hx1
    exact ⟨oe, vs, ((o4 _ (Ne.symm hne)).trans (o3 _ (Ne.symm hne))).trans a1, a3, a5⟩
  refine wpAny_bind (wpAny_holding (unchain_none (s := { s₁ with heap := h4 }) hx1' ?_))
  refine wpAny_bind (upd_ex (s := { s₁ with heap := h4 }) x4 (by decide) (by decide) k4 fun h5 k5 o5 x5 => ?_)
  exact wpAny_throw (hE h5 k5 x5)
end NB90
end
section
set_option autoImplicit false
open PySem PySem.W PyProof.Rows
set_option Elab.async false
set_option maxRecDepth 100000
namespace NB90
theorem repr_under {prog : Program} {w : World} {A : Around} {E : Value → Shared → Prop} {s : Shared} {b : Nat} {a : Int} {t : Tok} {Q : Value → Shared → Prop} (ha : a.natAbs.log2 < 1920) (h : Q (.str (Str.ofString (toString a)) s.toks) { s with toks := s.toks + 1 }) :
    wpAny (model prog w) A (pyReprObjUnder b (.int a t)) Q E s := by
  unfold pyReprObjUnder pyReprObjBy
  have hv : [Value.int a t].any Value.onHeap = false := rfl
  simp only [cRoomFor, hv, Bool.false_eq_true, if_false, pure_bind]
  refine wpAny_bind (wpAny_specialOf (name := Str.ofString "__repr__") (typeIs_int s a t) F.slot_int_repr.lookup ?_)
  refine wpAny_bind (wpAny_callSpecialIfBoundBy?_slotG (name := Str.ofString "__repr__") (typeIs_int s a t) F.slot_int_repr.toG ?_)
  refine wpAny_mono (call_gives F.slot_int_repr (typeIs_int s a t) F.entry_int_repr (F.args_int_repr_1 _) (gives_int_repr a t ha) (Q := fun v s' => (∃ x u, v = .str x u) ∧ Q v s') ⟨int_text_fits ha, ⟨_, _, rfl⟩, h⟩) (fun v s' hv => ?_) fun _ _ x => x
  obtain ⟨⟨x, u, rfl⟩, hq⟩ := hv
  exact wpAny_bind (wpAny_isInstance (T := "str") (b := true) rfl isSubtype_str_str (wpAny_pure hq))

theorem fmt_r {prog : Program} {w : World} {A : Around} {E : Value → Shared → Prop} {s : Shared} {t u : Tok} {Q : Value → Shared → Prop} (h : ∀ (T : Str) t' k, Q (.str T t') { s with toks := k }) :
    wpAny (model prog w) A (binaryOp .Mod (.str (Str.ofString "unknown delta choice (must be 1 or 2): %r") t) (.int 3 u)) Q E s := by
  refine' KPc.mod_lit (T := Str.ofString "unknown delta choice (must be 1 or 2): 3") ?e (by decide +kernel) ?m (fun t' k => h _ t' k)
  case e => kpc_eq
  intros
  apply KPc.meets_of
  intro _ _ _ _ _ _ _
  rw [KPc.entry_is]
  unfold Builtin.Str.percentFormat
  refine wpAny_bind (wpAny_isInstance (typeIs_int _ _ _) F.sub_int_tuple ?_)
  refine wpAny_bind (wpAny_of_eq (a := none) rfl ?_)
  refine wpAny_bind (wpAny_of_eq (KPc.fills _ _) ?_)
  kpc_if
  refine wpAny_bind (wpAny_pure ?_)
  refine wpAny_bind ?_
  rw [KPc.range_list]
  refine KPc.start ?_
  intro _ _
  refine KPc.turn ?_; kpc_check; (repeat kpc_if)
  refine wpAny_pure ?_; kpc_piece
  refine KPc.turn ?_; kpc_check; (repeat kpc_if)
  refine wpAny_bind ?_; refine wpAny_holding ?_; (repeat kpc_if)
  refine wpAny_bind (repr_under (by decide +kernel) ?_)
  refine wpAny_bind (wpAny_of_eq (a := some _) rfl ?_)
  refine wpAny_pure ?_
  refine wpAny_pure ?_
  kpc_piece
  kpc_turns
end NB90
end
section
set_option autoImplicit false
open PySem PySem.W PyProof.Rows
set_option Elab.async false
set_option maxRecDepth 100000
namespace NB90
variable {h₀ : Heap} {mg mb : Str → Option Value} {W : Addr → Prop} {z₀ z z' z₁ : Fz} {s₀ s s' s₁ : Shared} {env : Env} {outer : List Env} {ρ : List (Str × Value)} {prog : Program} {w : World} {A : Around} {E : Value → Shared → Prop} {M : Model} {F : List Addr} {base : Heap}

/-- «{1: '- ', 2: '+ '}[int(which)]» where which is neither -/
theorem ev_tag3 {tk : Tok} {p1 p2 p3 p4 p5 p6 p7 p8 p9 : Pos} {Q : Value → Shared → Prop} (J : Inn h₀ W z₀ s₀ env ρ z s) (G : Gd h₀ mg mb) (hh : A.handled = none) (hw : ρ.lookup (Str.ofString "which") = some (.int 3 tk))
    (hk1 : env.kindOf (Str.ofString "which") = some .local) (hk2 : env.kindOf (Str.ofString "int") = some .globalImplicit)
    (h : ∀ e s' h' k, Inn h₀ W z₀ s₀ env ρ z s' → Heap.NewExc s'.heap h' e "KeyError" → E (.ref e) { s' with heap := h', toks := k }) :
    wpAny (model prog w) A (eval (.Subscript (.Dict [some (.Constant (.int 1) 0 p1), some (.Constant (.int 2) 0 p2)] [.Constant (.str (Str.ofString "- ")) 0 p3, .Constant (.str (Str.ofString "+ ")) 0 p4] p5)
      (.Call (.Name (Str.ofString "int") p6) [.Name (Str.ofString "which") p7] [] p8) p9) env) Q E s := by
  have hq1 : litPairs [some (.Constant (.int 1) 0 p1), some (.Constant (.int 2) 0 p2)] [.Constant (.str (Str.ofString "- ")) 0 p3, .Constant (.str (Str.ofString "+ ")) 0 p4] = some [(.int 1, .str (Str.ofString "- ")), (.int 2, .str (Str.ofString "+ "))] := rfl
  with_reducible refine Subscript_ (Dict_lits_int hq1 ?_ ?_ ?_ ?_ ?_ ?_ ?_)
  · rfl
  · decide
  · rfl
  · rfl
  · simp
  · show 2 ≤ 15; decide
  intro a o h₁ tk' ha ho T hkp
  have hsz : s.heap.objs.size ≤ h₁.objs.size := Nat.le_trans ha (Nat.le_of_lt (Heap.lt_size ho))
  have J1 : Inn h₀ W z₀ s₀ env ρ z { s with heap := h₁, toks := tk' } := J.to (To.heap hkp hsz No)
  with_reducible refine ev_callT J1 G G.int.1 G.int.2 hk2 ?_ ?_ ?_
  · decide
  · rfl
  refine J1.ld hw (.inl hk1) (call_int_int ?_)
  obtain ⟨kvs, hd, hf⟩ := T
  have hD : h₁.DictOf (intKind prog w) a kvs := Heap.dictOf_iff.mpr ⟨o, ho, hd⟩
  have hv : valueAt kvs 3 = none := by
    cases hf with
    | cons h1 h2 => cases h2 with
      | cons h3 h4 => cases h4; rfl
  refine tail_any hD.typeIs slot_dict_getitem.lookup (wpAny_getItem_missing_of (intKind_is prog w 3 tk) (not_modules G J.inn J.base ha) hh hD.mapOf hv fun h' e x => h e _ h' _ J1 x) rfl

theorem sub_ke_base : isSubtype (.type "KeyError") (.type "BaseException") = pure true := by rw [isSubtype_type]; kernel_rfl
theorem sub_ke_ke : isSubtype (.type "KeyError") (.type "KeyError") = pure true := by rw [isSubtype_type]; kernel_rfl
theorem sub_ve_ve : isSubtype (.type "ValueError") (.type "ValueError") = pure true := by rw [isSubtype_type]; kernel_rfl
theorem ke_meta : isSubtype (.type ((Manifest.find? "KeyError").elim "type" fun x => x.metatype)) (.type "tuple") = pure false := by rw [isSubtype_type]; kernel_rfl
theorem ve_meta : isSubtype (.type ((Manifest.find? "ValueError").elim "type" fun x => x.metatype)) (.type "tuple") = pure false := by rw [isSubtype_type]; kernel_rfl

theorem bfalse_of_mark (e : Value) : (A.mark (some e)).handled = some e := rfl

/-- the end of a generator that is refused -/
noncomputable def gE (base : Heap) (F : List Addr) : GenEnd := fun _ sB r s => ∃ e ctx, r = .error (.ref e) ∧ Sl F base s.heap ∧ Exc base s.heap e "ValueError" ctx (some .none) ∧ s.os = sB.os ∧ (∀ (i : Nat) (x : GenState), sB.gens[i]? = some x → s.gens[i]? = some x) ∧ (AllBare sB.gens → AllBare s.gens)

theorem frame_sl {h : Heap} (f : Fm z base env ρ) (k : Sl F base h) (hc : ∀ y c, env.cells.lookup y ≠ some c) : Fm z h env ρ :=
  { f with
    ns := let ⟨m, hn, hm⟩ := f.ns; ⟨m, k.ns hn, hm⟩
    cell := fun y v hk' hv => let ⟨c, hc', _⟩ := f.cell y v hk' hv; absurd hc' (hc y c)
    cz := fun y c hc' => absurd hc' (hc y c) }

theorem gen_body3 {m n : Nat} {l : Addr} {tk : Tok} {BB : List Stmt} {Y : Protocol} {K : Flow → Sem Fin} (r : Room A (m + 1)) (G : Gd h₀ mg mb) (hb : Base h₀ z) (hS : env.scope = pScopeRestore.1) (hc : ∀ y c, env.cells.lookup y ≠ some c) (hfr : A.frames = some outer) (hF : Frs s.heap (env :: outer)) (hfrm : env.frame = some env.locals)
    (hfm : Fm z s.heap env [(Str.ofString "which", .int 3 tk), (Str.ofString "delta", .ref l)]) (hz : z.In s.heap) (hzF : ∀ a o, z a o → a ∉ (env :: outer).filterMap (·.frame)) :
    Seg (model prog w) A (gE s.heap ((env :: outer).filterMap (·.frame))) Y n s (.func BB env) ((execs pBodyRestore.1 env).wrap K (fun e => (leaving env e).wrap (fun _ => .raise e) .raise id id) id id) [] s := by
  have J := Inn.freeAt hfm hz hb
  have rr := room_func (env := env) (B := BB) r
  have hAf : (A.over (.func BB env) []).frames = some (env :: outer) := by
    show pushEnvs [env] (pushEnvs [] A.frames) = _
    rw [hfr]; rfl
  generalize hAA : A.over (.func BB env) [] = AA at *
  generalize hFF : (env :: outer).filterMap (·.frame) = FF at *
  simp only [pBodyRestore]
  with_reducible refine seg_execs_cons (seg_wrap ?_)
  rw [hAA]
  with_reducible refine wpAny_Try_except (wpAny_execs_cons (asg ?_ ?_))
  · rfl
  with_reducible refine ev_tag3 (tk := tk) J.here G rr.hh ?_ ?_ ?_ ?_
  · rfl
  · exact kind_of hS rfl
  · exact kind_of hS rfl
  intro e1 s1 h1 k1 J1 x1
  have kk0 : Sl FF s.heap s1.heap := (Sl.refl s.heap).of_keeps J1.grow.all
  have kk1 : Sl FF s.heap h1 := kk0.of_keeps x1.keeps
  have y1 : Exc s.heap h1 e1 "KeyError" .none none := Exc.of_new x1 kk0
  have t1 : To No s s1 := J1.grow.toTo
  subst hFF
  refine note_ex (s := { s1 with heap := h1, toks := k1 }) hAf hF hfrm (fun _ q => q) kk1 y1 (.inl rfl) fun h2 kk2 y2 => ?_
  refine flight_ex (s := { s1 with heap := h2, toks := k1 }) kk2 y2 fun h3 kk3 y3 => ?_
  have up : ∀ {s5 : Shared}, Sl ((env :: outer).filterMap (·.frame)) s.heap s5.heap → Inn h₀ No z s5 env [(Str.ofString "which", .int 3 tk), (Str.ofString "delta", .ref l)] z s5 := fun {s5} k =>
    (Inn.freeAt (frame_sl hfm k hc) (fun a o e => k.keep a o (hzF a o e) (hz a o e)) hb).here
  refine wpAny_handleBy_builtin (X := "KeyError") (T := "KeyError") (b := true) sub_ke_base ke_meta sub_ke_ke ?_
  have J3 := up (s5 := { s1 with heap := h3, toks := k1 }) kk3
  refine J3.ldB G G.ke.1 G.ke.2 (kind_of hS rfl) ⟨rfl, y3.typeIs, ?_⟩
  rw [if_pos rfl]
  refine flight_ex (s := { s1 with heap := h3, toks := k1 }) kk3 y3 fun h4 kk4 y4 => ?_
  have J4 := up (s5 := { s1 with heap := h4, toks := k1 }) kk4
  with_reducible refine wpAny_execs_cons (raise_from (base := s.heap) (F := (env :: outer).filterMap (·.frame)) (e1 := e1) (fl := some (flV none)) ?_ (ev_callT J4 G G.ve.1 G.ve.2 (kind_of hS ?_) ?_ ?_ (wpAny_BinOp (J4.str fun t5 s5 J5 => ?_))))
  · rfl
  · rfl
  · decide
  · rfl
  refine J5.ld rfl (.inl (kind_of hS rfl)) (fmt_r fun T t6 k6 => ?_)
  have J6 := J5.tok k6
  have kk6 : Sl ((env :: outer).filterMap (·.frame)) s.heap s5.heap := kk4.of_keeps J5.grow.all
  have y6 : Exc s.heap s5.heap e1 "KeyError" .none (some (flV none)) := y4.keeps J5.grow.all
  obtain ⟨hp6, g6, d6, tk6, os6⟩ := s5
  refine wpAny_call_exc PySem.F.excCall_ValueError (hrest := le_line (by show 1 ≤ 10000; (first | with_reducible assumption | with_reducible exact Nat.add_le_add_left (by decide) _ | with_reducible exact Nat.le_trans (by assumption) (by decide) | with_reducible exact Nat.sub_succ_lt_self (by assumption) | with_reducible exact Nat.lt_of_lt_of_le (by assumption) (by assumption) | with_reducible exact Nat.le_trans (by assumption) (by assumption) | decide | omega))) fun h7 e7 hm7 => ?_
  obtain ⟨t7, ht7, hn7, _⟩ := hm7.there
  have kk7 : Sl ((env :: outer).filterMap (·.frame)) s.heap h7 := kk6.of_keeps hm7.keeps
  refine ⟨e7, t7, rfl, ht7, kk6.isNone hm7.new, kk7, y6.keeps hm7.keeps, fun q => ?_, fun h8 kk8 y8 => ?_⟩
  · obtain ⟨oe, _, he, _⟩ := y6
    have := hm7.new
    rw [q, he] at this; cases this
  refine note_ex (s := ⟨h8, g6, d6, k6, os6⟩) hAf hF hfrm (fun _ q => q) kk8 y8 (.inl rfl) fun h9 kk9 y9 => ?_
  refine came_back (s := ⟨h9, g6, d6, k6, os6⟩) kk9 y9 fun h10 kk10 y10 => ?_
  rw [hfrm] at y10
  refine seg_wrap ?_
  rw [hAA]
  unfold leaving
  refine wpAny_bind (note_again (s := ⟨h10, g6, d6, k6, os6⟩) hfrm y10 (flight_ex (s := ⟨h10, g6, d6, k6, os6⟩) kk10 y10 fun h11 kk11 y11 => ?_))
  refine seg_end (.error (.ref e7)) ⟨e7, _, rfl, kk11, y11, ?_, ?_, ?_⟩
  · exact J5.grow.os.trans t1.os
  · exact fun i x e => J5.grow.gens i x (t1.gens i x e)
  · exact fun hb => J5.grow.bare (t1.bare hb)
end NB90
end
section
set_option autoImplicit false
open PySem PySem.W PyProof.Rows
set_option Elab.async false
set_option maxRecDepth 100000
namespace NB90
variable {h₀ : Heap} {mg mb : Str → Option Value} {W : Addr → Prop} {z₀ z z' z₁ : Fz} {s₀ s s' s₁ : Shared} {env : Env} {outer : List Env} {ρ : List (Str × Value)} {prog : Program} {w : World} {A : Around} {E : Value → Shared → Prop} {M : Model} {F : List Addr} {base : Heap}

theorem restore_new3 {n : Nat} {a l : Addr} {cd : Value} {tk : Tok} {Q : Value → Shared → Prop} (r : Room A (n + 1)) (G : Gd h₀ mg mb) (f : FnOk h₀ (Str.ofString "restore") pArgsRestore.1 pBodyRestore.1 pScopeRestore.1 a cd)
    (hz : z.In s.heap) (hb : Base h₀ z)
    (h : ∀ gen env s', To No s s' → s'.heap.IsGen gen s.gens.size → s'.gens[s.gens.size]? = some (.fresh (.func pBodyRestore.1 env)) → env.scope = pScopeRestore.1 → (∀ y c, env.cells.lookup y ≠ some c) → env.frame = some env.locals →
      Fm z s'.heap env [(Str.ofString "which", .int 3 tk), (Str.ofString "delta", .ref l)] → s.heap.objs.size ≤ env.locals → s.heap.objs.size ≤ gen → Q (.ref gen) s') :
    wpAny (model prog w) A (call (.ref a) [.ref l, .int 3 tk]) Q E s := by
  obtain ⟨o, pm, doc, ho, hd⟩ := f.at_
  have hk' : ∀ x ∈ [(Str.ofString "delta", Value.ref l), (Str.ofString "which", Value.int 3 tk)], pScopeRestore.1.names.lookup x.1 = some .local ∨ (pScopeRestore.1.names.lookup x.1 = some .cell ∧ ((cellsFrom (s.heap.objs.size + 1) pScopeRestore.1.names []).lookup x.1).isSome = true) := fun x hx => by
    simp only [List.mem_cons, List.not_mem_nil, or_false] at hx
    rcases hx with rfl | rfl <;> exact .inl rfl
  refine wpAny_call (codeAny_call_generator (fd := Calls.docDef (Str.ofString "restore") pArgsRestore.1 pBodyRestore.1 pScopeRestore.1 pm cd doc) r.lt (hz _ _ (hb _ _ ho)) hd rfl rfl rfl (f.code.keeps fun b o e => hz _ _ (hb _ _ e)) ?_)
  rw [show bindArgs (Calls.docDef (Str.ofString "restore") pArgsRestore.1 pBodyRestore.1 pScopeRestore.1 pm cd doc) ⟨[.ref l, .int 3 tk], []⟩ = pure [(Str.ofString "delta", Value.ref l), (Str.ofString "which", Value.int 3 tk)] from rfl]
  refine wpAny_pure (wpAny_newFunctionEnv_cells rfl hk' fun env he s2 x => ?_)
  have he' : env = callEnvC (Calls.docDef (Str.ofString "restore") pArgsRestore.1 pBodyRestore.1 pScopeRestore.1 pm cd doc) s.heap.objs.size a := he
  have hS : env.scope = pScopeRestore.1 := by rw [he']; rfl
  have hc : ∀ y c, env.cells.lookup y ≠ some c := by
    intro y c
    rw [he']
    show List.lookup y (cellsFrom (s.heap.objs.size + 1) pScopeRestore.1.names []) ≠ some c
    rw [show cellsFrom (s.heap.objs.size + 1) pScopeRestore.1.names [] = [] from rfl]
    nofun
  rw [he'] at x
  have J := enter_frame (h₀ := h₀) rfl hk' hz hb x
  rw [← he'] at J
  have hL : env.locals = s.heap.objs.size := by rw [he']; rfl
  obtain ⟨hh2, tk2, hs2⟩ := x.toInCall.same
  have hg2 : s2.gens = s.gens := by rw [hs2]
  refine ⟨G.lim.keeps J.keep0, ?_⟩
  generalize hob : ({ cls := .type "generator", data := .fields #[.int s2.gens.size 0, .str (Calls.docDef (Str.ofString "restore") pArgsRestore.1 pBodyRestore.1 pScopeRestore.1 pm cd doc).name s2.toks, .str (Calls.docDef (Str.ofString "restore") pArgsRestore.1 pBodyRestore.1 pScopeRestore.1 pm cd doc).qualname (s2.toks + 1)] } : Obj) = ob
  have hfr : ob.isFreed = false := by rw [← hob]; rfl
  have hgen : (s2.heap.push ob).IsGen s2.heap.objs.size s.gens.size := ⟨ob, _, _, Heap.get?_push_size _ hfr, by rw [← hob], by rw [← hob, hg2], by rw [← hob]⟩
  have t3 : To No s2 { s2 with gens := s2.gens.push (.fresh (.func pBodyRestore.1 env)), toks := s2.toks + 1 + 1, heap := s2.heap.push ob } :=
    ⟨fun b o _ e => Heap.get?_push_of_some _ e, by simp, rfl, fun i y e => by
      show (s2.gens.push _)[i]? = some y
      rw [Array.getElem?_push_lt (Array.getElem?_eq_some_iff.mp e).1]
      rw [Array.getElem?_eq_getElem (Array.getElem?_eq_some_iff.mp e).1] at e
      exact e, fun hb => hb.push rfl⟩
  have J3 := J.to t3
  refine h _ env _ (J.grow.toTo.trans t3) hgen ?_ hS hc (by rw [he']; rfl) J3.frame (by rw [hL]; exact Nat.le_refl _) J.grow.size
  show (s2.gens.push _)[s.gens.size]? = _
  rw [← hg2]
  exact Array.getElem?_push_size ..

theorem sub_ve_stop : isSubtype (.type "ValueError") (.type "StopIteration") = pure false := by rw [isSubtype_type]; kernel_rfl

/-- «next(gen)» of a generator that raises a ValueError -/
theorem next_raises {gen : Addr} {g n : Nat} {gs : GenState} {Y : Protocol} {Q : Value → Shared → Prop} (hl : s.heap.NoLimit) (hroom : A.depth < recursionLimit) (hg : s.heap.IsGen gen g) (hgs : s.gens[g]? = some gs) (hgF : gen ∉ F)
    (hgo : gs.Goes (model prog w) A.in1.in1 (gE s.heap F) Y n (.send .none) (s.setGen g .running)) (hY : ∀ (m : Nat) (sB : Shared) (v : Value) (s₁ : Shared) (kap : Resume → Shared → Prop), ¬ Y m sB v s₁ kap)
    (h : ∀ (e : Addr) (ctx : Value) (s₁ : Shared), Sl F s.heap s₁.heap → Exc s.heap s₁.heap e "ValueError" ctx (some .none) → s₁.os = s.os → (∀ (i : Nat) (x : GenState), (s.setGen g .running).gens[i]? = some x → s₁.gens[i]? = some x) → (AllBare (s.setGen g .running).gens → AllBare s₁.gens) →
      E (.ref e) (s₁.setGen g .finished)) :
    wpAny (model prog w) A (call (.builtin "next") [.ref gen]) Q E s := by
  refine PySem.Calls.call_function_entry (by decide +kernel) (by decide +kernel) kdk_entry_next (kdk_args_next _) ?_
  unfold Builtin.«next»
  refine wpAny_bind (m := someArgs "next" 1 2 _) (wpAny_of_eq (a := [Value.ref gen]) (by first | rfl | kernel_rfl!) ?_)
  dsimp only
  refine wpAny_bind (wpAny_specialOf (name := Str.ofString "__next__") hg.typeIs slot_gen_next.lookup ?_)
  refine wpAny_ite_split (fun hab => absurd hab (by decide)) (fun _ => ?_)
  refine wpAny_bind (wpAny_callSpecial?_slot (name := Str.ofString "__next__") hg.typeIs slot_gen_next
    (wpAny_call_entry slot_gen_next hg.typeIs entry_gen_next ?_ (args_gen_next _)))
  show wpAny _ A.in1.in1 (Builtin.Generator.genWake (.ref gen) (.send .none)) _ _ s
  unfold Builtin.Generator.genWake
  refine wpAny_bind (wpAny_holding (wpAny_genNumber hg (wpAny_bind (wpAny_genState hgs ?_))))
  cases gs with
  | running => exact hgo.elim
  | finished => exact hgo.elim
  | _ =>
    refine wpAny_bind (wpAny_roomToWake hl hroom ?_)
    show wpAny _ A.in1.in1 (.resume g (.send .none) [] _) _ _ s
    refine wpAny_resumeQ hgs hgo (fun x s₁ hx => ?_) (fun v s₁ gs' hb hv => (hY _ _ _ _ _ hv).elim)
    obtain ⟨e, ctx, rfl, k, y, hos, hgn, hba⟩ := hx
    obtain ⟨ob, nm, qn, hob, hoc, hod, hos2⟩ := hg
    have hob1 := k.keep gen ob hgF hob
    show wpAny _ _ (Builtin.Generator.genLeft (.ref gen) (.ref e)) _ _ _
    unfold Builtin.Generator.genLeft Builtin.Generator.madeByALambda
    refine wpAny_bind (wpAny_bind (wpAny_load (s := s₁.setGen g .finished) hob1 (wpAny_pure ?_)))
    rw [hod]
    have yt : (s₁.setGen g .finished).TypeIs (.ref e) "ValueError" := by obtain ⟨oe, _, h1, h2, _⟩ := y; exact ⟨oe, h1, h2⟩
    refine wpAny_bind (wpAny_isInstance yt sub_ve_stop ?_)
    rw [Bool.and_false, if_neg Bool.false_ne_true]
    unfold Builtin.Generator.genEscaped
    refine wpAny_bind (wpAny_isInstance yt sub_ve_stop ?_)
    rw [Bool.not_false, if_pos rfl]
    exact wpAny_throw (h e ctx s₁ k y hos hgn hba)
end NB90
end
section
set_option autoImplicit false
open PySem PySem.W PyProof.Rows
set_option Elab.async false
set_option maxRecDepth 100000
namespace NB90
variable {h₀ : Heap} {mg mb : Str → Option Value} {W : Addr → Prop} {z₀ z z' z₁ : Fz} {s₀ s s' s₁ : Shared} {env : Env} {outer : List Env} {ρ : List (Str × Value)} {prog : Program} {w : World} {A : Around} {E : Value → Shared → Prop} {M : Model} {F : List Addr} {base : Heap}

theorem fm_frs {h : Heap} (f : Fm z h env ρ) (hf : env.frame = some env.locals) : env.scope.kind ≠ .module ∧ ∃ L o, env.frame = some L ∧ h.get? L = some o ∧ ∀ vs, o.data ≠ .fields vs := by
  obtain ⟨m, ⟨o, es, ep, ho, hd, _⟩, _⟩ := f.ns
  exact ⟨by rw [f.fn]; decide, _, o, hf, ho, fun vs q => by rw [hd] at q; cases q⟩
theorem frs_keep {l : List Env} {h : Heap} (x : Frs base l) (k : ∀ b o, base.get? b = some o → h.get? b = some o) : Frs h l := fun e he =>
  let ⟨h1, L, o, h2, h3, h4⟩ := x e he; ⟨h1, L, o, h2, k L o h3, h4⟩
theorem frs_nil (base : Heap) : Frs base [] := fun _ h => absurd h List.not_mem_nil
theorem frs_cons {l : List Env} (h1 : env.scope.kind ≠ .module ∧ ∃ L o, env.frame = some L ∧ base.get? L = some o ∧ ∀ vs, o.data ≠ .fields vs) (h2 : Frs base l) : Frs base (env :: l) := fun e he => by
  rcases List.mem_cons.mp he with rfl | he
  · exact h1
  · exact h2 e he

theorem refused_spec {n : Nat} {a aR l : Addr} {cd cdR : Value} {Q : Value → Shared → Prop} (r : Room A (n + 6)) (G : Gd h₀ mg mb) (fR : FnOk h₀ (Str.ofString "restore") pArgsRestore.1 pBodyRestore.1 pScopeRestore.1 aR cdR) (hgR : mg (Str.ofString "restore") = some (.ref aR))
    (f : FnOk h₀ (Str.ofString "_law_refused") pArgsRefused.1 pBodyRefused.1 pScopeRefused.1 a cd) (hz : z.In s.heap) (hb : Base h₀ z) (hfr : A.frames = some outer) (hFo : Frs s.heap outer) (hzO : ∀ a o, z a o → a ∉ outer.filterMap (·.frame))
    (h : ∀ s' : Shared, Sl (outer.filterMap (·.frame)) s.heap s'.heap → s'.os = s.os → (∀ (i : Nat) (x : GenState), s.gens[i]? = some x → s'.gens[i]? = some x) → (AllBare s.gens → AllBare s'.gens) → s.heap.objs.size ≤ s'.heap.objs.size → Q (.bool true) s') :
    wpAny (model prog w) A (call (.ref a) [.ref l]) Q E s := by
  refine with_size ?_
  obtain ⟨o, pm, doc, ho, hd⟩ := f.at_
  have hk' : ∀ x ∈ [(Str.ofString "lines", Value.ref l)], pScopeRefused.1.names.lookup x.1 = some .local ∨ (pScopeRefused.1.names.lookup x.1 = some .cell ∧ ((cellsFrom (s.heap.objs.size + 1) pScopeRefused.1.names []).lookup x.1).isSome = true) := fun x hx => by
    simp only [List.mem_cons, List.not_mem_nil, or_false] at hx
    subst hx; exact .inl rfl
  refine wpAny_call (codeAny_call_cells (fd := Calls.docDef (Str.ofString "_law_refused") pArgsRefused.1 pBodyRefused.1 pScopeRefused.1 pm cd doc) r.lt (hz _ _ (hb _ _ ho)) hd (G.lim.keeps fun b o e => hz _ _ (hb _ _ e)) (f.code.keeps fun b o e => hz _ _ (hb _ _ e)) rfl (binds := [(Str.ofString "lines", Value.ref l)]) rfl rfl hk' ?_ rfl rfl rfl)
  intro s₁ x
  have J := enter_frame (h₀ := h₀) rfl hk' hz hb x
  generalize hev : callEnvC (Calls.docDef (Str.ofString "_law_refused") pArgsRefused.1 pBodyRefused.1 pScopeRefused.1 pm cd doc) s.heap.objs.size a = env at *
  have hS : env.scope = pScopeRefused.1 := by rw [← hev]; rfl
  have hL : env.locals = s.heap.objs.size := by rw [← hev]; rfl
  have hfrm : env.frame = some env.locals := by rw [← hev]; rfl
  have hc : ∀ y c, env.cells.lookup y ≠ some c := by
    intro y c
    rw [← hev]
    show List.lookup y (cellsFrom (s.heap.objs.size + 1) pScopeRefused.1.names []) ≠ some c
    rw [show cellsFrom (s.heap.objs.size + 1) pScopeRefused.1.names [] = [] from rfl]
    nofun
  have rr : Room (A.deeper env) (n + 5) := r.deeper env
  have hAf : (A.deeper env).frames = some (env :: outer) := by
    show pushEnvs [env] A.frames = _
    rw [hfr]; rfl
  have rr0 := rr
  generalize hAA : A.deeper env = AA at *
  simp only [pBodyRefused]
  with_reducible refine wpAny_execs_cons (asg ?_ (ev_call J G fR hgR (kind_of hS ?_) ?_ ?_ (arg_c ?_ ?_)))
  · rfl
  · rfl
  · decide
  · rfl
  · rfl
  refine J.ld rfl (.inl (kind_of hS rfl)) (arg_c rfl (J.int fun t1 s1 J1 => arg_n ⟨z, J1, ?_⟩))
  refine restore_new3 (n := n) (rr.le (by (first | with_reducible assumption | with_reducible exact Nat.add_le_add_left (by decide) _ | with_reducible exact Nat.le_trans (by assumption) (by decide) | with_reducible exact Nat.sub_succ_lt_self (by assumption) | with_reducible exact Nat.lt_of_lt_of_le (by assumption) (by assumption) | with_reducible exact Nat.le_trans (by assumption) (by assumption) | decide | omega))) G fR J1.inn J1.base fun gen envG s2 t2 hgen hgs hSG hcG hfG hfmG hLG hgenG => ?_
  have J2 := J1.to t2
  have hl1 : env.locals < s1.heap.objs.size := by obtain ⟨mm, hn, _⟩ := J1.frame.ns; exact hn.lt
  have hGL : envG.locals ≠ env.locals := fun q => Nat.lt_irrefl _ (Nat.lt_of_lt_of_le hl1 (q ▸ hLG))
  have hgL : gen ≠ env.locals := fun q => Nat.lt_irrefl _ (Nat.lt_of_lt_of_le hl1 (q ▸ hgenG))
  refine J2.st (by rw [hL]; exact Nat.le_refl _) (kind_of hS rfl) fun s3 J3 t3 => ?_
  generalize hg : s1.gens.size = g at *
  have hgen3 : s3.heap.IsGen gen g := by obtain ⟨og, nm, qn, hog, rest⟩ := hgen; exact ⟨og, nm, qn, t3.keep _ _ hgL hog, rest⟩
  have hgs3 : s3.gens[g]? = some (.fresh (.func pBodyRestore.1 envG)) := t3.gens _ _ hgs
  have hfmG3 : Fm z s3.heap envG [(Str.ofString "which", .int 3 t1), (Str.ofString "delta", .ref l)] := hfmG.at_ hcG fun o e => t3.keep _ o hGL e
  have hFo3 : Frs s3.heap outer := frs_keep hFo fun b o e => J3.grow.all b o e
  have hF3 : Frs s3.heap (env :: outer) := frs_cons (fm_frs J3.frame hfrm) hFo3
  have hFF : (envG :: env :: outer).filterMap (·.frame) = envG.locals :: env.locals :: outer.filterMap (·.frame) := by
    rw [List.filterMap_cons, hfG, List.filterMap_cons, hfrm]
  have hFR : (env :: outer).filterMap (·.frame) = env.locals :: outer.filterMap (·.frame) := by rw [List.filterMap_cons, hfrm]
  have hz3 : ∀ a o, z a o → a ∉ (envG :: env :: outer).filterMap (·.frame) := fun a o e q => by
    rw [hFF] at q
    rcases List.mem_cons.mp q with rfl | q
    · exact hfmG3.nz o e
    · rcases List.mem_cons.mp q with rfl | q
      · exact J3.frame.nz o e
      · exact hzO a o e q
  have hgF : gen ∉ (envG :: env :: outer).filterMap (·.frame) := fun q => by
    obtain ⟨og, nm, qn, hog, _, hgd, _⟩ := hgen3
    have hFa : Frs s3.heap (envG :: env :: outer) := frs_cons (fm_frs hfmG3 hfG) hF3
    obtain ⟨e, he, hf⟩ := List.mem_filterMap.mp q
    obtain ⟨_, L, oL, h2, h3, h4⟩ := hFa e he
    rw [h2] at hf; cases hf
    rw [hog] at h3; cases h3
    exact h4 _ hgd
  with_reducible refine wpAny_execs_cons (wpAny_Try_except (wpAny_execs_cons (exprStmt hS ?_ ?_ (ev_callB J3 G G.next.1 G.next.2 (kind_of hS ?_) ?_ ?_ ?_))))
  · rfl
  · rfl
  · rfl
  · decide
  · rfl
  refine J3.ld rfl (.inl (kind_of hS rfl)) ?_
  refine next_raises (F := (envG :: env :: outer).filterMap (·.frame)) (n := 0) (Y := fun _ _ _ _ _ => False) (G.lim.keeps J3.keep0) rr.lt hgen3 hgs3 hgF ⟨rfl, seg_func (gen_body3 (s := s3.setGen g .running) (l := l) (tk := t1) (m := n + 2) rr.in1.in1 G J3.base hSG hcG hAf (frs_cons (fm_frs hfmG3 hfG) hF3) hfG hfmG3 J3.inn hz3)⟩ (fun _ _ _ _ _ q => q) ?_
  intro e ctx s4 k4 y4 hos hgn hba
  have hsub : ∀ a ∈ (env :: outer).filterMap (·.frame), a ∈ (envG :: env :: outer).filterMap (·.frame) := fun a ha => by rw [hFF]; rw [hFR] at ha; exact List.mem_cons_of_mem _ ha
  generalize hFG : (envG :: env :: outer).filterMap (·.frame) = FF at *
  refine note_ex (s := s4.setGen g .finished) hAf hF3 hfrm hsub k4 y4 (.inr rfl) fun h5 k5 y5 => ?_
  refine flight_ex (s := { s4.setGen g .finished with heap := h5 }) k5 y5 fun h6 k6 y6 => ?_
  refine wpAny_handleBy_builtin (X := "ValueError") (T := "ValueError") (b := true) PySem.F.excRaise_ValueError.isExc ve_meta sub_ve_ve ?_
  have J6 : Inn h₀ No z (noS { s4.setGen g .finished with heap := h6 }) env _ z { s4.setGen g .finished with heap := h6 } := Inn.freeAt (frame_sl J3.frame k6 hc) (fun a o e => k6.keep a o (hz3 a o e) (J3.inn a o e)) J3.base
  refine J6.ldB G G.ve.1 G.ve.2 (kind_of hS rfl) ⟨rfl, y6.typeIs, ?_⟩
  rw [if_pos rfl]
  refine flight_ex (s := { s4.setGen g .finished with heap := h6 }) k6 y6 fun h7 k7 y7 => ?_
  with_reducible refine wpAny_execs_cons (wpAny_Return_some (cbool ?_))
  intro hsz
  have hno : ∀ b o, s.heap.get? b = some o → b ≠ envG.locals ∧ b ≠ env.locals := fun b o e => by
    have hl := Heap.lt_size e
    exact ⟨fun q => Nat.lt_irrefl _ (Nat.lt_of_lt_of_le hl (q ▸ Nat.le_trans J1.grow.size hLG)), fun q => Nat.lt_irrefl _ (Nat.lt_of_lt_of_le hl (by rw [q, hL]; exact Nat.le_refl _))⟩
  refine h _ ⟨fun b o hb e => ?_, fun b o hb e => ?_⟩ ?_ ?_ ?_ hsz
  · refine k7.keep b o (fun q => ?_) (J3.grow.all b o e)
    rw [hFF] at q
    rcases List.mem_cons.mp q with q | q
    · exact (hno b o e).1 q
    · rcases List.mem_cons.mp q with q | q
      · exact (hno b o e).2 q
      · exact hb q
  · exact k7.slot b o (by rw [hFF]; exact List.mem_cons_of_mem _ (List.mem_cons_of_mem _ hb)) (J3.grow.all b o e)
  · exact hos.trans J3.grow.os
  · intro i y e
    have e1 := J1.grow.gens i y e
    have hi : i ≠ g := Nat.ne_of_lt (hg ▸ (Array.getElem?_eq_some_iff.mp e1).1)
    have e3 := J3.grow.gens i y e
    have e4 : (s3.setGen g .running).gens[i]? = some y := by rw [(GenOnly.setGen s3 g .running).2 i hi]; exact e3
    show (s4.setGen g .finished).gens[i]? = some y
    rw [(GenOnly.setGen s4 g .finished).2 i hi]; exact hgn i y e4
  · intro hbare
    exact bare_set (s := s4) (by rfl) (hba (bare_set (by rfl) (J3.grow.bare hbare)))
end NB90
end
section
set_option autoImplicit false
open PySem PySem.W PyProof.Rows
set_option Elab.async false
namespace NB90

/-- parts put together with a sign between them -/
noncomputable def glue (c : Nat) : List (List Nat) → List Nat
  | [] => []
  | [p] => p
  | p :: q :: r => p ++ c :: glue c (q :: r)

theorem first_cut {c : Nat} : ∀ {p q a b : List Nat}, c ∉ p → c ∉ q → p ++ c :: a = q ++ c :: b → p = q ∧ a = b
  | [], [], a, b, _, _, h => by simpa using h
  | [], y :: q, a, b, _, hq, h => by
    simp only [List.nil_append, List.cons_append, List.cons.injEq] at h
    exact absurd (h.1 ▸ List.mem_cons_self) hq
  | x :: p, [], a, b, hp, _, h => by
    simp only [List.nil_append, List.cons_append, List.cons.injEq] at h
    exact absurd (h.1 ▸ List.mem_cons_self) hp
  | x :: p, y :: q, a, b, hp, hq, h => by
    simp only [List.cons_append, List.cons.injEq] at h
    obtain ⟨rfl, h2⟩ := first_cut (fun m => hp (List.mem_cons_of_mem _ m)) (fun m => hq (List.mem_cons_of_mem _ m)) h.2
    exact ⟨by rw [h.1], h2⟩

/-- the one is a beginning of the other, part by part -/
theorem glue_prefix {c : Nat} : ∀ {ps qs : List (List Nat)}, ps ≠ [] → qs ≠ [] → (∀ p ∈ ps, c ∉ p) → (∀ p ∈ qs, c ∉ p) →
    ((glue c qs = glue c ps ∨ ∃ t, glue c qs = glue c ps ++ c :: t) ↔ qs.take ps.length = ps)
  | [], _, h, _, _, _ => absurd rfl h
  | _, [], _, h, _, _ => absurd rfl h
  | [p], [q], _, _, hp, hq => by
    have hp := hp p List.mem_cons_self
    have hq := hq q List.mem_cons_self
    simp only [glue, List.length_cons, List.length_nil, List.take, List.cons.injEq, and_true]
    constructor
    · rintro (h | ⟨t, h⟩)
      · exact h
      · exact absurd (by rw [h]; simp) hq
    · exact .inl
  | [p], q :: q' :: qs, _, _, hp, hq => by
    have hp := hp p List.mem_cons_self
    have hq := hq q List.mem_cons_self
    simp only [glue, List.length_cons, List.length_nil, List.take, List.cons.injEq, and_true]
    constructor
    · rintro (h | ⟨t, h⟩)
      · exact absurd (by rw [← h]; simp) hp
      · exact (first_cut hq hp h).1
    · rintro rfl
      exact .inr ⟨_, rfl⟩
  | p :: p' :: ps, [q], _, _, hp, hq => by
    have hq := hq q List.mem_cons_self
    simp only [glue, List.length_cons, List.take_succ_cons, List.take_nil, List.cons.injEq]
    constructor
    · rintro (h | ⟨t, h⟩)
      · exact absurd (by rw [h]; simp) hq
      · exact absurd (by rw [h]; simp) hq
    · rintro ⟨_, h⟩; cases h
  | p :: p' :: ps, q :: q' :: qs, _, _, hp, hq => by
    have ih := glue_prefix (c := c) (ps := p' :: ps) (qs := q' :: qs) (by simp) (by simp) (fun x hx => hp x (List.mem_cons_of_mem _ hx)) fun x hx => hq x (List.mem_cons_of_mem _ hx)
    have hp := hp p List.mem_cons_self
    have hq := hq q List.mem_cons_self
    rw [List.length_cons, List.take_succ_cons, List.cons.injEq, ← ih]
    simp only [glue, List.append_assoc, List.cons_append]
    constructor
    · rintro (h | ⟨t, h⟩)
      · obtain ⟨h1, h2⟩ := first_cut hq hp h
        exact ⟨h1, .inl h2⟩
      · obtain ⟨h1, h2⟩ := first_cut hq hp h
        exact ⟨h1, .inr ⟨t, h2⟩⟩
    · rintro ⟨rfl, h | ⟨t, h⟩⟩
      · exact .inl (by rw [h])
      · exact .inr ⟨t, by rw [h]⟩
theorem glue_inj {c : Nat} {ps qs : List (List Nat)} (h1 : ps ≠ []) (h2 : qs ≠ []) (hp : ∀ p ∈ ps, c ∉ p) (hq : ∀ p ∈ qs, c ∉ p) (h : glue c ps = glue c qs) : ps = qs := by
  have a := (glue_prefix h1 h2 hp hq).mp (.inl h.symm)
  have b := (glue_prefix h2 h1 hq hp).mp (.inl h)
  have la : ps.length ≤ qs.length := by have := congrArg List.length a; rw [List.length_take] at this; (first | with_reducible assumption | with_reducible exact Nat.add_le_add_left (by decide) _ | with_reducible exact Nat.le_trans (by assumption) (by decide) | with_reducible exact Nat.sub_succ_lt_self (by assumption) | with_reducible exact Nat.lt_of_lt_of_le (by assumption) (by assumption) | with_reducible exact Nat.le_trans (by assumption) (by assumption) | decide | omega)
  have lb : qs.length ≤ ps.length := by have := congrArg List.length b; rw [List.length_take] at this; (first | with_reducible assumption | with_reducible exact Nat.add_le_add_left (by decide) _ | with_reducible exact Nat.le_trans (by assumption) (by decide) | with_reducible exact Nat.sub_succ_lt_self (by assumption) | with_reducible exact Nat.lt_of_lt_of_le (by assumption) (by assumption) | with_reducible exact Nat.le_trans (by assumption) (by assumption) | decide | omega)
  rw [← a, List.take_of_length_le lb]

noncomputable def ch (x : Str) : List Nat := x.cps.toList
theorem ch_inj {x y : Str} (h : ch x = ch y) : x = y := by
  rw [StrLaws.mk_of_toList (x := x) rfl, StrLaws.mk_of_toList (x := y) rfl]
  exact congrArg (fun l => (⟨l.toArray⟩ : Str)) h
theorem ch_app (x y : Str) : ch (x ++ y) = ch x ++ ch y := cps_app x y
theorem ch_join : ∀ (l : List Str), ch (Str.join dot l) = glue 46 (l.map ch)
  | [] => rfl
  | [x] => rfl
  | x :: y :: r => by
    have ih := ch_join (y :: r)
    show ch (x ++ dot ++ Str.join dot (y :: r)) = ch x ++ 46 :: glue 46 ((y :: r).map ch)
    rw [ch_app, ch_app, ih]
    show ch x ++ [46] ++ _ = _
    simp

noncomputable def sp (x : Str) : List Str := Txt.split x dot
theorem sp_ne (x : Str) : sp x ≠ [] := fun h => by have := split_pos x dot; unfold sp at h; rw [h] at this; simp at this
theorem sp_free (x : Str) : ∀ p ∈ sp x, 46 ∉ ch p := StrLaws.split_free x 46
theorem sp_join (x : Str) : Str.join dot (sp x) = x := StrLaws.join_split x dot
theorem join_txt (l : List Str) : Txt.join dot l = Str.join dot l := StrLaws.glued_eq_join _ _
theorem map_ne {α β : Type} {f : α → β} {l : List α} (h : l ≠ []) : l.map f ≠ [] := fun q => h (List.map_eq_nil_iff.mp q)
theorem map_free {l : List Str} (h : ∀ p ∈ l, 46 ∉ ch p) : ∀ p ∈ l.map ch, 46 ∉ p := fun p hp => by
  obtain ⟨x, hx, rfl⟩ := List.mem_map.mp hp; exact h x hx
theorem sp_of_join {l : List Str} (h : l ≠ []) (hf : ∀ p ∈ l, 46 ∉ ch p) : sp (Str.join dot l) = l := by
  have e : glue 46 ((sp (Str.join dot l)).map ch) = glue 46 (l.map ch) := by rw [← ch_join, ← ch_join, sp_join]
  have := glue_inj (map_ne (sp_ne _)) (map_ne h) (map_free (sp_free _)) (map_free hf) e
  exact map_inj (fun _ _ => ch_inj) this
theorem sp_inj {x y : Str} (h : sp x = sp y) : x = y := by rw [← sp_join x, ← sp_join y, h]

/-- part by part, the first parts or all -/
noncomputable def Pre (r p : List Str) : Prop := p.take r.length = r
theorem starts_iff (m x : Str) : Txt.startswith m (x ++ dot) = true ↔ ∃ t, ch m = ch x ++ 46 :: t := by
  unfold Txt.startswith
  rw [Bool.and_eq_true, decide_eq_true_eq, StrLaws.subAt_eq, List.drop_zero, beq_iff_eq]
  have hy : (x ++ dot).cps.toList = ch x ++ [46] := ch_app x dot
  have hl : (x ++ dot).length = (ch x).length + 1 := by rw [len_app]; rfl
  have hm : m.length = (ch m).length := rfl
  rw [hy, hl, hm]
  show _ ∧ (ch m).take _ = _ ↔ _
  constructor
  · rintro ⟨_, h⟩
    refine ⟨(ch m).drop ((ch x).length + 1), ?_⟩
    have := List.take_append_drop ((ch x).length + 1) (ch m)
    rw [h] at this
    rw [← this]; simp
  · rintro ⟨t, h⟩
    rw [h]
    refine ⟨by simp, ?_⟩
    have e : ch x ++ 46 :: t = (ch x ++ [46]) ++ t := by simp
    rw [e]
    exact List.take_left' (by simp)
theorem pre_iff (m x : Str) : Pre (sp x) (sp m) ↔ m = x ∨ Txt.startswith m (x ++ dot) = true := by
  have h := glue_prefix (c := 46) (ps := (sp x).map ch) (qs := (sp m).map ch) (map_ne (sp_ne x)) (map_ne (sp_ne m)) (map_free (sp_free x)) (map_free (sp_free m))
  rw [← ch_join, ← ch_join, sp_join, sp_join, List.length_map, ← List.map_take] at h
  rw [starts_iff]
  unfold Pre
  constructor
  · intro q
    exact (h.mpr (by rw [q])).imp ch_inj id
  · intro q
    exact map_inj (fun _ _ => ch_inj) (h.mp (q.imp (fun e => by rw [e]) id))
theorem tell_iff (xs : List Str) (m : Str) : tellB xs m = true ↔ ∃ x ∈ xs, Pre (sp x) (sp m) := by
  unfold tellB
  rw [Bool.or_eq_true, decide_eq_true_eq, List.any_eq_true]
  constructor
  · rintro (h | ⟨x, hx, h⟩)
    · exact ⟨m, h, (pre_iff m m).mpr (.inl rfl)⟩
    · exact ⟨x, hx, (pre_iff m x).mpr (.inr h)⟩
  · rintro ⟨x, hx, h⟩
    rcases (pre_iff m x).mp h with rfl | h
    · exact .inl hx
    · exact .inr ⟨x, hx, h⟩
theorem Pre.trans {a b c : List Str} (h : Pre a b) (k : Pre b c) : Pre a c := by
  unfold Pre at *
  have hl : a.length ≤ b.length := by have := congrArg List.length h; rw [List.length_take] at this; (first | with_reducible assumption | with_reducible exact Nat.add_le_add_left (by decide) _ | with_reducible exact Nat.le_trans (by assumption) (by decide) | with_reducible exact Nat.sub_succ_lt_self (by assumption) | with_reducible exact Nat.lt_of_lt_of_le (by assumption) (by assumption) | with_reducible exact Nat.le_trans (by assumption) (by assumption) | decide | omega)
  rw [← k, List.take_take, Nat.min_eq_left hl] at h
  exact h
theorem Pre.len {a b : List Str} (h : Pre a b) : a.length ≤ b.length := by have := congrArg List.length h; rw [List.length_take] at this; (first | with_reducible assumption | with_reducible exact Nat.add_le_add_left (by decide) _ | with_reducible exact Nat.le_trans (by assumption) (by decide) | with_reducible exact Nat.sub_succ_lt_self (by assumption) | with_reducible exact Nat.lt_of_lt_of_le (by assumption) (by assumption) | with_reducible exact Nat.le_trans (by assumption) (by assumption) | decide | omega)
theorem Pre.eq {a b : List Str} (h : Pre a b) (hl : b.length ≤ a.length) : a = b := by unfold Pre at h; rw [← h, List.take_of_length_le hl]

theorem heads_nil (rows : List (List Str)) (p : List Str) : headsL rows p = [] ↔ ¬ ∃ r ∈ rows, Pre r p := by
  unfold headsL Pre
  rw [List.filter_eq_nil_iff]
  constructor
  · rintro h ⟨r, hr, e⟩; exact h r hr (beq_iff_eq.mpr e)
  · intro h r hr e; exact h ⟨r, hr, beq_iff_eq.mp e⟩

noncomputable def dueI (rows : List (List Str)) (m : Str) : Int := if headsL rows (sp m) = [] then 0 else 1
theorem tell_due (R : List Str) (m : Str) : tellI R m = dueI (R.map sp) m := by
  unfold tellI dueI
  have h1 := tell_iff R m
  have h2 := heads_nil (R.map sp) (sp m)
  by_cases q : ∃ x ∈ R, Pre (sp x) (sp m)
  · rw [if_pos (h1.mpr q), if_neg]
    rw [h2]
    obtain ⟨x, hx, e⟩ := q
    exact fun n => n ⟨sp x, List.mem_map.mpr ⟨x, hx, rfl⟩, e⟩
  · rw [if_neg (fun e => q (h1.mp e)), if_pos]
    rw [h2]
    rintro ⟨r, hr, e⟩
    obtain ⟨x, hx, rfl⟩ := List.mem_map.mp hr
    exact q ⟨x, hx, e⟩
theorem tell_zero (R : List Str) (m : Str) : (tellI R m == 0) = true ↔ ¬ ∃ x ∈ R, Pre (sp x) (sp m) := by
  rw [beq_iff_eq, ← tell_iff]
  unfold tellI
  cases tellB R m <;> simp

theorem has_dot (x : Str) : Txt.contains x dot = decide (46 ∈ ch x) := StrLaws.found_one x 46
theorem sp_one {x : Str} (h : 46 ∉ ch x) : sp x = [x] := by
  have := sp_of_join (l := [x]) (by simp) (by simpa using h)
  exact this
theorem sp_two {x : Str} (h : 46 ∈ ch x) : 2 ≤ (sp x).length := by
  have h1 : 1 ≤ (sp x).length := split_pos x dot
  refine Nat.lt_of_le_of_ne h1 fun e => ?_
  obtain ⟨p, hp⟩ := List.length_eq_one_iff.mp e.symm
  have hj := sp_join x
  rw [hp] at hj
  have : p = x := hj
  exact sp_free x p (by rw [hp]; simp) (this ▸ h)
theorem sp_up {x : Str} (h : 46 ∈ ch x) : sp (upS x) = (sp x).take ((sp x).length - 1) := by
  have h2 := sp_two h
  show sp (Txt.join dot ((sp x).take ((sp x).length - 1))) = _
  rw [join_txt]
  refine sp_of_join (fun e => ?_) fun p hp => sp_free x p (List.mem_of_mem_take hp)
  have := congrArg List.length e
  rw [List.length_take] at this
  simp at this
  (first | with_reducible assumption | with_reducible exact Nat.add_le_add_left (by decide) _ | with_reducible exact Nat.le_trans (by assumption) (by decide) | with_reducible exact Nat.sub_succ_lt_self (by assumption) | with_reducible exact Nat.lt_of_lt_of_le (by assumption) (by assumption) | with_reducible exact Nat.le_trans (by assumption) (by assumption) | decide | omega)
/-- a name above which no other one stands -/
noncomputable def Least (R : List Str) (x : Str) : Prop := ∀ y ∈ R, Pre (sp y) (sp x) → sp y = sp x
theorem top_iff (R : List Str) (x : Str) : (!Txt.contains x dot || tellI R (upS x) == 0) = true ↔ Least R x := by
  rw [Bool.or_eq_true, has_dot, tell_zero]
  unfold Least
  by_cases h : 46 ∈ ch x
  · rw [decide_eq_true h, sp_up h]
    have h2 := sp_two h
    constructor
    · rintro (q | q)
      · cases q
      · intro y hy e
        refine Classical.byContradiction fun ne => q ⟨y, hy, ?_⟩
        have hl := e.len
        have hl' : (sp y).length ≠ (sp x).length := fun el => ne (e.eq (by (first | with_reducible assumption | with_reducible exact Nat.add_le_add_left (by decide) _ | with_reducible exact Nat.le_trans (by assumption) (by decide) | with_reducible exact Nat.sub_succ_lt_self (by assumption) | with_reducible exact Nat.lt_of_lt_of_le (by assumption) (by assumption) | with_reducible exact Nat.le_trans (by assumption) (by assumption) | decide | omega)))
        unfold Pre at *
        rw [List.take_take, Nat.min_eq_left (by (first | with_reducible assumption | with_reducible exact Nat.add_le_add_left (by decide) _ | with_reducible exact Nat.le_trans (by assumption) (by decide) | with_reducible exact Nat.sub_succ_lt_self (by assumption) | with_reducible exact Nat.lt_of_lt_of_le (by assumption) (by assumption) | with_reducible exact Nat.le_trans (by assumption) (by assumption) | decide | omega))]
        exact e
    · intro q
      refine .inr ?_
      rintro ⟨y, hy, e⟩
      have hl := e.len
      rw [List.length_take] at hl
      have e' : Pre (sp y) (sp x) := by
        unfold Pre at *
        rw [List.take_take, Nat.min_eq_left (by (first | with_reducible assumption | with_reducible exact Nat.add_le_add_left (by decide) _ | with_reducible exact Nat.le_trans (by assumption) (by decide) | with_reducible exact Nat.sub_succ_lt_self (by assumption) | with_reducible exact Nat.lt_of_lt_of_le (by assumption) (by assumption) | with_reducible exact Nat.le_trans (by assumption) (by assumption) | decide | omega))] at e
        exact e
      have := q y hy e'
      rw [this] at hl
      (first | with_reducible assumption | with_reducible exact Nat.add_le_add_left (by decide) _ | with_reducible exact Nat.le_trans (by assumption) (by decide) | with_reducible exact Nat.sub_succ_lt_self (by assumption) | with_reducible exact Nat.lt_of_lt_of_le (by assumption) (by assumption) | with_reducible exact Nat.le_trans (by assumption) (by assumption) | decide | omega)
  · rw [decide_eq_false h, sp_one h]
    simp only [Bool.not_false, true_or, true_iff]
    intro y _ e
    have h1 : 1 ≤ (sp y).length := split_pos y dot
    exact e.eq (by simpa using h1)
theorem mem_top {R : List Str} {x : Str} : x ∈ topOf R ↔ x ∈ R ∧ Least R x := by
  unfold topOf
  rw [List.mem_filter, top_iff]
theorem tell_top (R : List Str) (m : Str) : tellI (topOf R) m = tellI R m := by
  have key : ∀ (n : Nat) (x : Str), (sp x).length = n → x ∈ R → Pre (sp x) (sp m) → ∃ y ∈ topOf R, Pre (sp y) (sp m) := by
    intro n
    induction n using Nat.strongRecOn with
    | ind n ih =>
      intro x hn hx e
      by_cases ht : Least R x
      · exact ⟨x, mem_top.mpr ⟨hx, ht⟩, e⟩
      · unfold Least at ht
        have ⟨y, hy⟩ := Classical.not_forall.mp ht
        have ⟨hyR, hy2⟩ := Classical.not_imp.mp hy
        have ⟨hp, hne⟩ := Classical.not_imp.mp hy2
        have hl := hp.len
        have hl' : (sp y).length ≠ (sp x).length := fun el => hne (hp.eq (by (first | with_reducible assumption | with_reducible exact Nat.add_le_add_left (by decide) _ | with_reducible exact Nat.le_trans (by assumption) (by decide) | with_reducible exact Nat.sub_succ_lt_self (by assumption) | with_reducible exact Nat.lt_of_lt_of_le (by assumption) (by assumption) | with_reducible exact Nat.le_trans (by assumption) (by assumption) | decide | omega)))
        exact ih (sp y).length (by (first | with_reducible assumption | with_reducible exact Nat.add_le_add_left (by decide) _ | with_reducible exact Nat.le_trans (by assumption) (by decide) | with_reducible exact Nat.sub_succ_lt_self (by assumption) | with_reducible exact Nat.lt_of_lt_of_le (by assumption) (by assumption) | with_reducible exact Nat.le_trans (by assumption) (by assumption) | decide | omega)) y rfl hyR (hp.trans e)
  have h : tellB (topOf R) m = tellB R m := by
    rw [Bool.eq_iff_iff, tell_iff, tell_iff]
    constructor
    · rintro ⟨x, hx, e⟩; exact ⟨x, (mem_top.mp hx).1, e⟩
    · rintro ⟨x, hx, e⟩; exact key _ x rfl hx e
  unfold tellI; rw [h]
theorem tell_congr {xs ys : List Str} (h : ∀ n, n ∈ xs ↔ n ∈ ys) (m : Str) : tellI xs m = tellI ys m := by
  have e : tellB xs m = tellB ys m := by
    rw [Bool.eq_iff_iff, tell_iff, tell_iff]
    exact ⟨fun ⟨x, hx, e⟩ => ⟨x, (h x).mp hx, e⟩, fun ⟨x, hx, e⟩ => ⟨x, (h x).mpr hx, e⟩⟩
  unfold tellI; rw [e]
end NB90
end
section
set_option autoImplicit false
open PySem PySem.W PyProof.Rows
set_option Elab.async false
namespace NB90

/-- a name: of a, b and dots -/
noncomputable def Name (n : Str) : Prop := n.length ≤ 50 ∧ ∀ c ∈ ch n, c = 97 ∨ c = 98 ∨ c = 46
/-- a line: a tag and a name -/
noncomputable def Ln (l : Str) : Prop := ∃ t ∈ tagL, ∃ n, l = t ++ n ∧ Name n
theorem Name.nm {n : Str} (h : Name n) : Nm n := ⟨by have := h.1; (first | with_reducible assumption | with_reducible exact Nat.add_le_add_left (by decide) _ | with_reducible exact Nat.le_trans (by assumption) (by decide) | with_reducible exact Nat.sub_succ_lt_self (by assumption) | with_reducible exact Nat.lt_of_lt_of_le (by assumption) (by assumption) | with_reducible exact Nat.le_trans (by assumption) (by assumption) | decide | omega), fun c hc => by have := h.2 c hc; (first | with_reducible assumption | with_reducible exact Nat.add_le_add_left (by decide) _ | with_reducible exact Nat.le_trans (by assumption) (by decide) | with_reducible exact Nat.sub_succ_lt_self (by assumption) | with_reducible exact Nat.lt_of_lt_of_le (by assumption) (by assumption) | with_reducible exact Nat.le_trans (by assumption) (by assumption) | decide | omega)⟩
theorem Name.ne {n : Str} (h : Name n) : n ≠ ltS := fun e => by
  have : (60 : Nat) ∈ ch n := by rw [e]; decide
  have := h.2 _ this
  (first | with_reducible assumption | with_reducible exact Nat.add_le_add_left (by decide) _ | with_reducible exact Nat.le_trans (by assumption) (by decide) | with_reducible exact Nat.sub_succ_lt_self (by assumption) | with_reducible exact Nat.lt_of_lt_of_le (by assumption) (by assumption) | with_reducible exact Nat.le_trans (by assumption) (by assumption) | decide | omega)
theorem Ln.sn {l : Str} (h : Ln l) : Sn l := by
  obtain ⟨t, ht, n, rfl, hn⟩ := h
  exact (tag_sn t ht).app hn.nm.sn (by rw [tag_short t ht]; have := hn.1; (first | with_reducible assumption | with_reducible exact Nat.add_le_add_left (by decide) _ | with_reducible exact Nat.le_trans (by assumption) (by decide) | with_reducible exact Nat.sub_succ_lt_self (by assumption) | with_reducible exact Nat.lt_of_lt_of_le (by assumption) (by assumption) | with_reducible exact Nat.le_trans (by assumption) (by assumption) | decide | omega))

theorem tag_len {t : Str} (h : t ∈ tagL) : t.length = 2 := tag_short t h
theorem cut_tag {t n : Str} (h : t ∈ tagL) : cutL (t ++ n) = n := by
  have hl : (t ++ n).length = 2 + n.length := by rw [len_app, tag_len h]
  have hc : ch (t ++ n) = ch t ++ ch n := ch_app t n
  have htl : (ch t).length = 2 := tag_len h
  have e := slice_closes_from (x := t ++ n) (i := 2) ⟨by (first | with_reducible assumption | with_reducible exact Nat.add_le_add_left (by decide) _ | with_reducible exact Nat.le_trans (by assumption) (by decide) | with_reducible exact Nat.sub_succ_lt_self (by assumption) | with_reducible exact Nat.lt_of_lt_of_le (by assumption) (by assumption) | with_reducible exact Nat.le_trans (by assumption) (by assumption) | decide | omega), by show (2 : Int) ≤ (ch (t ++ n)).length; rw [hc, List.length_append, htl]; (first | with_reducible assumption | with_reducible exact Nat.add_le_add_left (by decide) _ | with_reducible exact Nat.le_trans (by assumption) (by decide) | with_reducible exact Nat.sub_succ_lt_self (by assumption) | with_reducible exact Nat.lt_of_lt_of_le (by assumption) (by assumption) | with_reducible exact Nat.le_trans (by assumption) (by assumption) | decide | omega)⟩
  unfold cutL
  rw [beq_iff_eq] at e
  rw [e]
  refine ch_inj ?_
  show ((ch (t ++ n)).drop _).take _ = ch n
  rw [hc]
  have e2 : (ch t ++ ch n).drop (2 : Int).toNat = ch n := List.drop_left' (by rw [htl]; rfl)
  rw [e2]
  refine List.take_of_length_le ?_
  show (ch n).length ≤ (((ch (t ++ n)).length : Int) - 2).toNat
  rw [hc, List.length_append, htl]; (first | with_reducible assumption | with_reducible exact Nat.add_le_add_left (by decide) _ | with_reducible exact Nat.le_trans (by assumption) (by decide) | with_reducible exact Nat.sub_succ_lt_self (by assumption) | with_reducible exact Nat.lt_of_lt_of_le (by assumption) (by assumption) | with_reducible exact Nat.le_trans (by assumption) (by assumption) | decide | omega)
theorem take_tag {t n : Str} (h : t ∈ tagL) : Txt.slice (t ++ n) none (some 2) = t := by
  have hc : ch (t ++ n) = ch t ++ ch n := ch_app t n
  have htl : (ch t).length = 2 := tag_len h
  have e := slice_closes_to (x := t ++ n) (j := 2) ⟨by (first | with_reducible assumption | with_reducible exact Nat.add_le_add_left (by decide) _ | with_reducible exact Nat.le_trans (by assumption) (by decide) | with_reducible exact Nat.sub_succ_lt_self (by assumption) | with_reducible exact Nat.lt_of_lt_of_le (by assumption) (by assumption) | with_reducible exact Nat.le_trans (by assumption) (by assumption) | decide | omega), by show (2 : Int) ≤ (ch (t ++ n)).length; rw [hc, List.length_append, htl]; (first | with_reducible assumption | with_reducible exact Nat.add_le_add_left (by decide) _ | with_reducible exact Nat.le_trans (by assumption) (by decide) | with_reducible exact Nat.sub_succ_lt_self (by assumption) | with_reducible exact Nat.lt_of_lt_of_le (by assumption) (by assumption) | with_reducible exact Nat.le_trans (by assumption) (by assumption) | decide | omega)⟩
  rw [beq_iff_eq] at e
  rw [e]
  refine ch_inj ?_
  show ((ch (t ++ n)).drop _).take _ = ch t
  rw [hc]
  show (ch t ++ ch n).take _ = _
  exact List.take_left' (by rw [htl]; rfl)
noncomputable def sideS (k : Nat) : Str := if k = 0 then Str.ofString " -" else Str.ofString " +"
noncomputable def sideB (k : Nat) (l : Str) : Bool := Txt.contains (sideS k) (Txt.item l 0)
theorem charAt_zero {x : Str} (h : 0 < x.length) : Txt.charAt x 0 = x.cps[0]? := by
  unfold Txt.charAt seqIndex?
  simp [h]
theorem charAt_tag {t n : Str} (h : t ∈ tagL) : Txt.charAt (t ++ n) 0 = Txt.charAt t 0 := by
  have h2 := tag_len h
  rw [charAt_zero (by rw [len_app, h2]; (first | with_reducible assumption | with_reducible exact Nat.add_le_add_left (by decide) _ | with_reducible exact Nat.le_trans (by assumption) (by decide) | with_reducible exact Nat.sub_succ_lt_self (by assumption) | with_reducible exact Nat.lt_of_lt_of_le (by assumption) (by assumption) | with_reducible exact Nat.le_trans (by assumption) (by assumption) | decide | omega)), charAt_zero (by rw [h2]; (first | with_reducible assumption | with_reducible exact Nat.add_le_add_left (by decide) _ | with_reducible exact Nat.le_trans (by assumption) (by decide) | with_reducible exact Nat.sub_succ_lt_self (by assumption) | with_reducible exact Nat.lt_of_lt_of_le (by assumption) (by assumption) | with_reducible exact Nat.le_trans (by assumption) (by assumption) | decide | omega))]
  show (t.cps ++ n.cps)[0]? = _
  have h3 : t.cps.size = 2 := h2
  rw [Array.getElem?_append_left (by (first | with_reducible assumption | with_reducible exact Nat.add_le_add_left (by decide) _ | with_reducible exact Nat.le_trans (by assumption) (by decide) | with_reducible exact Nat.sub_succ_lt_self (by assumption) | with_reducible exact Nat.lt_of_lt_of_le (by assumption) (by assumption) | with_reducible exact Nat.le_trans (by assumption) (by assumption) | decide | omega))]
theorem item_tag {t n : Str} (h : t ∈ tagL) : Txt.item (t ++ n) 0 = Txt.item t 0 := by
  unfold Txt.item; rw [charAt_tag h]
theorem tag_some : ∀ t ∈ tagL, (Txt.charAt t 0).isSome = true := by decide
theorem Ln.some {l : Str} (h : Ln l) : (Txt.charAt l 0).isSome = true := by
  obtain ⟨t, ht, n, rfl, _⟩ := h
  rw [charAt_tag ht]; exact tag_some t ht
theorem side_tag : ∀ t ∈ tagL, ∀ k ∈ [0, 1], Txt.contains (sideS k) (Txt.item t 0) = decide (t ∈ [two, tagOf ((k : Nat) + 1)]) := by decide +kernel
theorem side_keep {l : Str} {k : Nat} (h : Ln l) (hk : k ∈ [0, 1]) : sideB k l = keepL (tagOf ((k : Nat) + 1)) l := by
  obtain ⟨t, ht, n, rfl, _⟩ := h
  unfold sideB keepL
  rw [item_tag ht, take_tag ht]
  exact side_tag t ht k hk
noncomputable def rowsK (lines : List Str) (k : Nat) : List (List Str) := (lines.filter (sideB k)).map fun l => sp (cutL l)
theorem rows_eq {lines : List Str} {k : Nat} (h : ∀ l ∈ lines, Ln l) (hk : k ∈ [0, 1]) : rowsK lines k = (restK lines k).map sp := by
  unfold rowsK restK restL
  rw [List.map_map, List.filter_congr fun l hl => side_keep (h l hl) hk]
  rfl
noncomputable def topsK (lines : List Str) (k : Nat) : List Str := ((rowsK lines k).filter fun r => decide ((headsL (rowsK lines k) r).filter (fun one => one != r) = [])).map (Txt.join dot)
theorem tops_eq {lines : List Str} {k : Nat} (h : ∀ l ∈ lines, Ln l) (hk : k ∈ [0, 1]) : topsK lines k = topOf (restK lines k) := by
  unfold topsK topOf
  rw [rows_eq h hk]
  generalize restK lines k = R
  rw [List.filter_map, List.map_map]
  have e : (Txt.join dot ∘ sp) = id := funext fun x => by show Txt.join dot (sp x) = x; rw [join_txt, sp_join]
  rw [e, List.map_id]
  refine List.filter_congr fun x hx => ?_
  rw [Bool.eq_iff_iff, top_iff]
  show decide ((headsL (R.map sp) (sp x)).filter (fun one => one != sp x) = []) = true ↔ _
  rw [decide_eq_true_eq, List.filter_eq_nil_iff]
  unfold Least headsL
  constructor
  · intro q y hy e
    have := q (sp y) (List.mem_filter.mpr ⟨List.mem_map.mpr ⟨y, hy, rfl⟩, beq_iff_eq.mpr e⟩)
    simpa using this
  · intro q r hr
    obtain ⟨hr1, hr2⟩ := List.mem_filter.mp hr
    obtain ⟨y, hy, rfl⟩ := List.mem_map.mp hr1
    have := q y hy (beq_iff_eq.mp hr2)
    simp [this]

theorem mem_rest {tg : Str} {lines : List Str} {m : Str} : m ∈ restL tg lines ↔ ∃ l ∈ lines, keepL tg l = true ∧ cutL l = m := by
  unfold restL
  rw [List.mem_map]
  exact ⟨fun ⟨l, hl, e⟩ => ⟨l, (List.mem_filter.mp hl).1, (List.mem_filter.mp hl).2, e⟩, fun ⟨l, h1, h2, e⟩ => ⟨l, List.mem_filter.mpr ⟨h1, h2⟩, e⟩⟩
theorem rest_name {lines : List Str} {k : Nat} (h : ∀ l ∈ lines, Ln l) : ∀ n ∈ restK lines k, Name n := by
  intro n hn
  obtain ⟨l, hl, _, rfl⟩ := mem_rest.mp hn
  obtain ⟨t, ht, m, rfl, hm⟩ := h l hl
  rw [cut_tag ht]; exact hm

/-! the shorter delta -/
theorem mem_fold (g : Str → Str) : ∀ (xs : List Str) (acc : List Str) (l : Str), l ∈ xs.foldl (fun acc n => addNew acc (g n)) acc ↔ l ∈ acc ∨ ∃ n ∈ xs, l = g n
  | [], acc, l => by simp
  | x :: xs, acc, l => by
    rw [List.foldl_cons, mem_fold g xs]
    have : l ∈ addNew acc (g x) ↔ l ∈ acc ∨ l = g x := by
      unfold addNew
      split
      · rename_i h
        exact ⟨.inl, fun q => q.elim id fun e => e ▸ h⟩
      · rw [List.mem_append, List.mem_singleton]
    rw [this]
    constructor
    · rintro ((h | h) | ⟨n, hn, h⟩)
      · exact .inl h
      · exact .inr ⟨x, List.mem_cons_self, h⟩
      · exact .inr ⟨n, List.mem_cons_of_mem _ hn, h⟩
    · rintro (h | ⟨n, hn, h⟩)
      · exact .inl (.inl h)
      · rcases List.mem_cons.mp hn with rfl | hn
        · exact .inl (.inr h)
        · exact .inr ⟨n, hn, h⟩
theorem nodup_fold (g : Str → Str) : ∀ (xs : List Str) (acc : List Str), acc.Nodup → (xs.foldl (fun acc n => addNew acc (g n)) acc).Nodup
  | [], acc, h => h
  | x :: xs, acc, h => by
    rw [List.foldl_cons]
    refine nodup_fold g xs _ ?_
    unfold addNew
    split
    · exact h
    · rename_i hn
      rw [List.nodup_append]
      refine ⟨h, by simp, fun a ha b hb => ?_⟩
      rw [List.mem_singleton.mp hb]
      exact fun e => hn (e ▸ ha)
theorem mem_tagged {t0 t1 : List Str} {l : Str} : l ∈ taggedL t0 t1 ↔ ∃ n ∈ t0 ++ t1, l = tagLine t0 t1 n := by
  unfold taggedL
  rw [mem_fold]; simp
theorem tagged_nodup (t0 t1 : List Str) : (taggedL t0 t1).Nodup := nodup_fold _ _ _ (by simp)
theorem len_fold (g : Str → Str) : ∀ (xs : List Str) (acc : List Str), (xs.foldl (fun acc n => addNew acc (g n)) acc).length ≤ acc.length + xs.length
  | [], acc => by simp
  | x :: xs, acc => by
    rw [List.foldl_cons]
    have h1 := len_fold g xs (addNew acc (g x))
    have h2 := addNew_len acc (g x)
    simp only [List.length_cons]
    (first | with_reducible assumption | with_reducible exact Nat.add_le_add_left (by decide) _ | with_reducible exact Nat.le_trans (by assumption) (by decide) | with_reducible exact Nat.sub_succ_lt_self (by assumption) | with_reducible exact Nat.lt_of_lt_of_le (by assumption) (by assumption) | with_reducible exact Nat.le_trans (by assumption) (by assumption) | decide | omega)
theorem tagged_len (t0 t1 : List Str) : (taggedL t0 t1).length ≤ t0.length + t1.length := by
  have := len_fold (fun n => tagLine t0 t1 n) (t0 ++ t1) []
  unfold taggedL
  rw [List.length_append] at this
  simpa using this
theorem tagLine_cut (t0 t1 : List Str) (n : Str) : cutL (tagLine t0 t1 n) = n := cut_tag (tg_mem t0 t1 n)
theorem tagLine_keep (t0 t1 : List Str) (n : Str) (tg : Str) : keepL tg (tagLine t0 t1 n) = decide (tgOf t0 t1 n ∈ [two, tg]) := by
  unfold keepL tagLine
  rw [take_tag (tg_mem t0 t1 n)]
theorem tops_rest {t0 t1 : List Str} {k : Nat} (hk : k ∈ [0, 1]) (n : Str) : n ∈ restK (taggedL t0 t1) k ↔ n ∈ (if k = 0 then t0 else t1) := by
  unfold restK
  rw [mem_rest]
  have key : ∀ n ∈ t0 ++ t1, keepL (tagOf ((k : Nat) + 1)) (tagLine t0 t1 n) = true ↔ n ∈ (if k = 0 then t0 else t1) := by
    intro n hn
    rw [tagLine_keep, decide_eq_true_eq]
    have d1 : Str.ofString "  " ∈ [two, Str.ofString "- "] := by decide
    have d2 : Str.ofString "- " ∈ [two, Str.ofString "- "] := by decide
    have d3 : Str.ofString "+ " ∉ [two, Str.ofString "- "] := by decide
    have d4 : Str.ofString "  " ∈ [two, Str.ofString "+ "] := by decide
    have d5 : Str.ofString "- " ∉ [two, Str.ofString "+ "] := by decide
    have d6 : Str.ofString "+ " ∈ [two, Str.ofString "+ "] := by decide
    rcases mem01 hk with rfl | rfl
    · show tgOf t0 t1 n ∈ [two, Str.ofString "- "] ↔ n ∈ t0
      unfold tgOf
      by_cases h0 : n ∈ t0
      · by_cases h1 : n ∈ t1
        · rw [if_pos ⟨h0, h1⟩]; exact ⟨fun _ => h0, fun _ => d1⟩
        · rw [if_neg (fun q => h1 q.2), if_pos h0]; exact ⟨fun _ => h0, fun _ => d2⟩
      · rw [if_neg (fun q => h0 q.1), if_neg h0]; exact ⟨fun q => absurd q d3, fun q => absurd q h0⟩
    · show tgOf t0 t1 n ∈ [two, Str.ofString "+ "] ↔ n ∈ t1
      unfold tgOf
      by_cases h0 : n ∈ t0
      · by_cases h1 : n ∈ t1
        · rw [if_pos ⟨h0, h1⟩]; exact ⟨fun _ => h1, fun _ => d4⟩
        · rw [if_neg (fun q => h1 q.2), if_pos h0]; exact ⟨fun q => absurd q d5, fun q => absurd q h1⟩
      · have h1 : n ∈ t1 := (List.mem_append.mp hn).resolve_left h0
        rw [if_neg (fun q => h0 q.1), if_neg h0]; exact ⟨fun _ => h1, fun _ => d6⟩
  constructor
  · rintro ⟨l, hl, hkp, rfl⟩
    obtain ⟨m, hm, rfl⟩ := mem_tagged.mp hl
    rw [tagLine_cut]
    exact (key m hm).mp hkp
  · intro hn
    have hm : n ∈ t0 ++ t1 := by
      rcases mem01 hk with rfl | rfl
      · exact List.mem_append.mpr (.inl hn)
      · exact List.mem_append.mpr (.inr hn)
    exact ⟨tagLine t0 t1 n, mem_tagged.mpr ⟨n, hm, rfl⟩, (key n hm).mpr hn, tagLine_cut _ _ _⟩
theorem top_at {lines : List Str} {k : Nat} (hk : k ∈ [0, 1]) : (if k = 0 then topOf (restK lines 0) else topOf (restK lines 1)) = topOf (restK lines k) := by
  rcases mem01 hk with rfl | rfl <;> rfl

/-- readers made out of the shorter delta tell the same -/
theorem short_tells {lines : List Str} {k : Nat} (hk : k ∈ [0, 1]) (m : Str) : tellI (restK (shortL lines) k) m = tellI (restK lines k) m := by
  rw [tell_congr (ys := topOf (restK lines k)) (fun n => by unfold shortL; rw [tops_rest hk n, top_at hk]) m, tell_top]

theorem take_drop_ne {l : List Str} (hn : l.Nodup) {j : Nat} (hj : j < l.length) : l[j] ∉ l.take j ++ l.drop (j + 1) := by
  intro h
  have e : l = l.take j ++ l[j] :: l.drop (j + 1) := by rw [← List.drop_eq_getElem_cons hj, List.take_append_drop]
  rw [e] at hn
  rw [List.nodup_append] at hn
  obtain ⟨_, h2, h3⟩ := hn
  rcases List.mem_append.mp h with h | h
  · exact h3 _ h _ List.mem_cons_self rfl
  · exact (List.nodup_cons.mp h2).1 h
/-- without any one of its lines a reader of a side that has it tells 0 of its name -/
theorem left_tells {lines : List Str} {k j : Nat} (hk : k ∈ [0, 1]) (hj : j < (shortL lines).length) (hs : keepL (tagOf ((k : Nat) + 1)) (shortL lines)[j] = true) :
    tellI (restK ((shortL lines).take j ++ (shortL lines).drop (j + 1)) k) (cutL (shortL lines)[j]) = 0 := by
  have h0 := (tell_zero (restK ((shortL lines).take j ++ (shortL lines).drop (j + 1)) k) (cutL (shortL lines)[j])).mpr
  refine beq_iff_eq.mp (h0 ?_)
  rintro ⟨x, hx, e⟩
  have hn : cutL (shortL lines)[j] ∈ topOf (restK lines k) := by
    rw [← top_at hk, ← tops_rest hk]
    exact mem_rest.mpr ⟨_, List.getElem_mem hj, hs, rfl⟩
  obtain ⟨l, hl, hkl, rfl⟩ := mem_rest.mp hx
  have hls : l ∈ shortL lines := (List.mem_append.mp hl).elim List.mem_of_mem_take List.mem_of_mem_drop
  have hx' : cutL l ∈ topOf (restK lines k) := by
    rw [← top_at hk, ← tops_rest hk]
    exact mem_rest.mpr ⟨_, hls, hkl, rfl⟩
  have eq := sp_inj ((mem_top.mp hn).2 _ (mem_top.mp hx').1 e)
  obtain ⟨m, _, rfl⟩ := mem_tagged.mp hls
  obtain ⟨m', _, hm'⟩ := mem_tagged.mp (List.getElem_mem hj)
  rw [hm', tagLine_cut, tagLine_cut] at eq
  subst eq
  have := take_drop_ne (tagged_nodup (topOf (restK lines 0)) (topOf (restK lines 1))) hj
  exact this (hm' ▸ hl)
end NB90
end
section
set_option autoImplicit false
open PySem PySem.W PyProof.Rows
set_option Elab.async false
namespace NB90

theorem glue_mem {d : Nat} : ∀ {ps : List (List Nat)} {c : Nat}, c ∈ glue d ps → c = d ∨ ∃ p ∈ ps, c ∈ p
  | [], c, h => by simp [glue] at h
  | [p], c, h => .inr ⟨p, by simp, h⟩
  | p :: q :: r, c, h => by
    unfold glue at h
    rcases List.mem_append.mp h with h | h
    · exact .inr ⟨p, by simp, h⟩
    · rcases List.mem_cons.mp h with rfl | h
      · exact .inl rfl
      · rcases glue_mem h with h | ⟨p', hp, h⟩
        · exact .inl h
        · exact .inr ⟨p', List.mem_cons_of_mem _ hp, h⟩
theorem join_chars {l : List Str} (h : ∀ p ∈ l, ∀ c ∈ ch p, c = 97 ∨ c = 98 ∨ c = 46) : ∀ c ∈ ch (Txt.join dot l), c = 97 ∨ c = 98 ∨ c = 46 := by
  intro c hc
  rw [join_txt, ch_join] at hc
  rcases glue_mem hc with rfl | ⟨p, hp, hc⟩
  · exact .inr (.inr rfl)
  · obtain ⟨q, hq, rfl⟩ := List.mem_map.mp hp
    exact h q hq c hc
theorem menu_chars : ∀ p ∈ menuL, ∀ c ∈ ch p, c = 97 ∨ c = 98 ∨ c = 46 := by decide
theorem parts_name (x : Int) : Name (Txt.join dot (partsL x)) := by
  refine ⟨?_, join_chars fun p hp => menu_chars p (partsL_mem x p hp)⟩
  have h1 := sum_le fun p hp => menu_short p (partsL_mem x p hp)
  have h2 := partsL_len x
  have h3 : (Str.join dot (partsL x)).length ≤ _ := StrLaws.join_length_le dot (partsL x)
  rw [join_txt]
  have : dot.length = 1 := rfl
  rw [this] at h3
  (first | with_reducible assumption | with_reducible exact Nat.add_le_add_left (by decide) _ | with_reducible exact Nat.le_trans (by assumption) (by decide) | with_reducible exact Nat.sub_succ_lt_self (by assumption) | with_reducible exact Nat.lt_of_lt_of_le (by assumption) (by assumption) | with_reducible exact Nat.le_trans (by assumption) (by assumption) | decide | omega)
theorem line_ln (x : Int) : Ln (lineS x) := by
  have hb4 := fmod_bd x (show (0 : Int) < 4 by decide)
  exact ⟨_, pickS_mem (l := tagL) (by show _ < 4; (first | with_reducible assumption | with_reducible exact Nat.add_le_add_left (by decide) _ | with_reducible exact Nat.le_trans (by assumption) (by decide) | with_reducible exact Nat.sub_succ_lt_self (by assumption) | with_reducible exact Nat.lt_of_lt_of_le (by assumption) (by assumption) | with_reducible exact Nat.le_trans (by assumption) (by assumption) | decide | omega)), _, rfl, parts_name x⟩
noncomputable def ownL : List Str := [Str.ofString "  a.b", Str.ofString "- a", Str.ofString "+ ab", Str.ofString "+ a.b.a", Str.ofString "? b", Str.ofString "- b.", Str.ofString "+ b", Str.ofString "  b..a"]
theorem own_ln : ∀ l ∈ ownL, Ln l := by
  have ok : ∀ (t n l : Str), t ∈ tagL → l = t ++ n → n.length ≤ 50 → (∀ c ∈ ch n, c = 97 ∨ c = 98 ∨ c = 46) → Ln l := fun t n l h1 h2 h3 h4 => ⟨t, h1, n, h2, h3, h4⟩
  intro l hl
  simp only [ownL, List.mem_cons, List.not_mem_nil, or_false] at hl
  rcases hl with rfl | rfl | rfl | rfl | rfl | rfl | rfl | rfl
  · exact ok (Str.ofString "  ") (Str.ofString "a.b") _ (by decide) (by decide +kernel) (by decide) (by decide)
  · exact ok (Str.ofString "- ") (Str.ofString "a") _ (by decide) (by decide +kernel) (by decide) (by decide)
  · exact ok (Str.ofString "+ ") (Str.ofString "ab") _ (by decide) (by decide +kernel) (by decide) (by decide)
  · exact ok (Str.ofString "+ ") (Str.ofString "a.b.a") _ (by decide) (by decide +kernel) (by decide) (by decide)
  · exact ok (Str.ofString "? ") (Str.ofString "b") _ (by decide) (by decide +kernel) (by decide) (by decide)
  · exact ok (Str.ofString "- ") (Str.ofString "b.") _ (by decide) (by decide +kernel) (by decide) (by decide)
  · exact ok (Str.ofString "+ ") (Str.ofString "b") _ (by decide) (by decide +kernel) (by decide) (by decide)
  · exact ok (Str.ofString "  ") (Str.ofString "b..a") _ (by decide) (by decide +kernel) (by decide) (by decide)
noncomputable def linesL (script : List Int) : List Str := (script.take 4).map lineS ++ ownL
theorem lines_ln (script : List Int) : ∀ l ∈ linesL script, Ln l := by
  intro l hl
  rcases List.mem_append.mp hl with hl | hl
  · obtain ⟨x, _, rfl⟩ := List.mem_map.mp hl
    exact line_ln x
  · exact own_ln l hl
theorem lines_len (script : List Int) : (linesL script).length ≤ 12 := by
  unfold linesL
  rw [List.length_append, List.length_map, List.length_take]
  show _ + 8 ≤ 12
  (first | with_reducible assumption | with_reducible exact Nat.add_le_add_left (by decide) _ | with_reducible exact Nat.le_trans (by assumption) (by decide) | with_reducible exact Nat.sub_succ_lt_self (by assumption) | with_reducible exact Nat.lt_of_lt_of_le (by assumption) (by assumption) | with_reducible exact Nat.le_trans (by assumption) (by assumption) | decide | omega)

theorem up_name {n : Str} (h : Name n) : Name (upS n) := by
  by_cases hd : 46 ∈ ch n
  · have h2 := sp_two hd
    have hp : Pre (sp (upS n)) (sp n) := by
      unfold Pre
      rw [sp_up hd, List.length_take, Nat.min_eq_left (by (first | with_reducible assumption | with_reducible exact Nat.add_le_add_left (by decide) _ | with_reducible exact Nat.le_trans (by assumption) (by decide) | with_reducible exact Nat.sub_succ_lt_self (by assumption) | with_reducible exact Nat.lt_of_lt_of_le (by assumption) (by assumption) | with_reducible exact Nat.le_trans (by assumption) (by assumption) | decide | omega))]
    rcases (pre_iff n (upS n)).mp hp with e | e
    · rw [← e]; exact h
    · obtain ⟨t, e⟩ := (starts_iff n (upS n)).mp e
      refine ⟨?_, fun c hc => h.2 c (by rw [e]; exact List.mem_append.mpr (.inl hc))⟩
      have h1 : (ch n).length ≤ 50 := h.1
      have h2 : (upS n).length = (ch (upS n)).length := rfl
      rw [e, List.length_append] at h1
      (first | with_reducible assumption | with_reducible exact Nat.add_le_add_left (by decide) _ | with_reducible exact Nat.le_trans (by assumption) (by decide) | with_reducible exact Nat.sub_succ_lt_self (by assumption) | with_reducible exact Nat.lt_of_lt_of_le (by assumption) (by assumption) | with_reducible exact Nat.le_trans (by assumption) (by assumption) | decide | omega)
  · have e : upS n = Str.empty := by
      show Txt.join dot ((sp n).take ((sp n).length - 1)) = _
      rw [sp_one hd, join_txt]
      rfl
    rw [e]
    exact ⟨by decide, by decide⟩
theorem tag_name_ln {t0 t1 : List Str} {n : Str} (h : Name n) : Ln (tagLine t0 t1 n) := ⟨_, tg_mem t0 t1 n, n, rfl, h⟩
theorem short_ln {lines : List Str} (h : ∀ l ∈ lines, Ln l) : ∀ l ∈ shortL lines, Ln l := by
  intro l hl
  obtain ⟨n, hn, rfl⟩ := mem_tagged.mp hl
  refine tag_name_ln ?_
  rcases List.mem_append.mp hn with hn | hn
  · exact rest_name h n (top_mem hn)
  · exact rest_name h n (top_mem hn)
theorem short_len {lines : List Str} : (shortL lines).length ≤ 2 * lines.length := by
  have h := tagged_len (topOf (restK lines 0)) (topOf (restK lines 1))
  have h0 := top_len (restK lines 0)
  have h1 := top_len (restK lines 1)
  have h2 : (restK lines 0).length ≤ lines.length := rest_len _ _
  have h3 : (restK lines 1).length ≤ lines.length := rest_len _ _
  show (taggedL _ _).length ≤ _
  (first | with_reducible assumption | with_reducible exact Nat.add_le_add_left (by decide) _ | with_reducible exact Nat.le_trans (by assumption) (by decide) | with_reducible exact Nat.sub_succ_lt_self (by assumption) | with_reducible exact Nat.lt_of_lt_of_le (by assumption) (by assumption) | with_reducible exact Nat.le_trans (by assumption) (by assumption) | decide | omega)
noncomputable def namesL (lines : List Str) : List Str := lines.map cutL
noncomputable def askedL (lines : List Str) : List Str := namesL lines ++ (namesL lines).map upS
theorem names_name {lines : List Str} (h : ∀ l ∈ lines, Ln l) : ∀ n ∈ namesL lines, Name n := by
  intro n hn
  obtain ⟨l, hl, rfl⟩ := List.mem_map.mp hn
  obtain ⟨t, ht, m, rfl, hm⟩ := h l hl
  rw [cut_tag ht]; exact hm
theorem asked_name {lines : List Str} (h : ∀ l ∈ lines, Ln l) : ∀ n ∈ askedL lines, Name n := by
  intro n hn
  rcases List.mem_append.mp hn with hn | hn
  · exact names_name h n hn
  · obtain ⟨m, hm, rfl⟩ := List.mem_map.mp hn
    exact up_name (names_name h m hm)
end NB90
end
section
set_option autoImplicit false
open PySem PySem.W PyProof.Rows
set_option Elab.async false
set_option maxRecDepth 100000
namespace NB90
variable {h₀ : Heap} {mg mb : Str → Option Value} {W : Addr → Prop} {z₀ z z' z₁ : Fz} {s₀ s s' s₁ : Shared} {env : Env} {ρ : List (Str × Value)} {prog : Program} {w : World} {A : Around} {E : Value → Shared → Prop}

theorem turn_two0 (elt t1 iter1 t2 iter2 : Expr) (ifs2 : List Expr) (scope : Scope) (pos : Pos) (it acc : Value) (env : Env) :
    compTurn (.ListComp elt [⟨t1, iter1, [], 0⟩, ⟨t2, iter2, ifs2, 0⟩] scope pos) 0 it acc env = (standAt iter1.pos >>= fun _ => pyNext it >>= fun r => match r with
      | none => pure (.done .next)
      | some v => letOwnedTupleGo t1 it v >>= fun _ => assign t1 env v >>= fun _ => eval iter2 env >>= fun x => standAt iter2.pos >>= fun _ => foldedSetIterable iter2 env x >>= fun x =>
          holding [x] (pyIter x) >>= fun it2 => runOwn (.compStart (.ListComp elt [⟨t1, iter1, [], 0⟩, ⟨t2, iter2, ifs2, 0⟩] scope pos) 1 it2 acc env) env >>= fun _ =>
            again (.compLoop (.ListComp elt [⟨t1, iter1, [], 0⟩, ⟨t2, iter2, ifs2, 0⟩] scope pos) 0 it acc env)) := by rfl
theorem turn_two1 (elt t1 iter1 t2 iter2 : Expr) (ifs2 : List Expr) (scope : Scope) (pos : Pos) (it acc : Value) (env : Env) :
    compTurn (.ListComp elt [⟨t1, iter1, [], 0⟩, ⟨t2, iter2, ifs2, 0⟩] scope pos) 1 it acc env = (standAt iter2.pos >>= fun _ => pyNext it >>= fun r => match r with
      | none => pure (.done .next)
      | some v => letOwnedTupleGo t2 it v >>= fun _ => assign t2 env v >>= fun _ =>
        forIn ifs2 true (fun c r => if r = true then do let ok ← isTrue c env (eval c env); pure (ForInStep.yield ok) else pure (ForInStep.yield r)) >>= fun ok =>
          if ok = true then (eval elt env >>= fun x => call (.builtin "list.append") [acc, x] >>= fun _ => pure ()) >>= fun _ => again (.compLoop (.ListComp elt [⟨t1, iter1, [], 0⟩, ⟨t2, iter2, ifs2, 0⟩] scope pos) 1 it acc env)
          else again (.compLoop (.ListComp elt [⟨t1, iter1, [], 0⟩, ⟨t2, iter2, ifs2, 0⟩] scope pos) 1 it acc env)) := by rfl

section
variable {elt iter1 iter2 t1 : Expr} {x y : Str} {px py : Pos} {ifs2 : List Expr} {scope : Scope} {pos : Pos} {it acc : Value} {I D : Addr} {R : Result → Shared → Prop}
theorem loop_two1 : LoopIs prog w A (.compLoop (.ListComp elt [⟨t1, iter1, [], 0⟩, ⟨.Name y py, iter2, ifs2, 0⟩] scope pos) 1 (.ref I) (.ref D) env) I D y py ifs2 elt env R := by
  intro Iv turn n s h
  refine codeAny_loop rfl Iv (fun n s hI => ?_) n h
  show wpAny _ A ((compTurn (.ListComp elt [⟨t1, iter1, [], 0⟩, ⟨.Name y py, iter2, ifs2, 0⟩] scope pos) 1 (.ref I) (.ref D) env).onRaise (fun x => do noteFrame x env; theTreesLotGoes x)) _ _ s
  refine wpAny_noted ?_
  rw [turn_two1]
  refine wpAny_bind (wpAny_standAt (wpAny_bind (wpAny_mono (turn n s hI) (fun r s₁ h₁ => ?_) fun _ _ h' => h')))
  cases r with
  | none => exact wpAny_pure h₁
  | some v =>
    refine wpAny_bind (wpAny_of_eq (a := ()) rfl ?_)
    refine wpAny_bind (wpAny_mono h₁ (fun _ s₂ h₂ => wpAny_bind (wpAny_mono h₂ (fun ok s₃ h₃ => ?_) fun _ _ h' => h')) fun _ _ h' => h')
    cases ok with
    | false => exact wpAny_pure ⟨rfl, h₃⟩
    | true => exact wpAny_bind (wpAny_bind (wpAny_mono h₃ (fun x s₄ h₄ => wpAny_bind (wpAny_mono h₄ (fun _ s₅ h₅ => wpAny_pure (wpAny_pure ⟨rfl, h₅⟩)) fun _ _ h' => h')) fun _ _ h' => h'))
theorem start_two1 (h0 : codeAny (model prog w) A (.compLoop (.ListComp elt [⟨t1, iter1, [], 0⟩, ⟨.Name y py, iter2, ifs2, 0⟩] scope pos) 1 it acc env) R s)
    (h : wpAny (model prog w) A (pyIter it) (fun it' s' => codeAny (model prog w) A (.compLoop (.ListComp elt [⟨t1, iter1, [], 0⟩, ⟨.Name y py, iter2, ifs2, 0⟩] scope pos) 1 it' acc env) R s') (notedBy (model prog w) A env fun x s' => R (.error x) s') s) :
    codeAny (model prog w) A (.compStart (.ListComp elt [⟨t1, iter1, [], 0⟩, ⟨.Name y py, iter2, ifs2, 0⟩] scope pos) 1 it acc env) R s := by
  refine codeAny_of_tree ?_
  show wpAny _ _ ((compStart (.ListComp elt [⟨t1, iter1, [], 0⟩, ⟨.Name y py, iter2, ifs2, 0⟩] scope pos) 1 it acc env).onRaise (fun x => do noteFrame x env; standAt theWindowsPlace)) _ _ s
  refine wpAny_notedAt ?_
  unfold compStart
  show wpAny _ _ (ask >>= _) _ _ s
  refine wpAny_bind (wpAny_askSetting (wpAny_ite ?_))
  split
  · first
      | exact wpAny_bind (wpAny_pure (wpAny_pure (And.intro rfl h0)))
      | exact wpAny_pure (And.intro rfl h0)
  · first
      | exact wpAny_bind (wpAny_rule (wpAny_bind (wpAny_standAt (wpAny_bind (wpAny_mono h (fun it' s' h' => wpAny_pure (And.intro rfl h')) fun _ _ x => x)))))
      | (refine wpAny_bind (wpAny_rule ?_); show wpAny _ _ (standAt iter2.pos >>= _) _ _ s; exact wpAny_bind (wpAny_standAt (wpAny_bind (wpAny_mono h (fun it' s' h' => wpAny_pure (And.intro rfl h')) fun _ _ x => x))))
theorem loop_two0 (Iv : Nat → Shared → Prop)
    (turn : ∀ n s, Iv n s → wpAny (model prog w) A (pyNext it) (fun r s₁ => match r with
      | none => R (.ok .next) s₁
      | some v => wpAny (model prog w) A (assign (.Name x px) env v) (fun _ s₂ => wpAny (model prog w) A (eval iter2 env) (fun xv s₃ => wpAny (model prog w) A (pyIter xv) (fun it2 s₄ =>
          codeAny (model prog w) A (.compStart (.ListComp elt [⟨.Name x px, iter1, [], 0⟩, ⟨.Name y py, iter2, ifs2, 0⟩] scope pos) 1 it2 acc env) (fun r s₅ => r = .ok .next ∧ ∃ m, m < n ∧ Iv m s₅) s₄)
          (fun _ _ => False) s₃) (fun _ _ => False) s₂) (fun _ _ => False) s₁) (fun _ _ => False) s)
    (n : Nat) (s : Shared) (h : Iv n s) (hs : ∀ x, foldedSetIterable iter2 env x = pure x) :
    codeAny (model prog w) A (.compLoop (.ListComp elt [⟨.Name x px, iter1, [], 0⟩, ⟨.Name y py, iter2, ifs2, 0⟩] scope pos) 0 it acc env) R s := by
  refine codeAny_loop rfl Iv (fun n s hI => ?_) n h
  show wpAny _ A ((compTurn (.ListComp elt [⟨.Name x px, iter1, [], 0⟩, ⟨.Name y py, iter2, ifs2, 0⟩] scope pos) 0 it acc env).onRaise (fun x => do noteFrame x env; theTreesLotGoes x)) _ _ s
  refine wpAny_noted ?_
  rw [turn_two0]
  refine wpAny_bind (wpAny_standAt (wpAny_bind (wpAny_mono (turn n s hI) (fun r s₁ h₁ => ?_) fun _ _ h' => h'.elim)))
  cases r with
  | none => exact wpAny_pure h₁
  | some v =>
    refine wpAny_bind (wpAny_of_eq (a := ()) rfl ?_)
    refine wpAny_bind (wpAny_mono h₁ (fun _ s₂ h₂ => wpAny_bind (wpAny_mono h₂ (fun xv s₃ h₃ => ?_) fun _ _ h' => h'.elim)) fun _ _ h' => h'.elim)
    refine wpAny_bind (wpAny_standAt (wpAny_bind (wpAny_of_eq (hs xv) (wpAny_bind (wpAny_holding (wpAny_mono h₃ (fun it2 s₄ h₄ => ?_) fun _ _ h' => h'.elim))))))
    refine wpAny_bind (wpAny_runOwn (codeAny_mono h₄ fun r s₅ h₅ => ?_))
    obtain ⟨rfl, h₅⟩ := h₅
    exact wpAny_pure ⟨rfl, h₅⟩
end

theorem Inn.rebase (J : Inn h₀ W z₀ s₀ env ρ z s) : Inn h₀ W z s₀ env ρ z s := ⟨⟨J.grow.toTo, Fz.le.refl _, J.inn, fun _ _ e => .inl e⟩, J.frame, J.base, J.apart⟩
theorem Inn.unbase {ρ' : List (Str × Value)} (J : Inn h₀ W z₀ s₀ env ρ z s) (K : Inn h₀ W z s₀ env ρ' z' s') : Inn h₀ W z₀ s₀ env ρ' z' s' :=
  ⟨⟨K.grow.toTo, J.grow.le.trans K.grow.le, K.inn, fun a o e => (K.grow.new a o e).elim (fun q => J.grow.new a o q) .inr⟩, K.frame, K.base, K.apart⟩

theorem comp_run2 {α β : Type} {xs : List α} {ys : List β} {enc : α → PyData} {enc2 : β → PyData} {p : α → β → Bool} {f : α → β → PyData} {elt iter1 iter2 : Expr} {x y : Str} {px py : Pos} {ifs : List Expr} {S scope : Scope} {cl : List (Str × Addr)} {pos : Pos} {I : Addr} {T : Addr → Prop} {G : Nat}
    {St : Nat → (Addr → Prop) → Fz → Shared → Prop} {R : Value → Addr → Result → Shared → Prop} {sI : Shared} (hh : A.handled = none)
    (J : Inn h₀ No z₀ s₀ env ρ z s) (hS : env.scope = S) (cs : CompScope scope x false) (hyl : scope.names.lookup y = some .local) (hxy : y ≠ x)
    (hcl1 : ∀ n c, cl.lookup n = some c → env.cells.lookup n = some c) (hcl2 : ∀ n, (n, .free) ∈ scope.names → cl.lookup n = env.cells.lookup n)
    (hfree : ∀ q ∈ scope.names, q.2 = .free → (S.names.lookup q.1 = some .cell ∨ S.names.lookup q.1 = some .free) ∧ ∃ u, ρ.lookup q.1 = some u)
    (tI : To No s sI) (It : Iter prog w A I G xs.length (fun i z v => ∀ a, xs[i]? = some a → Rd z v (enc a)) St) (hst : St 0 T z sI) (hT : ∀ a, T a → s.heap.objs.size ≤ a ∧ a < sI.heap.objs.size) (hG : s.gens.size ≤ G)
    (hlen : ∀ i, ((xs.take i).flatMap fun a => (ys.filter (p a)).map (f a)).length + ys.length ≤ sizeLine) (hs2 : ∀ (cenv : Env) v, foldedSetIterable iter2 cenv v = pure v)
    (src2 : ∀ cenv : Env, cenv.scope = reS scope S → ∀ a ∈ xs, ∀ (v : Value) (z1 : Fz) (s1 : Shared) (E : Value → Shared → Prop) (Q : Value → Shared → Prop), Rd z1 v (enc a) → z.le z1 → Inn h₀ No z1 s1 cenv ((x, v) :: frees scope ρ) z1 s1 →
      (∀ xv z2 s2, Inn h₀ No z1 s1 cenv ((x, v) :: frees scope ρ) z2 s2 → Rd z2 xv (.list (ys.map enc2)) → Q xv s2) → wpAny (model prog w) A (eval iter2 cenv) Q E s1)
    (turn : ∀ cenv : Env, cenv.scope = reS scope S → ∀ a ∈ xs, ∀ (v : Value) (z1 : Fz), Rd z1 v (enc a) → z.le z1 → ∀ b ∈ ys, Turn h₀ No z1 cenv ((x, v) :: frees scope ρ) prog w A y ifs elt (fun _ => True) enc2 (p a) (f a) b)
    (fin : ∀ (D C : Addr) (z' : Fz) (s' : Shared), s.heap.objs.size ≤ C → (∃ m, s'.heap.Ns C m) → Grow No z s z' s' → (∀ o, ¬ z' C o) → Rd z' (.ref D) (.list (xs.flatMap fun a => (ys.filter (p a)).map (f a))) → R (.ref D) C (.ok .next) s') :
    wpAny (model prog w) A (newList []) (fun acc s₃ => wpAny (model prog w) A (newFunctionEnv scope env.globals cl [] env.qual none .none (some env)) (fun cenv s₄ =>
      codeAny (model prog w) A (.compStart (.ListComp elt [⟨.Name x px, iter1, [], 0⟩, ⟨.Name y py, iter2, ifs, 0⟩] scope pos) 0 (.ref I) acc { cenv with scope := relabel scope env }) (R acc cenv.locals) s₄) E s₃) E sI := by
  refine comp_setup (K := fun _ => True) J hS cs no_lt hcl1 hcl2 hfree tI It hst hT (fun _ _ _ _ => trivial) trivial fun cenv D Tx s4 J4 hsc hCge hDsize hDC store hTx hTxe hx hst4 hT4 hTD hTTx hTC hTxl hDz hD4 _ => ?_
  obtain rfl : Tx = cenv.locals := hTxe rfl
  refine loop_two0 (fun n s' => ∃ i T z' vs, CI h₀ No z s cenv (frees scope ρ) St xs.length D cenv.locals n s' i T z' vs ((xs.take i).flatMap fun a => (ys.filter (p a)).map (f a))) ?_ xs.length s4 ⟨0, T, z, [], rfl, Nat.zero_le _, J4, Fz.le.refl z, hst4, hT4, hTD, hTTx, hTC, hTxl, hDz, hD4, by simpa using RdAll.nil z⟩ (hs2 cenv)
  rintro n s5 ⟨i, T5, z5, vs, rfl, hi, J5, hle5, hst5, hT5, hTD5, hTTx5, hTC5, hTxl5, hDz5, hpl5, hall5⟩
  by_cases hlt : i < xs.length
  · refine It.next i T5 z5 s5 _ _ hlt J5.inn hst5 fun v s6 T6 hP hst6 t6 hT6 => ?_
    have J6 := J5.step (fun a ha => (hT5 a ha).1) hG (fun a o ha => (hT5 a ha).2.2 o) hTC5 t6
    have hpl6 : s6.heap.PlainList D vs.toArray := hpl5.at fun o e => t6.keep D o hTD5 e
    have hTa : ∀ a, T6 a → s.heap.objs.size ≤ a ∧ a < s6.heap.objs.size ∧ ∀ o, ¬ z5 a o := fun a ha => by
      obtain ⟨h1 | h1, h2⟩ := hT6 a ha
      · exact ⟨(hT5 a h1).1, h2, (hT5 a h1).2.2⟩
      · exact ⟨Nat.le_trans J5.grow.size h1, h2, fun o e => Nat.lt_irrefl _ (Nat.lt_of_lt_of_le (Heap.lt_size (J5.inn _ _ e)) h1)⟩
    have hTDa : ¬ T6 D := fun h => (hT6 D h).1.elim hTD5 fun hl => Nat.lt_irrefl _ (Nat.lt_of_lt_of_le (Heap.lt_size hpl5.choose_spec) hl)
    have hTTa : ¬ T6 cenv.locals := fun h => (hT6 _ h).1.elim hTTx5 fun hl => Nat.lt_irrefl _ (Nat.lt_of_lt_of_le hTxl5 hl)
    have hTCa : Apart T6 cenv := ⟨hTTa, fun y c hc h => (hT6 _ h).1.elim (hTC5.2 y c hc) fun hl => by obtain ⟨⟨_, hv⟩, _⟩ := J5.frame.cz y c hc; exact Nat.lt_irrefl _ (Nat.lt_of_lt_of_le hv.lt hl)⟩
    refine wpAny_assign_Name (store v z5 s6 _ _ J6 fun s7 J7 t7 => ?_)
    have hrd : Rd z5 v (enc xs[i]) := hP xs[i] (List.getElem?_eq_getElem hlt)
    have hpl7 : s7.heap.PlainList D vs.toArray := hpl6.at fun o e => t7.keep D o (fun h => hTx.1 h.symm) e
    have hst7 : St (i + 1) T6 z5 s7 := It.keep _ _ _ _ _ _ hst6 (Fz.le.refl z5) (fun a o ha e => t7.keep a o (fun h => hTTa (h ▸ ha)) e) t7.gens
    refine src2 cenv hsc xs[i] (List.getElem_mem hlt) v z5 s7 _ _ hrd hle5 J7.here fun xv z8 s8 J8 hr8 => ?_
    have J8' := J7.up J8.grow
    have hpl8 : s8.heap.PlainList D vs.toArray := hpl7.at fun o e => J8.grow.all D o e
    have hD8 : D < s7.heap.objs.size := Heap.lt_size hpl7.choose_spec
    have hDz8 : ∀ o, ¬ z8 D o := fun o e => (J8.grow.new D o e).elim (hDz5 o) fun hl => Nat.lt_irrefl _ (Nat.lt_of_lt_of_le hD8 hl)
    refine wpAny_mono (list_src (E := fun _ _ => False) (K := fun _ => True) hh J8' hr8 trivial (fun _ _ _ _ => trivial)) (fun it2 s9 h9 => ?_) fun _ _ e => e
    obtain ⟨I2, T2, G2, St2, rfl, t9, It2, hst9, hT9, hG9, _⟩ := h9
    have J9 := J8'.to t9
    have hl8 : cenv.locals < s8.heap.objs.size := by obtain ⟨m, hn, _⟩ := J8'.frame.ns; exact hn.lt
    have hX9 : XOk T6 s9.heap z8 s9 := fun a ha => by
      have hl7 : a < s7.heap.objs.size := Nat.lt_of_lt_of_le (hTa a ha).2.1 t7.size
      exact ⟨fun o e => (J8.grow.new a o e).elim ((hTa a ha).2.2 o) fun hl => Nat.lt_irrefl _ (Nat.lt_of_lt_of_le hl7 hl), Nat.lt_of_lt_of_le hl7 (Nat.le_trans J8.grow.size t9.size), fun o e => e⟩
    have inner : codeAny (model prog w) A (.compLoop (.ListComp elt [⟨.Name x px, iter1, [], 0⟩, ⟨.Name y py, iter2, ifs, 0⟩] scope pos) 1 (.ref I2) (.ref D) cenv) (fun r s' => r = .ok .next ∧ ∃ m, m < xs.length - i ∧ ∃ i T z' vs, CI h₀ No z s cenv (frees scope ρ) St xs.length D cenv.locals m s' i T z' vs ((xs.take i).flatMap fun a => (ys.filter (p a)).map (f a))) s9 := by
      have J9r : Inn h₀ No z8 { s with gens := s8.gens } cenv ((x, v) :: frees scope ρ) z8 s9 := ⟨⟨⟨J9.grow.keep, J9.grow.size, J9.grow.os, t9.gens, t9.bare⟩, Fz.le.refl _, J9.inn, fun _ _ e => .inl e⟩, J9.frame, J9.base, J9.apart⟩
      have hT2 : ∀ a, T2 a → s8.heap.objs.size ≤ a ∧ a < s9.heap.objs.size ∧ ∀ o, ¬ z8 a o := fun a ha => ⟨(hT9 a ha).1, (hT9 a ha).2, fun o e => Nat.lt_irrefl _ (Nat.lt_of_lt_of_le (Heap.lt_size (J8'.inn _ _ e)) (hT9 a ha).1)⟩
      refine comp_loop (z₁ := z8) (s₁ := { s with gens := s8.gens }) (W := No) (K := fun _ => True) (xs := ys) (enc := enc2) (p := p xs[i]) (f := f xs[i]) (pre := (xs.take i).flatMap fun a => (ys.filter (p a)).map (f a)) (X := T6) (hq := s9.heap) (Tx := cenv.locals) (ρ := (x, v) :: frees scope ρ) loop_two1 It2 (hlen i) hG9 hDsize hDC ?_ hTx ?_ no_lt (fun _ _ _ _ => trivial) (fun a ha => ⟨fun q => hTDa (q ▸ ha), fun q => hTTa (q ▸ ha), fun q => q⟩)
        (turn cenv hsc xs[i] (List.getElem_mem hlt) v z8 (hrd.mono J8.grow.le) (hle5.trans J8.grow.le)) ?_ 0 T2 z8 s9 vs (Nat.zero_le _) J9r (Fz.le.refl _) hst9 (fun a ha => ⟨Nat.le_trans J8'.grow.size (hT2 a ha).1, (hT2 a ha).2⟩) ?_ ?_ ?_ ?_ hDz8 ?_ ?_ trivial hX9 ?_
      · intro u z' s' Q E K h
        exact K.st hCge (kind_of hsc (by subst hS; exact lookup_relabel_local hyl)) h
      · rw [lookup_cons_ne hxy]; exact frees_none (by rw [hyl]; nofun)
      · intro z10 s10 ws J10 hle10 hpl10 hall10 _ hDz10 hX10
        have J10' : Inn h₀ No z s cenv ((x, v) :: frees scope ρ) z10 s10 := ⟨⟨⟨J10.grow.keep, J10.grow.size, J10.grow.os, fun i x e => J10.grow.gens i x (J8'.grow.gens i x e), fun b => J10.grow.bare (J8'.grow.bare b)⟩, J8'.grow.le.trans J10.grow.le, J10.inn, fun a o e => (J10.grow.new a o e).elim (J8'.grow.new a o) .inr⟩, J10.frame, J10.base, J10.apart⟩
        refine ⟨rfl, xs.length - (i + 1), by (first | with_reducible assumption | with_reducible exact Nat.add_le_add_left (by decide) _ | with_reducible exact Nat.le_trans (by assumption) (by decide) | with_reducible exact Nat.sub_succ_lt_self (by assumption) | with_reducible exact Nat.lt_of_lt_of_le (by assumption) (by assumption) | with_reducible exact Nat.le_trans (by assumption) (by assumption) | decide | omega), i + 1, T6, z10, ws, rfl, hlt, J10'.weak (weak_cons hx), hle5.trans (J8.grow.le.trans hle10), ?_, fun a ha => ⟨(hTa a ha).1, (hX10 a ha).2.1, (hX10 a ha).1⟩, hTDa, hTTa, hTCa, ?_, hDz10, hpl10, ?_⟩
        · exact It.keep _ _ _ _ _ _ hst7 (J8.grow.le.trans hle10) (fun a o ha e => (hX10 a ha).2.2 o (t9.all a o (J8.grow.all a o e))) fun j g e => J10.grow.gens j g (J8.grow.gens j g e)
        · obtain ⟨m, hn, _⟩ := J10.frame.ns; exact hn.lt
        · rw [List.take_add_one, List.getElem?_eq_getElem hlt, Option.toList_some, List.flatMap_append]
          simpa using hall10
      · exact fun h => Nat.lt_irrefl _ (Nat.lt_of_lt_of_le (Nat.lt_of_lt_of_le hD8 J8.grow.size) (hT2 D h).1)
      · exact fun h => Nat.lt_irrefl _ (Nat.lt_of_lt_of_le hl8 (hT2 _ h).1)
      · exact ⟨fun h => Nat.lt_irrefl _ (Nat.lt_of_lt_of_le hl8 (hT2 _ h).1), fun y c hc h => by obtain ⟨⟨_, hv⟩, _⟩ := J8'.frame.cz y c hc; exact Nat.lt_irrefl _ (Nat.lt_of_lt_of_le hv.lt (hT2 _ h).1)⟩
      · exact Nat.lt_of_lt_of_le hl8 t9.size
      · exact hpl8.at fun o e => t9.all D o e
      · simpa using hall5.mono J8.grow.le
      · exact fun a ha h => Nat.lt_irrefl _ (Nat.lt_of_lt_of_le (Nat.lt_of_lt_of_le (hTa a ha).2.1 (Nat.le_trans t7.size J8.grow.size)) (hT2 a h).1)
    exact start_two1 inner (It2.self 0 T2 z8 s9 _ _ J9.inn hst9 inner)
  · have hin : i = xs.length := by (first | with_reducible assumption | with_reducible exact Nat.add_le_add_left (by decide) _ | with_reducible exact Nat.le_trans (by assumption) (by decide) | with_reducible exact Nat.sub_succ_lt_self (by assumption) | with_reducible exact Nat.lt_of_lt_of_le (by assumption) (by assumption) | with_reducible exact Nat.le_trans (by assumption) (by assumption) | decide | omega)
    subst hin
    refine It.stop T5 z5 s5 _ _ J5.inn hst5 fun s6 t6 => ?_
    have J6 := J5.step (fun a ha => (hT5 a ha).1) hG (fun a o ha => (hT5 a ha).2.2 o) hTC5 t6
    obtain ⟨n, hn⟩ := hpl5.at fun o e => t6.keep D o hTD5 e
    have g' := J6.grow.put (a := D) hDsize hn
    obtain ⟨m, hm, _⟩ := J6.frame.ns
    rw [List.take_length] at hall5
    exact fin _ _ _ s6 hCge ⟨m, hm⟩ g' (fun o e => e.elim (J6.frame.nz o) fun h => hDC.1 h.1) (Rd.list' (Fz.put_at _ _ _) (hall5.mono (Fz.put_le _ _ _)))
end NB90
end
section
set_option autoImplicit false
open PySem PySem.W PyProof.Rows
set_option Elab.async false
set_option maxRecDepth 100000
namespace NB90
variable {h₀ : Heap} {mg mb : Str → Option Value} {W : Addr → Prop} {z₀ z z' z₁ : Fz} {s₀ s s' s₁ : Shared} {env : Env} {ρ : List (Str × Value)} {prog : Program} {w : World} {A : Around} {E : Value → Shared → Prop}

/-- «v = [.. for x in .. for y in .. if ..]» -/
theorem assign_comp2 {α β : Type} {xs : List α} {ys : List β} {enc : α → PyData} {enc2 : β → PyData} {p : α → β → Bool} {f : α → β → PyData} {elt iter1 iter2 : Expr} {x y u : Str} {px py pu spos : Pos} {ifs : List Expr} {S scope : Scope} {pos : Pos} {Q : Flow → Shared → Prop} (hh : A.handled = none)
    (hS : env.scope = S) (cs : CompScope scope x false) (hyl : scope.names.lookup y = some .local) (hxy : y ≠ x) (hfree : freeOk scope S ρ = true)
    (hsw : (!S.kind.isAnnotationScope && S.kind == .function && S.names.lookup u == some .local && pu.line == pos.line && !(scope.names.any fun (n, k) => n == u && (k == .local || k == .cell))) = true)
    (J : Inn h₀ No z₀ s₀ env ρ z s) (hL : s₀.heap.objs.size ≤ env.locals) (hlen : ∀ i, ((xs.take i).flatMap fun a => (ys.filter (p a)).map (f a)).length + ys.length ≤ sizeLine)
    (h : wpAny (model prog w) A (eval iter1 env) (fun xv s₁ => wpAny (model prog w) A (pyIter xv) (fun it s₂ => ∃ I T G St, it = .ref I ∧ To No s s₂ ∧ Iter prog w A I G xs.length (fun i z v => ∀ a, xs[i]? = some a → Rd z v (enc a)) St ∧ St 0 T z s₂ ∧
      (∀ a, T a → s.heap.objs.size ≤ a ∧ a < s₂.heap.objs.size) ∧ s.gens.size ≤ G ∧ True) E s₁) E s)
    (src2 : ∀ cenv : Env, cenv.scope = reS scope S → ∀ a ∈ xs, ∀ (v : Value) (z1 : Fz) (s1 : Shared) (E : Value → Shared → Prop) (Q : Value → Shared → Prop), Rd z1 v (enc a) → z.le z1 → Inn h₀ No z1 s1 cenv ((x, v) :: frees scope ρ) z1 s1 →
      (∀ xv z2 s2, Inn h₀ No z1 s1 cenv ((x, v) :: frees scope ρ) z2 s2 → Rd z2 xv (.list (ys.map enc2)) → Q xv s2) → wpAny (model prog w) A (eval iter2 cenv) Q E s1)
    (turn : ∀ cenv : Env, cenv.scope = reS scope S → ∀ a ∈ xs, ∀ (v : Value) (z1 : Fz), Rd z1 v (enc a) → z.le z1 → ∀ b ∈ ys, Turn h₀ No z1 cenv ((x, v) :: frees scope ρ) prog w A y ifs elt (fun _ => True) enc2 (p a) (f a) b)
    (fin : ∀ v z' s', z.le z' → Inn h₀ No z₀ s₀ env ((u, v) :: ρ) z' s' → Rd z' v (.list (xs.flatMap fun a => (ys.filter (p a)).map (f a))) → Q .next s')
    (hs : ∀ x, foldedSetIterable iter1 env x = pure x) (hs2 : ∀ (cenv : Env) v, foldedSetIterable iter2 cenv v = pure v) :
    wpAny (model prog w) A (exec (.Assign [.Name u pu] (.ListComp elt [⟨.Name x px, iter1, [], 0⟩, ⟨.Name y py, iter2, ifs, 0⟩] scope pos) spos) env) Q E s := by
  rw [exec_Assign_Name_used _ _ _ _ (swaps_true hS hsw)]
  have hu : env.kindOf u = some .local := by
    simp only [Bool.and_eq_true, Bool.not_eq_true', beq_iff_eq] at hsw
    exact kind_of hS hsw.1.1.2
  refine wpAny_bind (wpAny_standAt (wpAny_bind ?_))
  show wpAny _ A (do let _ ← comprehension (.ListComp elt [⟨.Name x px, iter1, [], 0⟩, ⟨.Name y py, iter2, ifs, 0⟩] scope pos) scope env _ (newList []) false (eval iter1 env) (some (assign (.Name u pu) env))) _ _ s
  obtain ⟨cl, hclos, hcl1, hcl2⟩ := closure_at J hS hfree
  refine wpAny_bind (wpAny_mono (wpAny_comprehension_free (use := some (assign (.Name u pu) env)) (Q := fun _ s' => Q .next s') rfl hs hclos cs.kind cs.names
    (wpAny_mono h (fun xv s₁ h₁ => wpAny_mono h₁ (fun it s₂ h₂ => ?_) fun _ _ e => e) fun _ _ e => e)) (fun _ s' hq => wpAny_pure (wpAny_pure hq)) fun _ _ e => e)
  obtain ⟨I, T, G, St, rfl, t2, It, hst, hT, hG, _⟩ := h₂
  refine comp_run2 (R := fun acc C => compPost (model prog w) A E (some (assign (.Name u pu) env)) (fun _ s' => Q .next s') acc C) hh J hS cs hyl hxy hcl1 hcl2 (freeOk.all hfree) t2 It hst hT hG hlen hs2 src2 turn ?_
  intro D C z' s' hC hns g hz hr
  obtain ⟨m, hm⟩ := hns
  show wpAny _ A (assign (.Name u pu) env (.ref D)) _ _ _
  have J' := J.up g
  have hLlt : env.locals < s.heap.objs.size := let ⟨_, hn, _⟩ := J.frame.ns; hn.lt
  have hCL : C ≠ env.locals := fun e => gap hLlt hC (by rw [e]; exact Nat.le_refl _)
  refine wpAny_assign_Name (J'.st hL hu fun s2 J2 t2' => ?_)
  refine ⟨m, hm.at' (fun o e => t2'.keep C o hCL e), fun h' hs' => ?_⟩
  have hCA : Apart (· = C) env := ⟨fun h => hCL h.symm, fun n c hc h => by
    have h' : c = C := h
    obtain ⟨⟨_, hv⟩, _⟩ := J.frame.cz n c hc
    exact gap hv.lt hC (by rw [h']; exact Nat.le_refl _)⟩
  exact fin _ z' _ g.le (J2.step (T := (· = C)) (G := s₀.gens.size) (fun a ha => ha ▸ Nat.le_trans J.grow.size hC) (Nat.le_refl _) (fun a o ha => ha ▸ hz o) hCA (To.sameBut (tk := s2.toks) hs').stp) hr
end NB90
end
section
set_option autoImplicit false
open PySem PySem.W PyProof.Rows
set_option Elab.async false
set_option maxRecDepth 100000
namespace NB90
variable {h₀ : Heap} {mg mb : Str → Option Value} {W : Addr → Prop} {z₀ z z' z₁ : Fz} {s₀ s s' s₁ : Shared} {env : Env} {ρ : List (Str × Value)} {prog : Program} {w : World} {A : Around} {E : Value → Shared → Prop}

/-- a def of the text that the module's names have -/
noncomputable def Fn (h₀ : Heap) (mg : Str → Option Value) (nm : Str) (P : Arguments) (B : List Stmt) (S : Scope) : Prop := ∃ a cd, mg nm = some (.ref a) ∧ FnOk h₀ nm P B S a cd
/-- what the law's text uses -/
structure Lw (prog : Program) (w : World) (h₀ : Heap) (mg mb : Str → Option Value) : Prop where
  G : Gd h₀ mg mb
  K : ∃ C N fI fN mN fdI fdN, Cls prog w h₀ C N fI fN mN fdI fdN ∧ mg (Str.ofString "_Ignore") = some (.ref C)
  restore : Fn h₀ mg (Str.ofString "restore") pArgsRestore.1 pBodyRestore.1 pScopeRestore.1
  line : Fn h₀ mg (Str.ofString "_law_line") pArgsLine.1 pBodyLine.1 pScopeLine.1
  up : Fn h₀ mg (Str.ofString "_law_up") pArgsUp.1 pBodyUp.1 pScopeUp.1
  told : Fn h₀ mg (Str.ofString "_law_told") pArgsTold.1 pBodyTold.1 pScopeTold.1
  tagged : Fn h₀ mg (Str.ofString "_law_tagged") pArgsTagged.1 pBodyTagged.1 pScopeTagged.1
  short : Fn h₀ mg (Str.ofString "_law_short") pArgsShort.1 pBodyShort.1 pScopeShort.1
  heads : Fn h₀ mg (Str.ofString "_law_heads") pArgsHeads.1 pBodyHeads.1 pScopeHeads.1
  refused : Fn h₀ mg (Str.ofString "_law_refused") pArgsRefused.1 pBodyRefused.1 pScopeRefused.1

/-- the frame of law -/
structure Fl (env : Env) (s₀ : Shared) : Prop where
  hS : env.scope = pScopeLaw.1
  hL : s₀.heap.objs.size ≤ env.locals
  hcn : ∀ x c, env.cells.lookup x = some c → s₀.heap.objs.size ≤ c
  hcl : env.cells = cellsFrom (env.locals + 1) pScopeLaw.1.names []

section
variable {n : Nat} {Q : Flow → Shared → Prop} {script : List Int} {vs : Value}

theorem law_0 (F : Fl env s₀) (J : Inn h₀ No z₀ s₀ env ρ z s)
    (h : ∀ vo z' s', z.le z' → Inn h₀ No z₀ s₀ env ((Str.ofString "own", vo) :: ρ) z' s' → Rd z' vo (.list (ownL.map .str)) → wpAny (model prog w) A (execs (pBodyLaw.1.drop 1) env) Q E s') :
    wpAny (model prog w) A (execs pBodyLaw.1 env) Q E s := by
  have hS := F.hS
  simp only [pBodyLaw]
  with_reducible refine wpAny_execs_cons (asg ?_ (ev_list (arg_c ?_ (J.str fun t1 s1 J1 => arg_c ?_ (J1.str fun t2 s2 J2 => arg_c ?_ (J2.str fun t3 s3 J3 => arg_c ?_ (J3.str fun t4 s4 J4 => arg_c ?_ (J4.str fun t5 s5 J5 => arg_c ?_ (J5.str fun t6 s6 J6 => arg_c ?_ (J6.str fun t7 s7 J7 => arg_c ?_ (J7.str fun t8 s8 J8 => arg_n ?_)))))))))))
  · rfl
  · rfl
  · rfl
  · rfl
  · rfl
  · rfl
  · rfl
  · rfl
  · rfl
  refine J8.newList (ds := ownL.map .str) (.cons (.str _ _) (.cons (.str _ _) (.cons (.str _ _) (.cons (.str _ _) (.cons (.str _ _) (.cons (.str _ _) (.cons (.str _ _) (.cons (.str _ _) (.nil _))))))))) (le_line (by show 8 ≤ 10000; (first | with_reducible assumption | with_reducible exact Nat.add_le_add_left (by decide) _ | with_reducible exact Nat.le_trans (by assumption) (by decide) | with_reducible exact Nat.sub_succ_lt_self (by assumption) | with_reducible exact Nat.lt_of_lt_of_le (by assumption) (by assumption) | with_reducible exact Nat.le_trans (by assumption) (by assumption) | decide | omega))) fun vo z9 s9 hle9 J9 hr9 => ?_
  refine J9.st F.hL (kind_of hS rfl) fun s10 J10 t10 => ?_
  exact h vo z9 s10 hle9 J10 hr9

theorem law_1 (X : Lw prog w h₀ mg mb) (r : Room A (n + 11)) (F : Fl env s₀) {vo : Value} (J : Inn h₀ No z₀ s₀ env ρ z s) (hk1 : ρ.lookup (Str.ofString "script") = some vs) (hk2 : ρ.lookup (Str.ofString "own") = some vo)
    (hs : Rd z vs (.list (script.map .int))) (hsl : script.length ≤ 1000) (ho : Rd z vo (.list (ownL.map .str)))
    (h : ∀ vl z' s', z.le z' → Inn h₀ No z₀ s₀ env ((Str.ofString "lines", vl) :: ρ) z' s' → Rd z' vl (.list ((linesL script).map .str)) → wpAny (model prog w) A (execs (pBodyLaw.1.drop 2) env) Q E s') :
    wpAny (model prog w) A (execs (pBodyLaw.1.drop 1) env) Q E s := by
  have hS := F.hS
  obtain ⟨aL, cdL, hgL, fL⟩ := X.line
  simp only [pBodyLaw, List.drop_succ_cons, List.drop_zero]
  with_reducible refine wpAny_execs_cons (asg ?_ (wpAny_BinOp (ev_comp (xs := script.take 4) (enc := PyData.int) (p := fun _ => true) (f := fun x => .str (lineS x)) (K := fun _ => True) (own := false) r.hh hS ?cs ?fr ?len (fun _ _ _ _ => trivial) J ?src ?hs)))
  · rfl
  case cs => exact ⟨rfl, fun _ _ => rfl, fun _ => rfl, nofun, fun _ => rfl, by decide⟩
  case fr => rfl
  case len => rw [List.length_take]; exact le_line (by (first | with_reducible assumption | with_reducible exact Nat.add_le_add_left (by decide) _ | with_reducible exact Nat.le_trans (by assumption) (by decide) | with_reducible exact Nat.sub_succ_lt_self (by assumption) | with_reducible exact Nat.lt_of_lt_of_le (by assumption) (by assumption) | with_reducible exact Nat.le_trans (by assumption) (by assumption) | decide | omega))
  case hs => intro _; rfl
  with_reducible refine Cut_ ?_
  refine J.ld hk1 (.inl (kind_of hS rfl)) (evalPart_none_step (evalPart_some_step (J.int fun t1 s1 J1 => ?_)))
  refine cut_upto (b := 4) J1 hs (by simp only [List.length_map]; exact le_line (by (first | with_reducible assumption | with_reducible exact Nat.add_le_add_left (by decide) _ | with_reducible exact Nat.le_trans (by assumption) (by decide) | with_reducible exact Nat.sub_succ_lt_self (by assumption) | with_reducible exact Nat.lt_of_lt_of_le (by assumption) (by assumption) | with_reducible exact Nat.le_trans (by assumption) (by assumption) | decide | omega))) fun v2 z2 s2 hle2 J2 hr2 => ?_
  rw [← List.map_take] at hr2
  refine ⟨z2, J2, hr2, trivial, no_lt, fun cenv hC x hx v3 z3 s3 E3 hv3 hle3 J3 _ _ => ?_, fun v3 z3 s3 hle3 J3 hr3 _ => ?_⟩
  · obtain ⟨tx, rfl⟩ := hv3.isInt
    refine wpAny_tests_nil ⟨rfl, z3, Grow.refl J3.inn, trivial, fun _ => ?_⟩
    with_reducible refine ev_call J3 X.G fL hgL (kind_of hC ?_) ?_ ?_ (arg_c ?_ ?_)
    · rfl
    · decide
    · rfl
    · rfl
    refine J3.ld rfl (.inl (kind_of hC rfl)) (arg_n ⟨z3, J3, line_spec (n := n) (r.le (by (first | with_reducible assumption | with_reducible exact Nat.add_le_add_left (by decide) _ | with_reducible exact Nat.le_trans (by assumption) (by decide) | with_reducible exact Nat.sub_succ_lt_self (by assumption) | with_reducible exact Nat.lt_of_lt_of_le (by assumption) (by assumption) | with_reducible exact Nat.le_trans (by assumption) (by assumption) | decide | omega))) X.G fL J3.inn J3.base fun t4 z4 s4 g4 => ?_⟩)
    exact ⟨z4, g4, .str _ _, trivial⟩
  · rw [List.filter_eq_self.mpr fun _ _ => rfl] at hr3
    have e : (script.take 4).map (fun x => PyData.str (lineS x)) = ((script.take 4).map lineS).map .str := by rw [List.map_map]; rfl
    rw [e] at hr3
    refine J3.ld hk2 (.inl (kind_of hS rfl)) ?_
    refine add_list J3 hr3 (ho.mono (hle2.trans hle3)) (by simp only [List.length_map, List.length_take]; show _ + 8 ≤ sizeLine; exact le_line (by (first | with_reducible assumption | with_reducible exact Nat.add_le_add_left (by decide) _ | with_reducible exact Nat.le_trans (by assumption) (by decide) | with_reducible exact Nat.sub_succ_lt_self (by assumption) | with_reducible exact Nat.lt_of_lt_of_le (by assumption) (by assumption) | with_reducible exact Nat.le_trans (by assumption) (by assumption) | decide | omega))) fun v4 z4 s4 hle4 J4 hr4 => ?_
    rw [← List.map_append] at hr4
    have hc : env.cells.lookup (Str.ofString "lines") = some (env.locals + 1) := cell_of F.hcl rfl
    refine J4.stC (kind_of hS rfl) hc (F.hcn _ _ hc) fun s5 J5 t5 => ?_
    exact h v4 z4 s5 (hle2.trans (hle3.trans hle4)) J5 hr4

theorem law_2 (r : Room A (n + 11)) (F : Fl env s₀) {vl : Value} {lines : List Str} (J : Inn h₀ No z₀ s₀ env ρ z s) (hk1 : ρ.lookup (Str.ofString "lines") = some vl) (hl : Rd z vl (.list (lines.map .str))) (hln : ∀ l ∈ lines, Sn l) (hlen : lines.length ≤ 1000)
    (h : ∀ vn z' s', z.le z' → Inn h₀ No z₀ s₀ env ((Str.ofString "names", vn) :: ρ) z' s' → Rd z' vn (.list ((namesL lines).map .str)) → wpAny (model prog w) A (execs (pBodyLaw.1.drop 3) env) Q E s') :
    wpAny (model prog w) A (execs (pBodyLaw.1.drop 2) env) Q E s := by
  have hS := F.hS
  simp only [pBodyLaw, List.drop_succ_cons, List.drop_zero]
  with_reducible refine wpAny_execs_cons (assign_comp (xs := lines) (enc := PyData.str) (p := fun _ => true) (f := fun l => .str (cutL l)) (K := fun _ => True) (own := false) r.hh hS ?cs ?fr (le_line (by (first | with_reducible assumption | with_reducible exact Nat.add_le_add_left (by decide) _ | with_reducible exact Nat.le_trans (by assumption) (by decide) | with_reducible exact Nat.sub_succ_lt_self (by assumption) | with_reducible exact Nat.lt_of_lt_of_le (by assumption) (by assumption) | with_reducible exact Nat.le_trans (by assumption) (by assumption) | decide | omega))) ?sw (fun _ _ _ _ => trivial) J F.hL ?src ?hs)
  case cs => exact ⟨rfl, fun _ _ => rfl, fun _ => rfl, nofun, fun _ => rfl, by decide⟩
  case fr => rfl
  case sw => rfl
  case hs => intro _; rfl
  refine J.ld hk1 (.inr (.inl (kind_of hS rfl))) ?_
  refine ⟨z, J, hl, trivial, no_lt, fun cenv hC l hm v3 z3 s3 E3 hv3 hle3 J3 _ _ => ?_, fun v3 z3 s3 hle3 J3 hr3 _ => ?_⟩
  · obtain ⟨tx, rfl⟩ := hv3.isStr
    refine wpAny_tests_nil ⟨rfl, z3, Grow.refl J3.inn, trivial, fun _ => ?_⟩
    with_reducible refine Cut_ ?_
    refine J3.ld rfl (.inl (kind_of hC rfl)) (evalPart_some_step (J3.int fun t4 s4 J4 => evalPart_none_step ?_))
    refine cut_str (l := some (2, t4)) (u := none) J4 (le_line (by have := (hln l hm).1; (first | with_reducible assumption | with_reducible exact Nat.add_le_add_left (by decide) _ | with_reducible exact Nat.le_trans (by assumption) (by decide) | with_reducible exact Nat.sub_succ_lt_self (by assumption) | with_reducible exact Nat.lt_of_lt_of_le (by assumption) (by assumption) | with_reducible exact Nat.le_trans (by assumption) (by assumption) | decide | omega))) fun t5 s5 J5 => ?_
    exact ⟨z3, J5.grow, .str _ _, trivial⟩
  · rw [List.filter_eq_self.mpr fun _ _ => rfl] at hr3
    have e : lines.map (fun l => PyData.str (cutL l)) = (namesL lines).map .str := by unfold namesL; rw [List.map_map]; rfl
    rw [e] at hr3
    exact h v3 z3 s3 hle3 J3 hr3

theorem law_3 (X : Lw prog w h₀ mg mb) (r : Room A (n + 11)) (F : Fl env s₀) {vn : Value} {lines : List Str} (J : Inn h₀ No z₀ s₀ env ρ z s) (hk1 : ρ.lookup (Str.ofString "names") = some vn) (hl : Rd z vn (.list ((namesL lines).map .str))) (hln : ∀ l ∈ namesL lines, Sn l) (hlen : lines.length ≤ 1000)
    (h : ∀ va z' s', z.le z' → Inn h₀ No z₀ s₀ env ((Str.ofString "asked", va) :: ρ) z' s' → Rd z' va (.list ((askedL lines).map .str)) → wpAny (model prog w) A (execs (pBodyLaw.1.drop 4) env) Q E s') :
    wpAny (model prog w) A (execs (pBodyLaw.1.drop 3) env) Q E s := by
  have hS := F.hS
  obtain ⟨aU, cdU, hgU, fU⟩ := X.up
  have hnl : (namesL lines).length = lines.length := by simp [namesL]
  simp only [pBodyLaw, List.drop_succ_cons, List.drop_zero]
  with_reducible refine wpAny_execs_cons (asg ?_ (wpAny_BinOp ?_))
  · rfl
  refine J.ld hk1 (.inl (kind_of hS rfl)) ?_
  with_reducible refine ev_comp (xs := namesL lines) (enc := PyData.str) (p := fun _ => true) (f := fun l => .str (upS l)) (K := fun _ => True) (own := false) r.hh hS ?cs ?fr (le_line (by (first | with_reducible assumption | with_reducible exact Nat.add_le_add_left (by decide) _ | with_reducible exact Nat.le_trans (by assumption) (by decide) | with_reducible exact Nat.sub_succ_lt_self (by assumption) | with_reducible exact Nat.lt_of_lt_of_le (by assumption) (by assumption) | with_reducible exact Nat.le_trans (by assumption) (by assumption) | decide | omega))) (fun _ _ _ _ => trivial) J ?src ?hs
  case cs => exact ⟨rfl, fun _ _ => rfl, fun _ => rfl, nofun, fun _ => rfl, by decide⟩
  case fr => rfl
  case hs => intro _; rfl
  refine J.ld hk1 (.inl (kind_of hS rfl)) ?_
  refine ⟨z, J, hl, trivial, no_lt, fun cenv hC l hm v3 z3 s3 E3 hv3 hle3 J3 _ _ => ?_, fun v3 z3 s3 hle3 J3 hr3 _ => ?_⟩
  · obtain ⟨tx, rfl⟩ := hv3.isStr
    refine wpAny_tests_nil ⟨rfl, z3, Grow.refl J3.inn, trivial, fun _ => ?_⟩
    with_reducible refine ev_call J3 X.G fU hgU (kind_of hC ?_) ?_ ?_ (arg_c ?_ ?_)
    · rfl
    · decide
    · rfl
    · rfl
    refine J3.ld rfl (.inl (kind_of hC rfl)) (arg_n ⟨z3, J3, up_spec (n := n) (r.le (by (first | with_reducible assumption | with_reducible exact Nat.add_le_add_left (by decide) _ | with_reducible exact Nat.le_trans (by assumption) (by decide) | with_reducible exact Nat.sub_succ_lt_self (by assumption) | with_reducible exact Nat.lt_of_lt_of_le (by assumption) (by assumption) | with_reducible exact Nat.le_trans (by assumption) (by assumption) | decide | omega))) X.G.lim fU J3.inn J3.base (hln l hm).1 fun t4 z4 s4 g4 => ?_⟩)
    exact ⟨z4, g4, .str _ _, trivial⟩
  · rw [List.filter_eq_self.mpr fun _ _ => rfl] at hr3
    have e : (namesL lines).map (fun l => PyData.str (upS l)) = ((namesL lines).map upS).map .str := by rw [List.map_map]; rfl
    rw [e] at hr3
    refine add_list J3 (hl.mono hle3) hr3 (by simp only [List.length_map]; exact le_line (by (first | with_reducible assumption | with_reducible exact Nat.add_le_add_left (by decide) _ | with_reducible exact Nat.le_trans (by assumption) (by decide) | with_reducible exact Nat.sub_succ_lt_self (by assumption) | with_reducible exact Nat.lt_of_lt_of_le (by assumption) (by assumption) | with_reducible exact Nat.le_trans (by assumption) (by assumption) | decide | omega))) fun v4 z4 s4 hle4 J4 hr4 => ?_
    rw [← List.map_append] at hr4
    have hc : env.cells.lookup (Str.ofString "asked") = some (env.locals + 2) := cell_of F.hcl rfl
    refine J4.stC (kind_of hS rfl) hc (F.hcn _ _ hc) fun s5 J5 t5 => ?_
    exact h v4 z4 s5 (hle3.trans hle4) J5 hr4
end
end NB90
end
section
set_option autoImplicit false
open PySem PySem.W PyProof.Rows
open PySem.Builtin.Str (partsBetween occurrences)
set_option Elab.async false
set_option maxRecDepth 100000
namespace NB90
variable {h₀ : Heap} {mg mb : Str → Option Value} {W : Addr → Prop} {z₀ z z' z₁ : Fz} {s₀ s s' s₁ : Shared} {env : Env} {ρ : List (Str × Value)} {prog : Program} {w : World} {A : Around} {E : Value → Shared → Prop}
variable {n : Nat} {Q : Flow → Shared → Prop} {lines : List Str} {vs vo vl vn va vr vd vt : Value}

noncomputable abbrev rhoA (vs vo vl vn va : Value) : List (Str × Value) := [(Str.ofString "asked", va), (Str.ofString "names", vn), (Str.ofString "lines", vl), (Str.ofString "own", vo), (Str.ofString "script", vs)]

theorem sp_sn {x : Str} (h : Sn x) : RowOk (sp x) := by
  refine ⟨split_len_le h.1, fun p hp => ⟨Nat.le_trans (part_short hp) h.1, fun c hc => h.2 c ?_⟩⟩
  have e := sp_join x
  have : c ∈ glue 46 ((sp x).map ch) := by
    clear e
    have key : ∀ (l : List (List Nat)) (q : List Nat), q ∈ l → ∀ c ∈ q, c ∈ glue 46 l := by
      intro l
      induction l with
      | nil => intro q hq; simp at hq
      | cons a l ih =>
        intro q hq c hc
        cases l with
        | nil => rw [List.mem_singleton.mp hq] at hc; exact hc
        | cons b r =>
          unfold glue
          rcases List.mem_cons.mp hq with rfl | hq
          · exact List.mem_append.mpr (.inl hc)
          · exact List.mem_append.mpr (.inr (List.mem_cons_of_mem _ (ih q hq c hc)))
    exact key _ (ch p) (List.mem_map.mpr ⟨p, hp, rfl⟩) c hc
  rw [← ch_join, e] at this
  exact this
theorem rows_ok {k : Nat} (h : ∀ l ∈ lines, Sn l) : ∀ r ∈ rowsK lines k, RowOk r := by
  intro r hr
  obtain ⟨l, hl, rfl⟩ := List.mem_map.mp hr
  exact sp_sn (cut_sn (h l (List.mem_filter.mp hl).1))
theorem rows_len (lines : List Str) (k : Nat) : (rowsK lines k).length ≤ lines.length := by
  unfold rowsK; rw [List.length_map]; exact List.length_filter_le _ _

theorem law_4 (r : Room A (n + 11)) (F : Fl env s₀) (J : Inn h₀ No z₀ s₀ env (rhoA vs vo vl vn va) z s) (hl : Rd z vl (.list (lines.map .str))) (hln : ∀ l ∈ lines, Ln l) (hlen : lines.length ≤ 1000)
    (h : ∀ vr z' s', z.le z' → Inn h₀ No z₀ s₀ env ((Str.ofString "rows", vr) :: rhoA vs vo vl vn va) z' s' → Rd z' vr (.list ([0, 1].map fun k => .list ((rowsK lines k).map row))) → wpAny (model prog w) A (execs (pBodyLaw.1.drop 5) env) Q E s') :
    wpAny (model prog w) A (execs (pBodyLaw.1.drop 4) env) Q E s := by
  have hS := F.hS
  simp only [pBodyLaw, List.drop_succ_cons, List.drop_zero, dot_eq]
  with_reducible refine wpAny_execs_cons (asgC hS ?_ (ev_comp (xs := [0, 1]) (enc := fun k => .str (sideS k)) (p := fun _ => true) (f := fun k => .list ((rowsK lines k).map row)) (K := fun _ => True) (own := true) r.hh hS ?csA ?frA ?lenA (fun _ _ _ _ => trivial) J ?srcA ?hsA))
  · rfl
  case csA => exact ⟨rfl, fun _ _ => rfl, fun _ => rfl, fun _ => rfl, nofun, by decide⟩
  case frA => rfl
  case lenA => exact le_line (by show 2 ≤ 10000; (first | with_reducible assumption | with_reducible exact Nat.add_le_add_left (by decide) _ | with_reducible exact Nat.le_trans (by assumption) (by decide) | with_reducible exact Nat.sub_succ_lt_self (by assumption) | with_reducible exact Nat.lt_of_lt_of_le (by assumption) (by assumption) | with_reducible exact Nat.le_trans (by assumption) (by assumption) | decide | omega))
  case hsA => intro _; rfl
  with_reducible refine ev_list (arg_c ?_ (J.str fun t1 s1 J1 => arg_c ?_ (J1.str fun t2 s2 J2 => arg_n ?_)))
  · rfl
  · rfl
  refine J2.newList (ds := [0, 1].map fun k => .str (sideS k)) (.cons (.str _ _) (.cons (.str _ _) (.nil _))) (le_line (by show 2 ≤ 10000; (first | with_reducible assumption | with_reducible exact Nat.add_le_add_left (by decide) _ | with_reducible exact Nat.le_trans (by assumption) (by decide) | with_reducible exact Nat.sub_succ_lt_self (by assumption) | with_reducible exact Nat.lt_of_lt_of_le (by assumption) (by assumption) | with_reducible exact Nat.le_trans (by assumption) (by assumption) | decide | omega))) fun v3 z3 s3 hle3 J3 hr3 => ?_
  refine ⟨z3, J3, hr3, trivial, no_lt, fun cenv hC k hk v4 z4 s4 E4 hv4 hle4 J4 _ _ => ?_, fun v4 z4 s4 hle4 J4 hr4 _ => ?_⟩
  · obtain ⟨tk, rfl⟩ := hv4.isStr
    refine wpAny_tests_nil ⟨rfl, z4, Grow.refl J4.inn, trivial, fun _ => ?_⟩
    with_reducible refine ev_comp (xs := lines) (enc := PyData.str) (p := sideB k) (f := fun l => row (sp (cutL l))) (K := fun _ => True) (own := false) r.hh hC ?csB ?frB (le_line (by (first | with_reducible assumption | with_reducible exact Nat.add_le_add_left (by decide) _ | with_reducible exact Nat.le_trans (by assumption) (by decide) | with_reducible exact Nat.sub_succ_lt_self (by assumption) | with_reducible exact Nat.lt_of_lt_of_le (by assumption) (by assumption) | with_reducible exact Nat.le_trans (by assumption) (by assumption) | decide | omega))) (fun _ _ _ _ => trivial) J4 ?srcB ?hsB
    case csB => exact ⟨rfl, fun _ _ => rfl, fun _ => rfl, nofun, fun _ => rfl, by decide⟩
    case frB => rfl
    case hsB => intro _; rfl
    refine J4.ld (v := vl) rfl (.inr (.inl (kind_of hC rfl))) ?_
    refine ⟨z4, J4, hl.mono (hle3.trans hle4), trivial, no_lt, fun cenv2 hC2 l hm v5 z5 s5 E5 hv5 hle5 J5 _ _ => ?_, fun v5 z5 s5 hle5 J5 hr5 _ => ⟨z5, J5.grow, ?_, trivial⟩⟩
    · obtain ⟨tl, rfl⟩ := hv5.isStr
      have hsn := (hln l hm).sn
      with_reducible refine wpAny_tests_one (test_cmp ?_ (Subscript_ ?_))
      · rfl
      refine J5.ld rfl (.inl (kind_of hC2 rfl)) (J5.int fun t6 s6 J6 => ?_)
      refine tail_str J6 (by decide) (hln l hm).some (fun t7 s7 J7 => ?_) rfl
      refine J7.ld (v := .str (sideS k) tk) rfl (.inr (.inl (kind_of hC2 rfl))) (SB.contains (wpAny_truthy_bool ⟨rfl, z5, J7.grow, trivial, fun _ => ?_⟩))
      have K7 := J7.here
      with_reducible refine meth1 ?_ (Cut_ ?_)
      · rfl
      refine K7.ld rfl (.inl (kind_of hC2 rfl)) (evalPart_some_step (K7.int fun t8 s8 J8 => evalPart_none_step ?_))
      refine cut_str (l := some (2, t8)) (u := none) J8 (le_line (by have := hsn.1; (first | with_reducible assumption | with_reducible exact Nat.add_le_add_left (by decide) _ | with_reducible exact Nat.le_trans (by assumption) (by decide) | with_reducible exact Nat.sub_succ_lt_self (by assumption) | with_reducible exact Nat.lt_of_lt_of_le (by assumption) (by assumption) | with_reducible exact Nat.le_trans (by assumption) (by assumption) | decide | omega))) fun t9 s9 J9 => ?_
      have hcs := cut_sn hsn
      refine J9.split (x := cutL l) (y := dot) rfl (le_line (by have := hcs.1; (first | with_reducible assumption | with_reducible exact Nat.add_le_add_left (by decide) _ | with_reducible exact Nat.le_trans (by assumption) (by decide) | with_reducible exact Nat.sub_succ_lt_self (by assumption) | with_reducible exact Nat.lt_of_lt_of_le (by assumption) (by assumption) | with_reducible exact Nat.le_trans (by assumption) (by assumption) | decide | omega))) (split_room hcs.1) (J9.str fun t10 s10 J10 => ?_)
      exact ⟨t10, z5, rfl, J10, fun v z11 s11 hle11 J11 hr11 => ⟨z11, J11.grow, hr11, trivial⟩⟩
    · have e : (lines.filter (sideB k)).map (fun l => row (sp (cutL l))) = (rowsK lines k).map row := by unfold rowsK; rw [List.map_map]; rfl
      rw [e] at hr5
      exact hr5
  · rw [List.filter_eq_self.mpr fun _ _ => rfl] at hr4
    have hc : env.cells.lookup (Str.ofString "rows") = some (env.locals + 3) := cell_of F.hcl rfl
    refine J4.stC (kind_of hS rfl) hc (F.hcn _ _ hc) fun s5 J5 t5 => ?_
    exact h v4 z4 s5 (hle3.trans hle4) J5 hr4

theorem heads_ok {rows : List (List Str)} (h : ∀ r ∈ rows, RowOk r) (p : List Str) : Ok 2 (.list ((headsL rows p).map row)) := by
  unfold Ok
  intro d hd
  obtain ⟨r, hr, rfl⟩ := List.mem_map.mp hd
  exact row_ok (h r (List.mem_filter.mp hr).1).2
theorem nil_ok (k : Nat) : Ok (k + 1) (.list []) := by unfold Ok; intro d hd; simp at hd
theorem get01 {α : Type} {f : Nat → α} {k : Nat} (hk : k ∈ [0, 1]) : ([0, 1].map f)[((k : Nat) : Int).toNat]? = some (f k) := by rcases mem01 hk with rfl | rfl <;> rfl
theorem lt01 {k : Nat} (hk : k ∈ [0, 1]) : (0 : Int) ≤ (k : Nat) ∧ ((k : Nat) : Int) < 2 ^ 63 := by rcases mem01 hk with rfl | rfl <;> decide

theorem law_5 (X : Lw prog w h₀ mg mb) (r : Room A (n + 11)) (F : Fl env s₀) (J : Inn h₀ No z₀ s₀ env ((Str.ofString "rows", vr) :: rhoA vs vo vl vn va) z s) (hr : Rd z vr (.list ([0, 1].map fun k => .list ((rowsK lines k).map row)))) (ha : Rd z va (.list ((askedL lines).map .str)))
    (hln : ∀ l ∈ lines, Ln l) (hlen : lines.length ≤ 100)
    (h : ∀ vd z' s', z.le z' → Inn h₀ No z₀ s₀ env ((Str.ofString "due", vd) :: (Str.ofString "rows", vr) :: rhoA vs vo vl vn va) z' s' → Rd z' vd (.list ([0, 1].map fun k => .list ((askedL lines).map fun m => .int (dueI (rowsK lines k) m)))) → wpAny (model prog w) A (execs (pBodyLaw.1.drop 6) env) Q E s') :
    wpAny (model prog w) A (execs (pBodyLaw.1.drop 5) env) Q E s := by
  have hS := F.hS
  obtain ⟨aH, cdH, hgH, fH⟩ := X.heads
  have hal : (askedL lines).length ≤ 200 := by simp only [askedL, namesL, List.length_append, List.length_map]; (first | with_reducible assumption | with_reducible exact Nat.add_le_add_left (by decide) _ | with_reducible exact Nat.le_trans (by assumption) (by decide) | with_reducible exact Nat.sub_succ_lt_self (by assumption) | with_reducible exact Nat.lt_of_lt_of_le (by assumption) (by assumption) | with_reducible exact Nat.le_trans (by assumption) (by assumption) | decide | omega)
  have has : ∀ m ∈ askedL lines, Sn m := fun m hm => (asked_name hln m hm).nm.sn
  simp only [pBodyLaw, List.drop_succ_cons, List.drop_zero, dot_eq]
  with_reducible refine wpAny_execs_cons (assign_comp (xs := [0, 1]) (enc := encN) (p := fun _ => true) (f := fun k => .list ((askedL lines).map fun m => .int (dueI (rowsK lines k) m))) (K := fun _ => True) (own := true) r.hh hS ?csA ?frA ?lenA ?swA (fun _ _ _ _ => trivial) J F.hL ?srcA ?hsA)
  case csA => exact ⟨rfl, fun _ _ => rfl, fun _ => rfl, fun _ => rfl, nofun, by decide⟩
  case frA => rfl
  case lenA => exact le_line (by show 2 ≤ 10000; (first | with_reducible assumption | with_reducible exact Nat.add_le_add_left (by decide) _ | with_reducible exact Nat.le_trans (by assumption) (by decide) | with_reducible exact Nat.sub_succ_lt_self (by assumption) | with_reducible exact Nat.lt_of_lt_of_le (by assumption) (by assumption) | with_reducible exact Nat.le_trans (by assumption) (by assumption) | decide | omega))
  case swA => rfl
  case hsA => intro _; rfl
  refine ev_01 J fun v3 z3 s3 hle3 J3 hr3 => ?_
  refine ⟨z3, J3, hr3, trivial, no_lt, fun cenv hC k hk v4 z4 s4 E4 hv4 hle4 J4 _ _ => ?_, fun v4 z4 s4 hle4 J4 hr4 _ => ?_⟩
  · obtain ⟨tk, rfl⟩ := hv4.isInt
    refine wpAny_tests_nil ⟨rfl, z4, Grow.refl J4.inn, trivial, fun _ => ?_⟩
    with_reducible refine ev_comp (xs := askedL lines) (enc := PyData.str) (p := fun _ => true) (f := fun m => .int (dueI (rowsK lines k) m)) (K := fun _ => True) (own := false) r.hh hC ?csB ?frB (le_line (by (first | with_reducible assumption | with_reducible exact Nat.add_le_add_left (by decide) _ | with_reducible exact Nat.le_trans (by assumption) (by decide) | with_reducible exact Nat.sub_succ_lt_self (by assumption) | with_reducible exact Nat.lt_of_lt_of_le (by assumption) (by assumption) | with_reducible exact Nat.le_trans (by assumption) (by assumption) | decide | omega))) (fun _ _ _ _ => trivial) J4 ?srcB ?hsB
    case csB => exact ⟨rfl, fun _ _ => rfl, fun _ => rfl, nofun, fun _ => rfl, by decide⟩
    case frB => rfl
    case hsB => intro _; rfl
    refine J4.ld (v := va) rfl (.inr (.inl (kind_of hC rfl))) ?_
    refine ⟨z4, J4, ha.mono (hle3.trans hle4), trivial, no_lt, fun cenv2 hC2 m hm v5 z5 s5 E5 hv5 hle5 J5 _ _ => ?_, fun v5 z5 s5 hle5 J5 hr5 _ => ⟨z5, J5.grow, ?_, trivial⟩⟩
    · obtain ⟨tm, rfl⟩ := hv5.isStr
      have hsn := has m hm
      have hr5 := hr.mono (hle3.trans (hle4.trans hle5))
      refine wpAny_tests_nil ⟨rfl, z5, Grow.refl J5.inn, trivial, fun _ => ?_⟩
      with_reducible refine IfExp_ (test_cmp ?_ (ev_call J5 X.G fH hgH (kind_of hC2 ?_) ?_ ?_ (arg_c ?_ (Subscript_ ?_))))
      · rfl
      · rfl
      · decide
      · rfl
      · rfl
      refine J5.ld (v := vr) rfl (.inr (.inl (kind_of hC2 rfl))) (J5.ld (v := .int k tk) rfl (.inr (.inl (kind_of hC2 rfl))) ?_)
      refine tail_list (k := (k : Nat)) J5.inn hr5 (lt01 hk).1 (lt01 hk).2 (d := .list ((rowsK lines k).map row)) (get01 (f := fun k => PyData.list ((rowsK lines k).map row)) hk) fun v6 hr6 => ?_
      with_reducible refine arg_c ?_ (meth1 ?_ ?_)
      · rfl
      · rfl
      refine J5.ld rfl (.inl (kind_of hC2 rfl)) ?_
      refine J5.split (x := m) (y := dot) rfl (le_line (by have := hsn.1; (first | with_reducible assumption | with_reducible exact Nat.add_le_add_left (by decide) _ | with_reducible exact Nat.le_trans (by assumption) (by decide) | with_reducible exact Nat.sub_succ_lt_self (by assumption) | with_reducible exact Nat.lt_of_lt_of_le (by assumption) (by assumption) | with_reducible exact Nat.le_trans (by assumption) (by assumption) | decide | omega))) (split_room hsn.1) (J5.str fun t7 s7 J7 => ?_)
      refine ⟨t7, z5, rfl, J7, fun v8 z8 s8 hle8 J8 hr8 => arg_n ⟨z8, J8, ?_⟩⟩
      refine heads_spec (n := n) (rows := rowsK lines k) (parts := sp m) (r.le (by (first | with_reducible assumption | with_reducible exact Nat.add_le_add_left (by decide) _ | with_reducible exact Nat.le_trans (by assumption) (by decide) | with_reducible exact Nat.sub_succ_lt_self (by assumption) | with_reducible exact Nat.lt_of_lt_of_le (by assumption) (by assumption) | with_reducible exact Nat.le_trans (by assumption) (by assumption) | decide | omega))) X.G fH J8.inn J8.base (hr6.mono hle8) hr8 (Nat.le_trans (rows_len _ _) (by (first | with_reducible assumption | with_reducible exact Nat.add_le_add_left (by decide) _ | with_reducible exact Nat.le_trans (by assumption) (by decide) | with_reducible exact Nat.sub_succ_lt_self (by assumption) | with_reducible exact Nat.lt_of_lt_of_le (by assumption) (by assumption) | with_reducible exact Nat.le_trans (by assumption) (by assumption) | decide | omega))) (rows_ok fun l hl => (hln l hl).sn) (sp_sn hsn) fun v9 z9 s9 g9 hr9 => ?_
      have J9 := J8.up g9
      with_reducible refine ev_list (arg_n ?_)
      refine J9.newList (ds := []) (.nil _) (Nat.zero_le _) fun v10 z10 s10 hle10 J10 hr10 => ?_
      refine cmp_eq (n := 2) (k := 1) (c := decide (headsL (rowsK lines k) (sp m) = [])) r J10.inn (hr9.mono hle10) hr10 (heads_ok (rows_ok fun l hl => (hln l hl).sn) _) (nil_ok 0) (by (first | with_reducible assumption | with_reducible exact Nat.add_le_add_left (by decide) _ | with_reducible exact Nat.le_trans (by assumption) (by decide) | with_reducible exact Nat.sub_succ_lt_self (by assumption) | with_reducible exact Nat.lt_of_lt_of_le (by assumption) (by assumption) | with_reducible exact Nat.le_trans (by assumption) (by assumption) | decide | omega)) (by (first | with_reducible assumption | with_reducible exact Nat.add_le_add_left (by decide) _ | with_reducible exact Nat.le_trans (by assumption) (by decide) | with_reducible exact Nat.sub_succ_lt_self (by assumption) | with_reducible exact Nat.lt_of_lt_of_le (by assumption) (by assumption) | with_reducible exact Nat.le_trans (by assumption) (by assumption) | decide | omega)) ?_ (wpAny_truthy_bool ?_)
      · rw [decide_eq_true_eq, PyData.list.injEq, List.map_eq_nil_iff]
      · by_cases hh : headsL (rowsK lines k) (sp m) = []
        · rw [decide_eq_true hh, if_pos rfl]
          refine J10.int fun t11 s11 J11 => ⟨z10, J11.grow, ?_, trivial⟩
          show Rd z10 _ (.int (if _ then 0 else 1)); rw [if_pos hh]; exact .int _ _
        · rw [decide_eq_false hh, if_neg Bool.false_ne_true]
          refine J10.int fun t11 s11 J11 => ⟨z10, J11.grow, ?_, trivial⟩
          show Rd z10 _ (.int (if _ then 0 else 1)); rw [if_neg hh]; exact .int _ _
    · rw [List.filter_eq_self.mpr fun _ _ => rfl] at hr5
      exact hr5
  · rw [List.filter_eq_self.mpr fun _ _ => rfl] at hr4
    exact h v4 z4 s4 (hle3.trans hle4) J4 hr4

theorem join_row {r : List Str} (h : ∃ x, Sn x ∧ r = sp x) : JoinOk dot r = true := by
  obtain ⟨x, hx, rfl⟩ := h
  have := join_room hx.1 (sp x).length
  rwa [show Txt.split x dot = sp x from rfl, List.take_length] at this
theorem rows_sp {k : Nat} (h : ∀ l ∈ lines, Sn l) : ∀ r ∈ rowsK lines k, ∃ x, Sn x ∧ r = sp x := by
  intro r hr
  obtain ⟨l, hl, rfl⟩ := List.mem_map.mp hr
  exact ⟨_, cut_sn (h l (List.mem_filter.mp hl).1), rfl⟩
theorem filt_ok {rows : List (List Str)} (h : ∀ r ∈ rows, RowOk r) (p : List Str) (q : List Str → Bool) : Ok 2 (.list (((headsL rows p).filter q).map row)) := by
  unfold Ok
  intro d hd
  obtain ⟨r, hr, rfl⟩ := List.mem_map.mp hd
  exact row_ok (h r (List.mem_filter.mp (List.mem_filter.mp hr).1).1).2

theorem law_6 (X : Lw prog w h₀ mg mb) (r : Room A (n + 11)) (F : Fl env s₀) (J : Inn h₀ No z₀ s₀ env ((Str.ofString "due", vd) :: (Str.ofString "rows", vr) :: rhoA vs vo vl vn va) z s) (hr : Rd z vr (.list ([0, 1].map fun k => .list ((rowsK lines k).map row))))
    (hln : ∀ l ∈ lines, Ln l) (hlen : lines.length ≤ 100)
    (h : ∀ vt z' s', z.le z' → Inn h₀ No z₀ s₀ env ((Str.ofString "tops", vt) :: (Str.ofString "due", vd) :: (Str.ofString "rows", vr) :: rhoA vs vo vl vn va) z' s' → Rd z' vt (.list ([0, 1].map fun k => row (topsK lines k))) → wpAny (model prog w) A (execs (pBodyLaw.1.drop 7) env) Q E s') :
    wpAny (model prog w) A (execs (pBodyLaw.1.drop 6) env) Q E s := by
  have hS := F.hS
  obtain ⟨aH, cdH, hgH, fH⟩ := X.heads
  have hsn : ∀ l ∈ lines, Sn l := fun l hl => (hln l hl).sn
  have hrl : ∀ k, (rowsK lines k).length ≤ 100 := fun k => Nat.le_trans (rows_len _ _) hlen
  simp only [pBodyLaw, List.drop_succ_cons, List.drop_zero, dot_eq]
  with_reducible refine wpAny_execs_cons (assign_comp (xs := [0, 1]) (enc := encN) (p := fun _ => true) (f := fun k => row (topsK lines k)) (K := fun _ => True) (own := true) r.hh hS ?csA ?frA ?lenA ?swA (fun _ _ _ _ => trivial) J F.hL ?srcA ?hsA)
  case csA => exact ⟨rfl, fun _ _ => rfl, fun _ => rfl, fun _ => rfl, nofun, by decide⟩
  case frA => rfl
  case lenA => exact le_line (by show 2 ≤ 10000; (first | with_reducible assumption | with_reducible exact Nat.add_le_add_left (by decide) _ | with_reducible exact Nat.le_trans (by assumption) (by decide) | with_reducible exact Nat.sub_succ_lt_self (by assumption) | with_reducible exact Nat.lt_of_lt_of_le (by assumption) (by assumption) | with_reducible exact Nat.le_trans (by assumption) (by assumption) | decide | omega))
  case swA => rfl
  case hsA => intro _; rfl
  refine ev_01 J fun v3 z3 s3 hle3 J3 hr3 => ?_
  refine ⟨z3, J3, hr3, trivial, no_lt, fun cenv hC k hk v4 z4 s4 E4 hv4 hle4 J4 _ _ => ?_, fun v4 z4 s4 hle4 J4 hr4 _ => ?_⟩
  · obtain ⟨tk, rfl⟩ := hv4.isInt
    have hr4 := hr.mono (hle3.trans hle4)
    refine wpAny_tests_nil ⟨rfl, z4, Grow.refl J4.inn, trivial, fun _ => ?_⟩
    with_reducible refine ev_comp (xs := rowsK lines k) (enc := row) (p := fun r => decide ((headsL (rowsK lines k) r).filter (fun one => one != r) = [])) (f := fun r => .str (Txt.join dot r)) (K := fun _ => True) (own := true) r.hh hC ?csB ?frB (le_line (Nat.le_trans (hrl k) (by (first | with_reducible assumption | with_reducible exact Nat.add_le_add_left (by decide) _ | with_reducible exact Nat.le_trans (by assumption) (by decide) | with_reducible exact Nat.sub_succ_lt_self (by assumption) | with_reducible exact Nat.lt_of_lt_of_le (by assumption) (by assumption) | with_reducible exact Nat.le_trans (by assumption) (by assumption) | decide | omega)))) (fun _ _ _ _ => trivial) J4 ?srcB ?hsB
    case csB => exact ⟨rfl, fun _ _ => rfl, fun _ => rfl, fun _ => rfl, nofun, by decide⟩
    case frB => rfl
    case hsB => intro _; rfl
    with_reducible refine Subscript_ ?_
    refine J4.ld (v := vr) rfl (.inr (.inl (kind_of hC rfl))) (J4.ld (v := .int k tk) rfl (.inr (.inl (kind_of hC rfl))) ?_)
    refine tail_list (k := (k : Nat)) J4.inn hr4 (lt01 hk).1 (lt01 hk).2 (d := .list ((rowsK lines k).map row)) (get01 (f := fun k => PyData.list ((rowsK lines k).map row)) hk) fun v5 hr5 => ?_
    refine ⟨z4, J4, hr5, trivial, no_lt, fun cenv2 hC2 rw hrw v6 z6 s6 E6 hv6 hle6 J6 _ _ => ?_, fun v6 z6 s6 hle6 J6 hr6 _ => ⟨z6, J6.grow, ?_, trivial⟩⟩
    · have hr6 := hr4.mono hle6
      have hok := rows_ok hsn rw hrw
      with_reducible refine wpAny_tests_one (test_cmp ?_ (ev_comp (xs := headsL (rowsK lines k) rw) (enc := row) (p := fun one => one != rw) (f := row) (K := fun _ => True) (own := false) r.hh hC2 ?csC ?frC ?lenC (fun _ _ _ _ => trivial) J6 ?srcC ?hsC))
      · rfl
      case csC => exact ⟨rfl, fun _ _ => rfl, fun _ => rfl, nofun, fun _ => rfl, by decide⟩
      case frC => rfl
      case lenC => exact le_line (Nat.le_trans (List.length_filter_le _ _) (Nat.le_trans (hrl k) (by (first | with_reducible assumption | with_reducible exact Nat.add_le_add_left (by decide) _ | with_reducible exact Nat.le_trans (by assumption) (by decide) | with_reducible exact Nat.sub_succ_lt_self (by assumption) | with_reducible exact Nat.lt_of_lt_of_le (by assumption) (by assumption) | with_reducible exact Nat.le_trans (by assumption) (by assumption) | decide | omega))))
      case hsC => intro _; rfl
      with_reducible refine ev_call J6 X.G fH hgH (kind_of hC2 ?_) ?_ ?_ (arg_c ?_ (Subscript_ ?_))
      · rfl
      · decide
      · rfl
      · rfl
      refine J6.ld (v := vr) rfl (.inr (.inl (kind_of hC2 rfl))) (J6.ld (v := .int k tk) rfl (.inr (.inl (kind_of hC2 rfl))) ?_)
      refine tail_list (k := (k : Nat)) J6.inn hr6 (lt01 hk).1 (lt01 hk).2 (d := .list ((rowsK lines k).map row)) (get01 (f := fun k => PyData.list ((rowsK lines k).map row)) hk) fun v7 hr7 => ?_
      refine arg_c rfl (J6.ld (v := v6) rfl (.inr (.inl (kind_of hC2 rfl))) (arg_n ⟨z6, J6, ?_⟩))
      refine heads_spec (n := n) (rows := rowsK lines k) (parts := rw) (r.le (by (first | with_reducible assumption | with_reducible exact Nat.add_le_add_left (by decide) _ | with_reducible exact Nat.le_trans (by assumption) (by decide) | with_reducible exact Nat.sub_succ_lt_self (by assumption) | with_reducible exact Nat.lt_of_lt_of_le (by assumption) (by assumption) | with_reducible exact Nat.le_trans (by assumption) (by assumption) | decide | omega))) X.G fH J6.inn J6.base hr7 hv6 (Nat.le_trans (hrl k) (by (first | with_reducible assumption | with_reducible exact Nat.add_le_add_left (by decide) _ | with_reducible exact Nat.le_trans (by assumption) (by decide) | with_reducible exact Nat.sub_succ_lt_self (by assumption) | with_reducible exact Nat.lt_of_lt_of_le (by assumption) (by assumption) | with_reducible exact Nat.le_trans (by assumption) (by assumption) | decide | omega))) (rows_ok hsn) hok fun v8 z8 s8 g8 hr8 => ?_
      have J8 := J6.up g8
      refine ⟨z8, J8, hr8, trivial, no_lt, fun cenv3 hC3 one hone v9 z9 s9 E9 hv9 hle9 J9 _ _ => ?_, fun v9 z9 s9 hle9 J9 hr9 _ => ?_⟩
      · have hok1 := rows_ok hsn one (List.mem_filter.mp hone).1
        have hv6' := hv6.mono (g8.le.trans hle9)
        with_reducible refine wpAny_tests_one (test_cmp ?_ ?_)
        · rfl
        refine J9.ld (v := v9) rfl (.inl (kind_of hC3 rfl)) (J9.ld (v := v6) rfl (.inr (.inl (kind_of hC3 rfl))) ?_)
        refine cmp_ne (c := one == rw) r J9.inn hv9 hv6' (row_ok hok1.2) (row_ok hok.2) (by (first | with_reducible assumption | with_reducible exact Nat.add_le_add_left (by decide) _ | with_reducible exact Nat.le_trans (by assumption) (by decide) | with_reducible exact Nat.sub_succ_lt_self (by assumption) | with_reducible exact Nat.lt_of_lt_of_le (by assumption) (by assumption) | with_reducible exact Nat.le_trans (by assumption) (by assumption) | decide | omega)) (by (first | with_reducible assumption | with_reducible exact Nat.add_le_add_left (by decide) _ | with_reducible exact Nat.le_trans (by assumption) (by decide) | with_reducible exact Nat.sub_succ_lt_self (by assumption) | with_reducible exact Nat.lt_of_lt_of_le (by assumption) (by assumption) | with_reducible exact Nat.le_trans (by assumption) (by assumption) | decide | omega)) ?_ (wpAny_truthy_bool ⟨rfl, z9, Grow.refl J9.inn, trivial, fun _ => ?_⟩)
        · rw [beq_iff_eq]; exact ⟨fun e => by rw [e], row_inj⟩
        · exact J9.ld (v := v9) rfl (.inl (kind_of hC3 rfl)) ⟨z9, Grow.refl J9.inn, hv9, trivial⟩
      · with_reducible refine ev_list (arg_n ?_)
        refine J9.newList (ds := []) (.nil _) (Nat.zero_le _) fun v10 z10 s10 hle10 J10 hr10 => ?_
        refine cmp_eq (n := 2) (k := 1) (c := decide ((headsL (rowsK lines k) rw).filter (fun one => one != rw) = [])) r J10.inn (hr9.mono hle10) hr10 (filt_ok (rows_ok hsn) _ _) (nil_ok 0) (by (first | with_reducible assumption | with_reducible exact Nat.add_le_add_left (by decide) _ | with_reducible exact Nat.le_trans (by assumption) (by decide) | with_reducible exact Nat.sub_succ_lt_self (by assumption) | with_reducible exact Nat.lt_of_lt_of_le (by assumption) (by assumption) | with_reducible exact Nat.le_trans (by assumption) (by assumption) | decide | omega)) (by (first | with_reducible assumption | with_reducible exact Nat.add_le_add_left (by decide) _ | with_reducible exact Nat.le_trans (by assumption) (by decide) | with_reducible exact Nat.sub_succ_lt_self (by assumption) | with_reducible exact Nat.lt_of_lt_of_le (by assumption) (by assumption) | with_reducible exact Nat.le_trans (by assumption) (by assumption) | decide | omega)) ?_ (wpAny_truthy_bool ⟨rfl, z10, J10.grow, trivial, fun _ => ?_⟩)
        · rw [decide_eq_true_eq, PyData.list.injEq, List.map_eq_nil_iff]
        · have K10 := J10.here
          have hv10 := hv6.mono (g8.le.trans (hle9.trans hle10))
          with_reducible refine meth1 ?_ (K10.str fun t11 s11 J11 => ?_)
          · rfl
          exact J11.join (texts := rw) (join_row (rows_sp hsn rw hrw)) (J11.ld (v := v6) rfl (.inr (.inl (kind_of hC2 rfl))) ⟨z10, J11, hv10, fun t12 s12 J12 => ⟨z10, J12.grow, .str _ _, trivial⟩⟩)
    · have e : ((rowsK lines k).filter fun r => decide ((headsL (rowsK lines k) r).filter (fun one => one != r) = [])).map (fun r => PyData.str (Txt.join dot r)) = (topsK lines k).map .str := by unfold topsK; rw [List.map_map]; rfl
      rw [e] at hr6
      exact hr6
  · rw [List.filter_eq_self.mpr fun _ _ => rfl] at hr4
    exact h v4 z4 s4 (hle3.trans hle4) J4 hr4
end NB90
end
section
set_option autoImplicit false
open PySem PySem.W PyProof.Rows
set_option Elab.async false
set_option maxRecDepth 100000
namespace NB90
variable {h₀ : Heap} {mg mb : Str → Option Value} {W : Addr → Prop} {z₀ z z' z₁ : Fz} {s₀ s s' s₁ : Shared} {env : Env} {ρ : List (Str × Value)} {prog : Program} {w : World} {A : Around} {E : Value → Shared → Prop}
variable {n : Nat} {Q : Flow → Shared → Prop} {lines : List Str} {vs vo vn va vr vd vt vh : Value} {l : Addr}

noncomputable abbrev rhoB (vs vo vl vn va vr vd vt : Value) : List (Str × Value) := (Str.ofString "tops", vt) :: (Str.ofString "due", vd) :: (Str.ofString "rows", vr) :: rhoA vs vo vl vn va
noncomputable abbrev rhoC (vs vo vl vn va vr vd vt vh : Value) : List (Str × Value) := (Str.ofString "short", vh) :: rhoB vs vo vl vn va vr vd vt

theorem law_7 (X : Lw prog w h₀ mg mb) (r : Room A (n + 11)) (F : Fl env s₀) (J : Inn h₀ No z₀ s₀ env (rhoB vs vo (.ref l) vn va vr vd vt) z s) (hl : Rd z (.ref l) (.list (lines.map .str))) (hln : ∀ l ∈ lines, Ln l) (hlen : lines.length ≤ 100)
    (h : ∀ vh z' s', z.le z' → Inn h₀ No z₀ s₀ env (rhoC vs vo (.ref l) vn va vr vd vt vh) z' s' → Rd z' vh (row (shortL lines)) → wpAny (model prog w) A (execs (pBodyLaw.1.drop 8) env) Q E s') :
    wpAny (model prog w) A (execs (pBodyLaw.1.drop 7) env) Q E s := by
  have hS := F.hS
  obtain ⟨C, N, fI, fN, mN, fdI, fdN, K, hgC⟩ := X.K
  obtain ⟨aR, cdR, hgR, fR⟩ := X.restore
  obtain ⟨aU, cdU, hgU, fU⟩ := X.up
  obtain ⟨aT, cdT, hgT, fT⟩ := X.tagged
  obtain ⟨aS, cdS, hgS, fS⟩ := X.short
  simp only [pBodyLaw, List.drop_succ_cons, List.drop_zero]
  with_reducible refine wpAny_execs_cons (asg ?_ (ev_call J X.G fS hgS (kind_of hS ?_) ?_ ?_ (arg_c ?_ ?_)))
  · rfl
  · rfl
  · decide
  · rfl
  · rfl
  refine J.ld (v := .ref l) rfl (.inr (.inl (kind_of hS rfl))) (arg_n ⟨z, J, ?_⟩)
  refine short_spec (n := n) (r.le (by (first | with_reducible assumption | with_reducible exact Nat.add_le_add_left (by decide) _ | with_reducible exact Nat.le_trans (by assumption) (by decide) | with_reducible exact Nat.sub_succ_lt_self (by assumption) | with_reducible exact Nat.lt_of_lt_of_le (by assumption) (by assumption) | with_reducible exact Nat.le_trans (by assumption) (by assumption) | decide | omega))) X.G K fR hgC hgR fU hgU fT hgT fS J.inn J.base (fun x hx => (hln x hx).sn) (by (first | with_reducible assumption | with_reducible exact Nat.add_le_add_left (by decide) _ | with_reducible exact Nat.le_trans (by assumption) (by decide) | with_reducible exact Nat.sub_succ_lt_self (by assumption) | with_reducible exact Nat.lt_of_lt_of_le (by assumption) (by assumption) | with_reducible exact Nat.le_trans (by assumption) (by assumption) | decide | omega)) hl (fun k _ x hx => ?_) fun v z1 s1 g1 hr1 => ?_
  · have hn := rest_name hln x hx
    have hu := up_name hn
    exact ⟨hn.nm, hu.ne, by have := hu.1; (first | with_reducible assumption | with_reducible exact Nat.add_le_add_left (by decide) _ | with_reducible exact Nat.le_trans (by assumption) (by decide) | with_reducible exact Nat.sub_succ_lt_self (by assumption) | with_reducible exact Nat.lt_of_lt_of_le (by assumption) (by assumption) | with_reducible exact Nat.le_trans (by assumption) (by assumption) | decide | omega)⟩
  · have J1 := J.up g1
    have hc : env.cells.lookup (Str.ofString "short") = some (env.locals + 4) := cell_of F.hcl rfl
    refine J1.stC (kind_of hS rfl) hc (F.hcn _ _ hc) fun s2 J2 t2 => ?_
    exact h v z1 s2 g1.le J2 hr1

theorem ints_ok {α : Type} (xs : List α) (f : α → Int) : Ok 1 (.list (xs.map fun a => .int (f a))) := by
  unfold Ok
  intro d hd
  obtain ⟨a, _, rfl⟩ := List.mem_map.mp hd
  simp only [Ok]
theorem ints2_ok {α : Type} (xs : List α) (f : Nat → α → Int) : Ok 2 (.list ([0, 1].map fun k => .list (xs.map fun a => .int (f k a)))) := by
  show ∀ d ∈ _, Ok 1 d
  intro d hd
  obtain ⟨k, _, rfl⟩ := List.mem_map.mp hd
  exact ints_ok xs (f k)
theorem due_eq (hln : ∀ l ∈ lines, Ln l) : ([0, 1].map fun k => PyData.list ((askedL lines).map fun m => .int (tellI (restK lines k) m))) = [0, 1].map fun k => PyData.list ((askedL lines).map fun m => .int (dueI (rowsK lines k) m)) := by
  refine List.map_congr_left fun k hk => ?_
  rw [rows_eq hln hk]
  refine congrArg PyData.list (List.map_congr_left fun m _ => ?_)
  rw [tell_due]
theorem short_eq (hln : ∀ l ∈ lines, Ln l) : shortL lines = taggedL (topsK lines 0) (topsK lines 1) := by
  rw [tops_eq hln (by simp), tops_eq hln (by simp)]; rfl
theorem short_sn (hln : ∀ l ∈ lines, Ln l) : ∀ x ∈ shortL lines, Sn x := fun x hx => (short_ln hln x hx).sn

theorem law_8 (X : Lw prog w h₀ mg mb) (r : Room A (n + 11)) (F : Fl env s₀) (J : Inn h₀ No z₀ s₀ env (rhoC vs vo (.ref l) vn va vr vd vt vh) z s) (hl : Rd z (.ref l) (.list (lines.map .str))) (ha : Rd z va (.list ((askedL lines).map .str)))
    (hd : Rd z vd (.list ([0, 1].map fun k => .list ((askedL lines).map fun m => .int (dueI (rowsK lines k) m))))) (ht : Rd z vt (.list ([0, 1].map fun k => row (topsK lines k)))) (hh : Rd z vh (row (shortL lines))) (hln : ∀ l ∈ lines, Ln l) (hlen : lines.length ≤ 100)
    (h : ∀ z' s', z.le z' → Inn h₀ No z₀ s₀ env (rhoC vs vo (.ref l) vn va vr vd vt vh) z' s' → wpAny (model prog w) A (execs (pBodyLaw.1.drop 9) env) Q E s') :
    wpAny (model prog w) A (execs (pBodyLaw.1.drop 8) env) Q E s := by
  have hS := F.hS
  obtain ⟨C, N, fI, fN, mN, fdI, fdN, K, hgC⟩ := X.K
  obtain ⟨aR, cdR, hgR, fR⟩ := X.restore
  obtain ⟨aT, cdT, hgT, fT⟩ := X.tagged
  obtain ⟨aO, cdO, hgO, fO⟩ := X.told
  have htn : ∀ k ∈ [0, 1], ∀ x ∈ topsK lines k, Nm x := fun k hk x hx => by rw [tops_eq hln hk] at hx; exact (rest_name hln x (top_mem hx)).nm
  have htl : ∀ k ∈ [0, 1], (topsK lines k).length ≤ 100 := fun k hk => by rw [tops_eq hln hk]; exact Nat.le_trans (top_len _) (Nat.le_trans (rest_len _ _) hlen)
  simp only [pBodyLaw, List.drop_succ_cons, List.drop_zero]
  with_reducible refine wpAny_execs_cons (wpAny_If (isTrue_or (test_cmp ?_ ?_)))
  · rfl
  refine J.ld (v := vh) rfl (.inr (.inl (kind_of hS rfl))) ?_
  with_reducible refine ev_call J X.G fT hgT (kind_of hS ?_) ?_ ?_ (arg_c ?_ ?_)
  · rfl
  · decide
  · rfl
  · rfl
  refine J.ld (v := vt) rfl (.inl (kind_of hS rfl)) (arg_n ⟨z, J, ?_⟩)
  refine tagged_spec (n := n) (t0 := topsK lines 0) (t1 := topsK lines 1) (r.le (by (first | with_reducible assumption | with_reducible exact Nat.add_le_add_left (by decide) _ | with_reducible exact Nat.le_trans (by assumption) (by decide) | with_reducible exact Nat.sub_succ_lt_self (by assumption) | with_reducible exact Nat.lt_of_lt_of_le (by assumption) (by assumption) | with_reducible exact Nat.le_trans (by assumption) (by assumption) | decide | omega))) X.G fT J.inn J.base ht (by have := htl 0 (by simp); have := htl 1 (by simp); (first | with_reducible assumption | with_reducible exact Nat.add_le_add_left (by decide) _ | with_reducible exact Nat.le_trans (by assumption) (by decide) | with_reducible exact Nat.sub_succ_lt_self (by assumption) | with_reducible exact Nat.lt_of_lt_of_le (by assumption) (by assumption) | with_reducible exact Nat.le_trans (by assumption) (by assumption) | decide | omega)) (htn 0 (by simp)) (htn 1 (by simp)) fun v1 z1 s1 g1 hr1 => ?_
  have J1 := J.up g1
  rw [← short_eq hln] at hr1
  refine cmp_ne (c := true) r J1.inn (hh.mono g1.le) hr1 (row_ok (short_sn hln)) (row_ok (short_sn hln)) (by (first | with_reducible assumption | with_reducible exact Nat.add_le_add_left (by decide) _ | with_reducible exact Nat.le_trans (by assumption) (by decide) | with_reducible exact Nat.sub_succ_lt_self (by assumption) | with_reducible exact Nat.lt_of_lt_of_le (by assumption) (by assumption) | with_reducible exact Nat.le_trans (by assumption) (by assumption) | decide | omega)) (by (first | with_reducible assumption | with_reducible exact Nat.add_le_add_left (by decide) _ | with_reducible exact Nat.le_trans (by assumption) (by decide) | with_reducible exact Nat.sub_succ_lt_self (by assumption) | with_reducible exact Nat.lt_of_lt_of_le (by assumption) (by assumption) | with_reducible exact Nat.le_trans (by assumption) (by assumption) | decide | omega)) ⟨fun _ => rfl, fun _ => rfl⟩ (wpAny_truthy_bool ?_)
  rw [Bool.not_true, if_neg Bool.false_ne_true]
  with_reducible refine isTrue_or (test_cmp ?_ (ev_comp (xs := [0, 1]) (enc := encN) (p := fun _ => true) (f := fun k => .list ((askedL lines).map fun m => .int (tellI (restK lines k) m))) (K := fun _ => True) (own := false) r.hh hS ?csA ?frA ?lenA (fun _ _ _ _ => trivial) J1 ?srcA ?hsA))
  · rfl
  case csA => exact ⟨rfl, fun _ _ => rfl, fun _ => rfl, nofun, fun _ => rfl, by decide⟩
  case frA => rfl
  case lenA => exact le_line (by show 2 ≤ 10000; (first | with_reducible assumption | with_reducible exact Nat.add_le_add_left (by decide) _ | with_reducible exact Nat.le_trans (by assumption) (by decide) | with_reducible exact Nat.sub_succ_lt_self (by assumption) | with_reducible exact Nat.lt_of_lt_of_le (by assumption) (by assumption) | with_reducible exact Nat.le_trans (by assumption) (by assumption) | decide | omega))
  case hsA => intro _; rfl
  refine ev_01 J1 fun v3 z3 s3 hle3 J3 hr3 => ?_
  refine ⟨z3, J3, hr3, trivial, no_lt, fun cenv hC k hk v4 z4 s4 E4 hv4 hle4 J4 _ _ => ?_, fun v4 z4 s4 hle4 J4 hr4 _ => ?_⟩
  · obtain ⟨tk, rfl⟩ := hv4.isInt
    refine wpAny_tests_nil ⟨rfl, z4, Grow.refl J4.inn, trivial, fun _ => ?_⟩
    with_reducible refine ev_call J4 X.G fO hgO (kind_of hC ?_) ?_ ?_ (arg_c ?_ ?_)
    · rfl
    · decide
    · rfl
    · rfl
    refine J4.ld (v := .ref l) rfl (.inr (.inl (kind_of hC rfl))) ?_
    with_reducible refine arg_c ?_ (wpAny_BinOp ?_)
    · rfl
    refine J4.ld rfl (.inl (kind_of hC rfl)) (J4.int fun t5 s5 J5 => J5.addInt fun t6 s6 J6 => ?_)
    refine arg_c rfl (J6.ld (v := va) rfl (.inr (.inl (kind_of hC rfl))) (arg_n ⟨z4, J6, ?_⟩))
    have hle := g1.le.trans (hle3.trans hle4)
    refine told_spec (n := n) (k := ((k : Nat) : Int) + 1) (lines := lines) (asked := askedL lines) (r.le (by (first | with_reducible assumption | with_reducible exact Nat.add_le_add_left (by decide) _ | with_reducible exact Nat.le_trans (by assumption) (by decide) | with_reducible exact Nat.sub_succ_lt_self (by assumption) | with_reducible exact Nat.lt_of_lt_of_le (by assumption) (by assumption) | with_reducible exact Nat.le_trans (by assumption) (by assumption) | decide | omega))) X.G K fR hgC hgR fO J6.inn J6.base (by rcases mem01 hk with rfl | rfl; exact .inl rfl; exact .inr rfl) (fun x hx => (hln x hx).sn) (by (first | with_reducible assumption | with_reducible exact Nat.add_le_add_left (by decide) _ | with_reducible exact Nat.le_trans (by assumption) (by decide) | with_reducible exact Nat.sub_succ_lt_self (by assumption) | with_reducible exact Nat.lt_of_lt_of_le (by assumption) (by assumption) | with_reducible exact Nat.le_trans (by assumption) (by assumption) | decide | omega)) (hl.mono hle) (ha.mono hle)
      (fun m hm => ⟨(asked_name hln m hm).nm.sn, (asked_name hln m hm).ne⟩) (by simp only [askedL, namesL, List.length_append, List.length_map]; (first | with_reducible assumption | with_reducible exact Nat.add_le_add_left (by decide) _ | with_reducible exact Nat.le_trans (by assumption) (by decide) | with_reducible exact Nat.sub_succ_lt_self (by assumption) | with_reducible exact Nat.lt_of_lt_of_le (by assumption) (by assumption) | with_reducible exact Nat.le_trans (by assumption) (by assumption) | decide | omega)) fun v7 z7 s7 g7 hr7 => ?_
    exact ⟨z7, J6.grow.trans g7, hr7, trivial⟩
  · rw [List.filter_eq_self.mpr fun _ _ => rfl] at hr4
    rw [due_eq hln] at hr4
    refine J4.ld (v := vd) rfl (.inl (kind_of hS rfl)) ?_
    have hle := g1.le.trans (hle3.trans hle4)
    refine cmp_ne (c := true) r J4.inn hr4 (hd.mono hle) (ints2_ok _ _) (ints2_ok _ _) (by (first | with_reducible assumption | with_reducible exact Nat.add_le_add_left (by decide) _ | with_reducible exact Nat.le_trans (by assumption) (by decide) | with_reducible exact Nat.sub_succ_lt_self (by assumption) | with_reducible exact Nat.lt_of_lt_of_le (by assumption) (by assumption) | with_reducible exact Nat.le_trans (by assumption) (by assumption) | decide | omega)) (by (first | with_reducible assumption | with_reducible exact Nat.add_le_add_left (by decide) _ | with_reducible exact Nat.le_trans (by assumption) (by decide) | with_reducible exact Nat.sub_succ_lt_self (by assumption) | with_reducible exact Nat.lt_of_lt_of_le (by assumption) (by assumption) | with_reducible exact Nat.le_trans (by assumption) (by assumption) | decide | omega)) ⟨fun _ => rfl, fun _ => rfl⟩ (wpAny_truthy_bool ?_)
    rw [Bool.not_true, if_neg Bool.false_ne_true]
    refine isTrue_or_nil ?_
    rw [if_neg Bool.false_ne_true]
    exact wpAny_execs_nil (h z4 s4 hle J4)
end NB90
end
section
set_option autoImplicit false
open PySem PySem.W PyProof.Rows
set_option Elab.async false
set_option maxRecDepth 100000
namespace NB90
variable {h₀ : Heap} {mg mb : Str → Option Value} {W : Addr → Prop} {z₀ z z' z₁ : Fz} {s₀ s s' s₁ : Shared} {env : Env} {ρ : List (Str × Value)} {prog : Program} {w : World} {A : Around} {E : Value → Shared → Prop}
variable {n : Nat} {Q : Flow → Shared → Prop} {lines : List Str} {vs vo vn va vr vd vt vh : Value} {l : Addr}

/-- the frame after its slots alone were written -/
theorem Inn.slots (J : Inn h₀ No z₀ s₀ env ρ z s) (hL : s₀.heap.objs.size ≤ env.locals) (k : Sl [env.locals] s.heap s'.heap) (hos : s'.os = s.os) (hg : ∀ (i : Nat) (x : GenState), s.gens[i]? = some x → s'.gens[i]? = some x) (hb : AllBare s.gens → AllBare s'.gens) (hsz : s.heap.objs.size ≤ s'.heap.objs.size) : Inn h₀ No z₀ s₀ env ρ z s' := by
  have hcl : ∀ {y : Str} {c : Addr}, env.cells.lookup y = some c → c ≠ env.locals := fun {y c} hc e => by
    obtain ⟨⟨_, o, ho, hd⟩, _⟩ := J.frame.cz y c hc
    obtain ⟨m, ⟨o', es, ep, ho', hd', _⟩, _⟩ := J.frame.ns
    rw [e, ho'] at ho; cases ho; rw [hd'] at hd; cases hd
  have kc : ∀ {c : Addr} {o : Obj}, c ≠ env.locals → s.heap.get? c = some o → s'.heap.get? c = some o := fun {c o} hc e => k.keep c o (by simpa using hc) e
  refine ⟨⟨⟨fun b o hb' e => kc (fun q => Nat.lt_irrefl _ (Nat.lt_of_lt_of_le (Heap.lt_size e) (q ▸ hL))) (J.grow.keep b o hb' e), Nat.le_trans J.grow.size hsz, hos.trans J.grow.os, fun i x e => hg i x (J.grow.gens i x e), fun q => hb (J.grow.bare q)⟩, J.grow.le, ?_, J.grow.new⟩, ?_, J.base, J.apart⟩
  · exact fun a o e => kc (fun q => J.frame.nz o (q ▸ e)) (J.inn a o e)
  · exact { J.frame with
      ns := let ⟨m, hn, hm⟩ := J.frame.ns; ⟨m, k.ns hn, hm⟩
      cell := fun y v hk hv => let ⟨c, hc, o, ho, hd⟩ := J.frame.cell y v hk hv; ⟨c, hc, o, kc (hcl hc) ho, hd⟩
      cz := fun y c hc => let ⟨⟨v, o, ho, hd⟩, h2⟩ := J.frame.cz y c hc; ⟨⟨v, o, kc (hcl hc) ho, hd⟩, h2⟩ }

theorem due_short (hln : ∀ l ∈ lines, Ln l) : ([0, 1].map fun k => PyData.list ((askedL lines).map fun m => .int (tellI (restK (shortL lines) k) m))) = [0, 1].map fun k => PyData.list ((askedL lines).map fun m => .int (dueI (rowsK lines k) m)) := by
  rw [← due_eq hln]
  refine List.map_congr_left fun k hk => congrArg PyData.list (List.map_congr_left fun m _ => ?_)
  rw [short_tells hk]

theorem law_9 (X : Lw prog w h₀ mg mb) (r : Room A (n + 11)) (F : Fl env s₀) (hfr : A.frames = some [env]) (hfrm : env.frame = some env.locals) (J : Inn h₀ No z₀ s₀ env (rhoC vs vo (.ref l) vn va vr vd vt vh) z s) (hl : Rd z (.ref l) (.list (lines.map .str))) (ha : Rd z va (.list ((askedL lines).map .str)))
    (hd : Rd z vd (.list ([0, 1].map fun k => .list ((askedL lines).map fun m => .int (dueI (rowsK lines k) m))))) (hh : Rd z vh (row (shortL lines))) (hln : ∀ l ∈ lines, Ln l) (hlen : lines.length ≤ 100)
    (h : ∀ z' s', z.le z' → Inn h₀ No z₀ s₀ env (rhoC vs vo (.ref l) vn va vr vd vt vh) z' s' → wpAny (model prog w) A (execs (pBodyLaw.1.drop 10) env) Q E s') :
    wpAny (model prog w) A (execs (pBodyLaw.1.drop 9) env) Q E s := by
  have hS := F.hS
  obtain ⟨C, N, fI, fN, mN, fdI, fdN, K, hgC⟩ := X.K
  obtain ⟨aR, cdR, hgR, fR⟩ := X.restore
  obtain ⟨aO, cdO, hgO, fO⟩ := X.told
  obtain ⟨aF, cdF, hgF, fF⟩ := X.refused
  obtain ⟨lh, oh, _, _, rfl, _⟩ := hh.isList
  have hsl : (shortL lines).length ≤ 200 := Nat.le_trans short_len (by (first | with_reducible assumption | with_reducible exact Nat.add_le_add_left (by decide) _ | with_reducible exact Nat.le_trans (by assumption) (by decide) | with_reducible exact Nat.sub_succ_lt_self (by assumption) | with_reducible exact Nat.lt_of_lt_of_le (by assumption) (by assumption) | with_reducible exact Nat.le_trans (by assumption) (by assumption) | decide | omega))
  simp only [pBodyLaw, List.drop_succ_cons, List.drop_zero]
  with_reducible refine wpAny_execs_cons (wpAny_If (isTrue_or (test_cmp ?_ (ev_comp (xs := [0, 1]) (enc := encN) (p := fun _ => true) (f := fun k => .list ((askedL lines).map fun m => .int (tellI (restK (shortL lines) k) m))) (K := fun _ => True) (own := false) r.hh hS ?csA ?frA ?lenA (fun _ _ _ _ => trivial) J ?srcA ?hsA))))
  · rfl
  case csA => exact ⟨rfl, fun _ _ => rfl, fun _ => rfl, nofun, fun _ => rfl, by decide⟩
  case frA => rfl
  case lenA => exact le_line (by show 2 ≤ 10000; (first | with_reducible assumption | with_reducible exact Nat.add_le_add_left (by decide) _ | with_reducible exact Nat.le_trans (by assumption) (by decide) | with_reducible exact Nat.sub_succ_lt_self (by assumption) | with_reducible exact Nat.lt_of_lt_of_le (by assumption) (by assumption) | with_reducible exact Nat.le_trans (by assumption) (by assumption) | decide | omega))
  case hsA => intro _; rfl
  refine ev_01 J fun v3 z3 s3 hle3 J3 hr3 => ?_
  refine ⟨z3, J3, hr3, trivial, no_lt, fun cenv hC k hk v4 z4 s4 E4 hv4 hle4 J4 _ _ => ?_, fun v4 z4 s4 hle4 J4 hr4 _ => ?_⟩
  · obtain ⟨tk, rfl⟩ := hv4.isInt
    refine wpAny_tests_nil ⟨rfl, z4, Grow.refl J4.inn, trivial, fun _ => ?_⟩
    with_reducible refine ev_call J4 X.G fO hgO (kind_of hC ?_) ?_ ?_ (arg_c ?_ ?_)
    · rfl
    · decide
    · rfl
    · rfl
    refine J4.ld (v := .ref lh) rfl (.inr (.inl (kind_of hC rfl))) ?_
    with_reducible refine arg_c ?_ (wpAny_BinOp ?_)
    · rfl
    refine J4.ld rfl (.inl (kind_of hC rfl)) (J4.int fun t5 s5 J5 => J5.addInt fun t6 s6 J6 => ?_)
    refine arg_c rfl (J6.ld (v := va) rfl (.inr (.inl (kind_of hC rfl))) (arg_n ⟨z4, J6, ?_⟩))
    have hle := hle3.trans hle4
    refine told_spec (n := n) (k := ((k : Nat) : Int) + 1) (lines := shortL lines) (asked := askedL lines) (r.le (by (first | with_reducible assumption | with_reducible exact Nat.add_le_add_left (by decide) _ | with_reducible exact Nat.le_trans (by assumption) (by decide) | with_reducible exact Nat.sub_succ_lt_self (by assumption) | with_reducible exact Nat.lt_of_lt_of_le (by assumption) (by assumption) | with_reducible exact Nat.le_trans (by assumption) (by assumption) | decide | omega))) X.G K fR hgC hgR fO J6.inn J6.base (by rcases mem01 hk with rfl | rfl; exact .inl rfl; exact .inr rfl) (short_sn hln) (by (first | with_reducible assumption | with_reducible exact Nat.add_le_add_left (by decide) _ | with_reducible exact Nat.le_trans (by assumption) (by decide) | with_reducible exact Nat.sub_succ_lt_self (by assumption) | with_reducible exact Nat.lt_of_lt_of_le (by assumption) (by assumption) | with_reducible exact Nat.le_trans (by assumption) (by assumption) | decide | omega)) (hh.mono hle) (ha.mono hle)
      (fun m hm => ⟨(asked_name hln m hm).nm.sn, (asked_name hln m hm).ne⟩) (by simp only [askedL, namesL, List.length_append, List.length_map]; (first | with_reducible assumption | with_reducible exact Nat.add_le_add_left (by decide) _ | with_reducible exact Nat.le_trans (by assumption) (by decide) | with_reducible exact Nat.sub_succ_lt_self (by assumption) | with_reducible exact Nat.lt_of_lt_of_le (by assumption) (by assumption) | with_reducible exact Nat.le_trans (by assumption) (by assumption) | decide | omega)) fun v7 z7 s7 g7 hr7 => ?_
    exact ⟨z7, J6.grow.trans g7, hr7, trivial⟩
  · rw [List.filter_eq_self.mpr fun _ _ => rfl] at hr4
    rw [due_short hln] at hr4
    have hle := hle3.trans hle4
    refine J4.ld (v := vd) rfl (.inl (kind_of hS rfl)) ?_
    refine cmp_ne (c := true) r J4.inn hr4 (hd.mono hle) (ints2_ok _ _) (ints2_ok _ _) (by (first | with_reducible assumption | with_reducible exact Nat.add_le_add_left (by decide) _ | with_reducible exact Nat.le_trans (by assumption) (by decide) | with_reducible exact Nat.sub_succ_lt_self (by assumption) | with_reducible exact Nat.lt_of_lt_of_le (by assumption) (by assumption) | with_reducible exact Nat.le_trans (by assumption) (by assumption) | decide | omega)) (by (first | with_reducible assumption | with_reducible exact Nat.add_le_add_left (by decide) _ | with_reducible exact Nat.le_trans (by assumption) (by decide) | with_reducible exact Nat.sub_succ_lt_self (by assumption) | with_reducible exact Nat.lt_of_lt_of_le (by assumption) (by assumption) | with_reducible exact Nat.le_trans (by assumption) (by assumption) | decide | omega)) ⟨fun _ => rfl, fun _ => rfl⟩ (wpAny_truthy_bool ?_)
    rw [Bool.not_true, if_neg Bool.false_ne_true]
    with_reducible refine isTrue_or (isTrue_not (isTrue_plain (ev_call J4 X.G fF hgF (kind_of hS ?_) ?_ ?_ (arg_c ?_ ?_)) ?_))
    · rfl
    · decide
    · rfl
    · rfl
    · refine J4.ld (v := .ref l) rfl (.inr (.inl (kind_of hS rfl))) (arg_n ⟨z4, J4, ?_⟩)
      have hFF : [env].filterMap (·.frame) = [env.locals] := by rw [List.filterMap_cons, hfrm]; rfl
      refine refused_spec (n := n) (outer := [env]) (r.le (by (first | with_reducible assumption | with_reducible exact Nat.add_le_add_left (by decide) _ | with_reducible exact Nat.le_trans (by assumption) (by decide) | with_reducible exact Nat.sub_succ_lt_self (by assumption) | with_reducible exact Nat.lt_of_lt_of_le (by assumption) (by assumption) | with_reducible exact Nat.le_trans (by assumption) (by assumption) | decide | omega))) X.G fR hgR fF J4.inn J4.base hfr (frs_cons (fm_frs J4.frame hfrm) (frs_nil _)) (fun a o e q => ?_) fun s5 k5 hos hg hb hsz => wpAny_truthy_bool ?_
      · rw [hFF] at q
        exact J4.frame.nz o (List.mem_singleton.mp q ▸ e)
      · rw [hFF] at k5
        have J5 := J4.slots F.hL k5 hos hg hb hsz
        rw [Bool.not_true, if_neg Bool.false_ne_true]
        refine isTrue_or_nil ?_
        rw [if_neg Bool.false_ne_true]
        exact wpAny_execs_nil (h z4 s5 hle J5)
    · rfl
end NB90
end
section
set_option autoImplicit false
open PySem PySem.W PyProof.Rows
set_option Elab.async false
set_option maxRecDepth 100000
namespace NB90
variable {h₀ : Heap} {mg mb : Str → Option Value} {W : Addr → Prop} {z₀ z z' z₁ : Fz} {s₀ s s' s₁ : Shared} {env : Env} {ρ : List (Str × Value)} {prog : Program} {w : World} {A : Around} {E : Value → Shared → Prop}
variable {n : Nat} {Q : Flow → Shared → Prop} {lines : List Str} {vs vl vo vn va vr vd vt vh vf : Value}

noncomputable def atS (sh : List Str) (j : Nat) : Str := sh.getD j Str.empty
noncomputable def leftP (sh : List Str) (j k : Nat) : Bool := sideB k (atS sh j)
noncomputable def leftD (sh : List Str) (j k : Nat) : PyData := .list [row (sh.take j ++ sh.drop (j + 1)), .int (k : Nat), .str (cutL (atS sh j))]
theorem at_get {sh : List Str} {j : Nat} (h : j < sh.length) : (sh.map PyData.str)[((j : Nat) : Int).toNat]? = some (.str (atS sh j)) := by
  rw [Int.toNat_natCast, List.getElem?_map, List.getElem?_eq_getElem h]
  unfold atS
  rw [List.getD_eq_getElem?_getD, List.getElem?_eq_getElem h]; rfl
theorem at_mem {sh : List Str} {j : Nat} (h : j < sh.length) : atS sh j ∈ sh := by
  unfold atS
  rw [List.getD_eq_getElem?_getD, List.getElem?_eq_getElem h]; exact List.getElem_mem h
theorem at_eq {sh : List Str} {j : Nat} (h : j < sh.length) : atS sh j = sh[j] := by
  unfold atS
  rw [List.getD_eq_getElem?_getD, List.getElem?_eq_getElem h]; rfl

theorem law_10 (X : Lw prog w h₀ mg mb) (r : Room A (n + 11)) (F : Fl env s₀) (J : Inn h₀ No z₀ s₀ env (rhoC vs vo vl vn va vr vd vt vh) z s) {sh : List Str} (hh : Rd z vh (row sh)) (hsh : ∀ x ∈ sh, Ln x) (hlen : sh.length ≤ 200)
    (h : ∀ vf z' s', z.le z' → Inn h₀ No z₀ s₀ env ((Str.ofString "left", vf) :: rhoC vs vo vl vn va vr vd vt vh) z' s' → Rd z' vf (.list ((List.range sh.length).flatMap fun j => ([0, 1].filter (leftP sh j)).map (leftD sh j))) → wpAny (model prog w) A (execs (pBodyLaw.1.drop 11) env) Q E s') :
    wpAny (model prog w) A (execs (pBodyLaw.1.drop 10) env) Q E s := by
  have hS := F.hS
  simp only [pBodyLaw, List.drop_succ_cons, List.drop_zero]
  with_reducible refine wpAny_execs_cons (assign_comp2 (xs := List.range sh.length) (ys := [0, 1]) (enc := fun k => .int (k : Nat)) (enc2 := encN) (p := leftP sh) (f := leftD sh) r.hh hS ?cs ?yl ?xy ?fr ?sw J F.hL ?len ?src ?src2 ?turn ?fin ?hs ?hs2)
  case cs => exact ⟨rfl, fun _ _ => rfl, fun _ => rfl, nofun, fun _ => rfl, by decide⟩
  case yl => rfl
  case xy => decide
  case fr => rfl
  case sw => rfl
  case hs => intro _; rfl
  case hs2 => intro _ _; rfl
  case len =>
    intro i
    have key : ∀ (xs : List Nat), (xs.flatMap fun j => ([0, 1].filter (leftP sh j)).map (leftD sh j)).length ≤ 2 * xs.length := by
      intro xs
      induction xs with
      | nil => simp
      | cons a xs ih =>
        rw [List.flatMap_cons, List.length_append, List.length_map, List.length_cons]
        have := List.length_filter_le (leftP sh a) [0, 1]
        simp only [List.length_cons, List.length_nil] at this
        (first | with_reducible assumption | with_reducible exact Nat.add_le_add_left (by decide) _ | with_reducible exact Nat.le_trans (by assumption) (by decide) | with_reducible exact Nat.sub_succ_lt_self (by assumption) | with_reducible exact Nat.lt_of_lt_of_le (by assumption) (by assumption) | with_reducible exact Nat.le_trans (by assumption) (by assumption) | decide | omega)
    have h1 := key ((List.range sh.length).take i)
    rw [List.length_take, List.length_range] at h1
    show _ + 2 ≤ sizeLine
    exact le_line (by (first | with_reducible assumption | with_reducible exact Nat.add_le_add_left (by decide) _ | with_reducible exact Nat.le_trans (by assumption) (by decide) | with_reducible exact Nat.sub_succ_lt_self (by assumption) | with_reducible exact Nat.lt_of_lt_of_le (by assumption) (by assumption) | with_reducible exact Nat.le_trans (by assumption) (by assumption) | decide | omega))
  case src =>
    have J0 := J.here
    with_reducible refine ev_callT J0 X.G X.G.range.1 X.G.range.2 (kind_of hS ?_) ?_ ?_ (ev_callB J0 X.G X.G.len.1 X.G.len.2 (kind_of hS ?_) ?_ ?_ ?_)
    · rfl
    · decide
    · rfl
    · rfl
    · decide
    · rfl
    refine J0.ld (v := vh) rfl (.inr (.inl (kind_of hS rfl))) ?_
    refine len_list' J0 hh (by simp only [List.length_map]; exact le_line (by (first | with_reducible assumption | with_reducible exact Nat.add_le_add_left (by decide) _ | with_reducible exact Nat.le_trans (by assumption) (by decide) | with_reducible exact Nat.sub_succ_lt_self (by assumption) | with_reducible exact Nat.lt_of_lt_of_le (by assumption) (by assumption) | with_reducible exact Nat.le_trans (by assumption) (by assumption) | decide | omega))) fun t1 s1 J1 => ?_
    rw [List.length_map]
    exact range_src r.hh (by (first | with_reducible assumption | with_reducible exact Nat.add_le_add_left (by decide) _ | with_reducible exact Nat.le_trans (by assumption) (by decide) | with_reducible exact Nat.sub_succ_lt_self (by assumption) | with_reducible exact Nat.lt_of_lt_of_le (by assumption) (by assumption) | with_reducible exact Nat.le_trans (by assumption) (by assumption) | decide | omega)) J1
  case src2 =>
    intro cenv hC a ha v z1 s1 E1 Q1 hv hle J1 hq
    exact ev_01 J1 fun v' z' s' hle' J' hr => hq v' z' s' J' hr
  case turn =>
    intro cenv hC j hj v z1 hv hle k hk
    obtain ⟨tj, rfl⟩ := hv.isInt
    have hj' : j < sh.length := List.mem_range.mp hj
    have hln := hsh _ (at_mem hj')
    have hsn := hln.sn
    intro v2 z2 s2 E2 hv2 hle2 J2 _ _
    obtain ⟨tk, rfl⟩ := hv2.isInt
    have hh2 := hh.mono (hle.trans hle2)
    have hj0 : (0 : Int) ≤ (j : Nat) ∧ ((j : Nat) : Int) < 2 ^ 63 := ⟨by (first | with_reducible assumption | with_reducible exact Nat.add_le_add_left (by decide) _ | with_reducible exact Nat.le_trans (by assumption) (by decide) | with_reducible exact Nat.sub_succ_lt_self (by assumption) | with_reducible exact Nat.lt_of_lt_of_le (by assumption) (by assumption) | with_reducible exact Nat.le_trans (by assumption) (by assumption) | decide | omega), by (first | with_reducible assumption | with_reducible exact Nat.add_le_add_left (by decide) _ | with_reducible exact Nat.le_trans (by assumption) (by decide) | with_reducible exact Nat.sub_succ_lt_self (by assumption) | with_reducible exact Nat.lt_of_lt_of_le (by assumption) (by assumption) | with_reducible exact Nat.le_trans (by assumption) (by assumption) | decide | omega)⟩
    with_reducible refine wpAny_tests_one (test_cmp ?_ (Subscript_ (Subscript_ ?_)))
    · rfl
    refine J2.ld (v := vh) rfl (.inr (.inl (kind_of hC rfl))) (J2.ld (v := .int j tj) rfl (.inl (kind_of hC rfl)) ?_)
    refine tail_list (k := (j : Nat)) J2.inn hh2 hj0.1 hj0.2 (at_get hj') fun v3 hr3 => ?_
    obtain ⟨t3, rfl⟩ := hr3.isStr
    refine J2.int fun t4 s4 J4 => tail_str J4 (by decide) hln.some (fun t5 s5 J5 => ?_) rfl
    with_reducible refine Subscript_ (ev_list (arg_c ?_ (J5.str fun t6 s6 J6 => arg_c ?_ (J6.str fun t7 s7 J7 => arg_n ?_))))
    · rfl
    · rfl
    refine J7.newList (ds := [0, 1].map fun k => .str (sideS k)) (.cons (.str _ _) (.cons (.str _ _) (.nil _))) (le_line (by show 2 ≤ 10000; (first | with_reducible assumption | with_reducible exact Nat.add_le_add_left (by decide) _ | with_reducible exact Nat.le_trans (by assumption) (by decide) | with_reducible exact Nat.sub_succ_lt_self (by assumption) | with_reducible exact Nat.lt_of_lt_of_le (by assumption) (by assumption) | with_reducible exact Nat.le_trans (by assumption) (by assumption) | decide | omega))) fun v8 z8 s8 hle8 J8 hr8 => ?_
    refine J8.ld (v := .int k tk) rfl (.inl (kind_of hC rfl)) ?_
    refine tail_list (k := (k : Nat)) J8.inn hr8 (lt01 hk).1 (lt01 hk).2 (d := .str (sideS k)) (get01 (f := fun k => PyData.str (sideS k)) hk) fun v9 hr9 => ?_
    obtain ⟨t9, rfl⟩ := hr9.isStr
    refine SB.contains (wpAny_truthy_bool ⟨rfl, z8, J8.grow, trivial, fun _ => ?_⟩)
    have K8 := J8.here
    have hh8 := hh2.mono hle8
    have hl8 : (sh.map PyData.str).length ≤ sizeLine := by rw [List.length_map]; exact le_line (by (first | with_reducible assumption | with_reducible exact Nat.add_le_add_left (by decide) _ | with_reducible exact Nat.le_trans (by assumption) (by decide) | with_reducible exact Nat.sub_succ_lt_self (by assumption) | with_reducible exact Nat.lt_of_lt_of_le (by assumption) (by assumption) | with_reducible exact Nat.le_trans (by assumption) (by assumption) | decide | omega))
    with_reducible refine ev_list (arg_c ?_ (wpAny_BinOp (Cut_ ?_)))
    · rfl
    refine K8.ld (v := vh) rfl (.inr (.inl (kind_of hC rfl))) (evalPart_none_step (evalPart_some_step (K8.ld (v := .int j tj) rfl (.inl (kind_of hC rfl)) ?_)))
    refine cut_upto (b := j) K8 hh8 hl8 fun v10 z10 s10 hle10 J10 hr10 => ?_
    with_reducible refine Cut_ ?_
    refine J10.ld (v := vh) rfl (.inr (.inl (kind_of hC rfl))) (evalPart_some_step ?_)
    with_reducible refine wpAny_BinOp ?_
    refine J10.ld (v := .int j tj) rfl (.inl (kind_of hC rfl)) (J10.int fun t11 s11 J11 => J11.addInt fun t12 s12 J12 => evalPart_none_step ?_)
    refine cut_from (a := j + 1) J12 (hh8.mono hle10) hl8 fun v13 z13 s13 hle13 J13 hr13 => ?_
    refine add_list J13 (hr10.mono hle13) hr13 (by simp only [List.length_take, List.length_drop, List.length_map]; exact le_line (by (first | with_reducible assumption | with_reducible exact Nat.add_le_add_left (by decide) _ | with_reducible exact Nat.le_trans (by assumption) (by decide) | with_reducible exact Nat.sub_succ_lt_self (by assumption) | with_reducible exact Nat.lt_of_lt_of_le (by assumption) (by assumption) | with_reducible exact Nat.le_trans (by assumption) (by assumption) | decide | omega))) fun v14 z14 s14 hle14 J14 hr14 => ?_
    with_reducible refine arg_c ?_ ?_
    · rfl
    refine J14.ld (v := .int k tk) rfl (.inl (kind_of hC rfl)) ?_
    with_reducible refine arg_c ?_ (Cut_ (Subscript_ ?_))
    · rfl
    refine J14.ld (v := vh) rfl (.inr (.inl (kind_of hC rfl))) (J14.ld (v := .int j tj) rfl (.inl (kind_of hC rfl)) ?_)
    refine tail_list (k := (j : Nat)) J14.inn (hh8.mono (hle10.trans (hle13.trans hle14))) hj0.1 hj0.2 (at_get hj') fun v15 hr15 => ?_
    obtain ⟨t15, rfl⟩ := hr15.isStr
    refine evalPart_some_step (J14.int fun t16 s16 J16 => evalPart_none_step ?_)
    refine cut_str (l := some (2, t16)) (u := none) J16 (le_line (by have := hsn.1; (first | with_reducible assumption | with_reducible exact Nat.add_le_add_left (by decide) _ | with_reducible exact Nat.le_trans (by assumption) (by decide) | with_reducible exact Nat.sub_succ_lt_self (by assumption) | with_reducible exact Nat.lt_of_lt_of_le (by assumption) (by assumption) | with_reducible exact Nat.le_trans (by assumption) (by assumption) | decide | omega))) fun t17 s17 J17 => arg_n ?_
    refine J17.newList (ds := [row (sh.take j ++ sh.drop (j + 1)), .int (k : Nat), .str (cutL (atS sh j))]) (.cons ?_ (.cons (.int _ _) (.cons (.str _ _) (.nil _)))) (le_line (by show 3 ≤ 10000; (first | with_reducible assumption | with_reducible exact Nat.add_le_add_left (by decide) _ | with_reducible exact Nat.le_trans (by assumption) (by decide) | with_reducible exact Nat.sub_succ_lt_self (by assumption) | with_reducible exact Nat.lt_of_lt_of_le (by assumption) (by assumption) | with_reducible exact Nat.le_trans (by assumption) (by assumption) | decide | omega))) fun v18 z18 s18 hle18 J18 hr18 => ⟨z18, J18.grow, hr18, trivial⟩
    rw [← List.map_take, ← List.map_drop, ← List.map_append] at hr14
    exact hr14
  case fin =>
    intro v3 z3 s3 hle3 J3 hr3
    exact h v3 z3 s3 hle3 J3 hr3
end NB90
end
section
set_option autoImplicit false
open PySem PySem.W PyProof.Rows
set_option Elab.async false
set_option maxRecDepth 100000
namespace NB90
variable {h₀ : Heap} {mg mb : Str → Option Value} {W : Addr → Prop} {z₀ z z' z₁ : Fz} {s₀ s s' s₁ : Shared} {env : Env} {ρ : List (Str × Value)} {prog : Program} {w : World} {A : Around} {E : Value → Shared → Prop}
variable {n : Nat} {Q : Flow → Shared → Prop} {lines : List Str} {vs vl vo vn va vr vd vt vh vf : Value}

noncomputable def pairsL (sh : List Str) : List (Nat × Nat) := (List.range sh.length).flatMap fun j => ([0, 1].filter (leftP sh j)).map fun k => (j, k)
theorem pairs_eq (sh : List Str) : ((List.range sh.length).flatMap fun j => ([0, 1].filter (leftP sh j)).map (leftD sh j)) = (pairsL sh).map fun q => leftD sh q.1 q.2 := by
  unfold pairsL
  rw [List.map_flatMap]
  simp only [List.map_map]
  rfl
theorem pairs_mem {sh : List Str} {q : Nat × Nat} (h : q ∈ pairsL sh) : q.1 < sh.length ∧ q.2 ∈ [0, 1] ∧ leftP sh q.1 q.2 = true := by
  obtain ⟨j, hj, h⟩ := List.mem_flatMap.mp h
  obtain ⟨k, hk, rfl⟩ := List.mem_map.mp h
  obtain ⟨h1, h2⟩ := List.mem_filter.mp hk
  exact ⟨List.mem_range.mp hj, h1, h2⟩
theorem pairs_len (sh : List Str) : (pairsL sh).length ≤ 2 * sh.length := by
  have key : ∀ (xs : List Nat), (xs.flatMap fun j => ([0, 1].filter (leftP sh j)).map fun k => (j, k)).length ≤ 2 * xs.length := by
    intro xs
    induction xs with
    | nil => simp
    | cons a xs ih =>
      rw [List.flatMap_cons, List.length_append, List.length_map, List.length_cons]
      have := List.length_filter_le (leftP sh a) [0, 1]
      simp only [List.length_cons, List.length_nil] at this
      (first | with_reducible assumption | with_reducible exact Nat.add_le_add_left (by decide) _ | with_reducible exact Nat.le_trans (by assumption) (by decide) | with_reducible exact Nat.sub_succ_lt_self (by assumption) | with_reducible exact Nat.lt_of_lt_of_le (by assumption) (by assumption) | with_reducible exact Nat.le_trans (by assumption) (by assumption) | decide | omega)
  have := key (List.range sh.length)
  rwa [List.length_range] at this

theorem law_11 (X : Lw prog w h₀ mg mb) (r : Room A (n + 11)) (F : Fl env s₀) (J : Inn h₀ No z₀ s₀ env ((Str.ofString "left", vf) :: rhoC vs vo vl vn va vr vd vt vh) z s)
    (hf : Rd z vf (.list ((List.range (shortL lines).length).flatMap fun j => ([0, 1].filter (leftP (shortL lines) j)).map (leftD (shortL lines) j)))) (hln : ∀ l ∈ lines, Ln l) (hlen : lines.length ≤ 100)
    (h : ∀ z' s', Grow No z₀ s₀ z' s' → Q (.ret (.bool true)) s') :
    wpAny (model prog w) A (execs (pBodyLaw.1.drop 11) env) Q E s := by
  have hS := F.hS
  obtain ⟨C, N, fI, fN, mN, fdI, fdN, K, hgC⟩ := X.K
  obtain ⟨aR, cdR, hgR, fR⟩ := X.restore
  obtain ⟨aO, cdO, hgO, fO⟩ := X.told
  have hsl : (shortL lines).length ≤ 200 := Nat.le_trans short_len (by (first | with_reducible assumption | with_reducible exact Nat.add_le_add_left (by decide) _ | with_reducible exact Nat.le_trans (by assumption) (by decide) | with_reducible exact Nat.sub_succ_lt_self (by assumption) | with_reducible exact Nat.lt_of_lt_of_le (by assumption) (by assumption) | with_reducible exact Nat.le_trans (by assumption) (by assumption) | decide | omega))
  have hshl := short_ln hln
  rw [pairs_eq] at hf
  generalize hsh : shortL lines = sh at *
  simp only [pBodyLaw, List.drop_succ_cons, List.drop_zero]
  with_reducible refine wpAny_execs_cons (wpAny_Return_some (ev_cmp ?_ (ev_comp (xs := pairsL sh) (enc := fun q => leftD sh q.1 q.2) (p := fun _ => false) (f := fun q => leftD sh q.1 q.2) (K := fun _ => True) (own := false) r.hh hS ?cs ?fr ?len (fun _ _ _ _ => trivial) J ?src ?hs)))
  · rfl
  case cs => exact ⟨rfl, fun _ _ => rfl, fun _ => rfl, nofun, fun _ => rfl, by decide⟩
  case fr => rfl
  case len => exact le_line (Nat.le_trans (pairs_len sh) (by (first | with_reducible assumption | with_reducible exact Nat.add_le_add_left (by decide) _ | with_reducible exact Nat.le_trans (by assumption) (by decide) | with_reducible exact Nat.sub_succ_lt_self (by assumption) | with_reducible exact Nat.lt_of_lt_of_le (by assumption) (by assumption) | with_reducible exact Nat.le_trans (by assumption) (by assumption) | decide | omega)))
  case hs => intro _; rfl
  refine J.ld (v := vf) rfl (.inl (kind_of hS rfl)) ?_
  refine ⟨z, J, hf, trivial, no_lt, fun cenv hC q hq v1 z1 s1 E1 hv1 hle1 J1 _ _ => ?_, fun v1 z1 s1 hle1 J1 hr1 _ => ?_⟩
  · obtain ⟨j, k⟩ := q
    obtain ⟨hj, hk, hp⟩ := pairs_mem hq
    dsimp only at hj hk hp hv1
    have hone : ∀ {ρ' : List (Str × Value)} {z' : Fz} {s' : Shared} {E' : Value → Shared → Prop} {p : Pos} (_ : Inn h₀ No z1 s1 cenv ((Str.ofString "one", v1) :: ρ') z' s') (Q' : Value → Shared → Prop), Q' v1 s' → wpAny (model prog w) A (eval (.Name (Str.ofString "one") p) cenv) Q' E' s' :=
      fun J' Q' hq' => J'.ld lookup_cons_self (.inl (kind_of hC rfl)) hq'
    with_reducible refine wpAny_tests_one (test_cmp ?_ (ev_call J1 X.G fO hgO (kind_of hC ?_) ?_ ?_ (arg_c ?_ ?_)))
    · rfl
    · rfl
    · decide
    · rfl
    · rfl
    refine sub_const (i := 0) (d := row (sh.take j ++ sh.drop (j + 1))) J1 (by decide) (by decide) rfl hv1 (hone J1) fun v2 s2 J2 hr2 => ?_
    with_reducible refine arg_c ?_ (wpAny_BinOp ?_)
    · rfl
    refine sub_const (i := 1) (d := .int (k : Nat)) J2 (by decide) (by decide) rfl hv1 (hone J2) fun v3 s3 J3 hr3 => ?_
    obtain ⟨t3, rfl⟩ := hr3.isInt
    refine J3.int fun t4 s4 J4 => J4.addInt fun t5 s5 J5 => ?_
    with_reducible refine arg_c ?_ (ev_list (arg_c ?_ ?_))
    · rfl
    · rfl
    refine sub_const (i := 2) (d := .str (cutL (atS sh j))) J5 (by decide) (by decide) rfl hv1 (hone J5) fun v6 s6 J6 hr6 => arg_n ?_
    refine J6.newList (ds := [.str (cutL (atS sh j))]) (.cons hr6 (.nil _)) (le_line (by show 1 ≤ 10000; (first | with_reducible assumption | with_reducible exact Nat.add_le_add_left (by decide) _ | with_reducible exact Nat.le_trans (by assumption) (by decide) | with_reducible exact Nat.sub_succ_lt_self (by assumption) | with_reducible exact Nat.lt_of_lt_of_le (by assumption) (by assumption) | with_reducible exact Nat.le_trans (by assumption) (by assumption) | decide | omega))) fun v7 z7 s7 hle7 J7 hr7 => arg_n ⟨z7, J7, ?_⟩
    obtain ⟨l2, _, _, _, rfl, _⟩ := hr2.isList
    have hcut : Name (cutL (atS sh j)) := by
      obtain ⟨t, ht, m, e, hm⟩ := hshl _ (at_mem hj)
      rw [e, cut_tag ht]; exact hm
    have hlr : ∀ x ∈ sh.take j ++ sh.drop (j + 1), Sn x := fun x hx => (hshl x ((List.mem_append.mp hx).elim List.mem_of_mem_take List.mem_of_mem_drop)).sn
    refine told_spec (n := n) (k := ((k : Nat) : Int) + 1) (lines := sh.take j ++ sh.drop (j + 1)) (asked := [cutL (atS sh j)]) (r.le (by (first | with_reducible assumption | with_reducible exact Nat.add_le_add_left (by decide) _ | with_reducible exact Nat.le_trans (by assumption) (by decide) | with_reducible exact Nat.sub_succ_lt_self (by assumption) | with_reducible exact Nat.lt_of_lt_of_le (by assumption) (by assumption) | with_reducible exact Nat.le_trans (by assumption) (by assumption) | decide | omega))) X.G K fR hgC hgR fO J7.inn J7.base (by rcases mem01 hk with rfl | rfl; exact .inl rfl; exact .inr rfl) hlr
      (by simp only [List.length_append, List.length_take, List.length_drop]; (first | with_reducible assumption | with_reducible exact Nat.add_le_add_left (by decide) _ | with_reducible exact Nat.le_trans (by assumption) (by decide) | with_reducible exact Nat.sub_succ_lt_self (by assumption) | with_reducible exact Nat.lt_of_lt_of_le (by assumption) (by assumption) | with_reducible exact Nat.le_trans (by assumption) (by assumption) | decide | omega)) (hr2.mono hle7) hr7 (fun m hm => by rw [List.mem_singleton.mp hm]; exact ⟨hcut.nm.sn, hcut.ne⟩) (by show 1 ≤ 1000; (first | with_reducible assumption | with_reducible exact Nat.add_le_add_left (by decide) _ | with_reducible exact Nat.le_trans (by assumption) (by decide) | with_reducible exact Nat.sub_succ_lt_self (by assumption) | with_reducible exact Nat.lt_of_lt_of_le (by assumption) (by assumption) | with_reducible exact Nat.le_trans (by assumption) (by assumption) | decide | omega)) fun v8 z8 s8 g8 hr8 => ?_
    have J8 := J7.up g8
    have hzero : tellI (restL (tagOf (((k : Nat) : Int) + 1)) (sh.take j ++ sh.drop (j + 1))) (cutL (atS sh j)) = 0 := by
      subst hsh
      have hkp : keepL (tagOf (((k : Nat) : Int) + 1)) (shortL lines)[j] = true := by
        rw [← side_keep (hshl _ (List.getElem_mem hj)) hk, ← at_eq hj]
        exact hp
      have := left_tells (lines := lines) hk hj hkp
      rw [← at_eq hj] at this
      exact this
    have hr8' : Rd z8 v8 (.list [.int 0]) := by
      have e : ([cutL (atS sh j)].map fun m => PyData.int (tellI (restL (tagOf (((k : Nat) : Int) + 1)) (sh.take j ++ sh.drop (j + 1))) m)) = [.int 0] := by
        show [PyData.int _] = _; rw [hzero]
      rw [e] at hr8
      exact hr8
    with_reducible refine ev_list (arg_c ?_ (J8.int fun t9 s9 J9 => arg_n ?_))
    · rfl
    refine J9.newList (ds := [.int 0]) (.cons (.int _ _) (.nil _)) (le_line (by show 1 ≤ 10000; (first | with_reducible assumption | with_reducible exact Nat.add_le_add_left (by decide) _ | with_reducible exact Nat.le_trans (by assumption) (by decide) | with_reducible exact Nat.sub_succ_lt_self (by assumption) | with_reducible exact Nat.lt_of_lt_of_le (by assumption) (by assumption) | with_reducible exact Nat.le_trans (by assumption) (by assumption) | decide | omega))) fun v10 z10 s10 hle10 J10 hr10 => ?_
    have ok1 : Ok 1 (.list [.int 0]) := by unfold Ok; intro d hd; rw [List.mem_singleton.mp hd]; simp only [Ok]
    refine cmp_ne (c := true) r J10.inn (hr8'.mono hle10) hr10 ok1 ok1 (by (first | with_reducible assumption | with_reducible exact Nat.add_le_add_left (by decide) _ | with_reducible exact Nat.le_trans (by assumption) (by decide) | with_reducible exact Nat.sub_succ_lt_self (by assumption) | with_reducible exact Nat.lt_of_lt_of_le (by assumption) (by assumption) | with_reducible exact Nat.le_trans (by assumption) (by assumption) | decide | omega)) (by (first | with_reducible assumption | with_reducible exact Nat.add_le_add_left (by decide) _ | with_reducible exact Nat.le_trans (by assumption) (by decide) | with_reducible exact Nat.sub_succ_lt_self (by assumption) | with_reducible exact Nat.lt_of_lt_of_le (by assumption) (by assumption) | with_reducible exact Nat.le_trans (by assumption) (by assumption) | decide | omega)) ⟨fun _ => rfl, fun _ => rfl⟩ (wpAny_truthy_bool ⟨rfl, z10, J10.grow, trivial, nofun⟩)
  · have e : (pairsL sh).filter (fun _ => false) = [] := List.filter_eq_nil_iff.mpr fun _ _ q => by cases q
    rw [e] at hr1
    with_reducible refine ev_list (arg_n ?_)
    refine J1.newList (ds := []) (.nil _) (Nat.zero_le _) fun v2 z2 s2 hle2 J2 hr2 => ?_
    exact cmp_eq (n := 1) (k := 1) (c := true) r J2.inn (hr1.mono hle2) hr2 (nil_ok 0) (nil_ok 0) (by (first | with_reducible assumption | with_reducible exact Nat.add_le_add_left (by decide) _ | with_reducible exact Nat.le_trans (by assumption) (by decide) | with_reducible exact Nat.sub_succ_lt_self (by assumption) | with_reducible exact Nat.lt_of_lt_of_le (by assumption) (by assumption) | with_reducible exact Nat.le_trans (by assumption) (by assumption) | decide | omega)) (by (first | with_reducible assumption | with_reducible exact Nat.add_le_add_left (by decide) _ | with_reducible exact Nat.le_trans (by assumption) (by decide) | with_reducible exact Nat.sub_succ_lt_self (by assumption) | with_reducible exact Nat.lt_of_lt_of_le (by assumption) (by assumption) | with_reducible exact Nat.le_trans (by assumption) (by assumption) | decide | omega)) ⟨fun _ => rfl, fun _ => rfl⟩ (h z2 s2 J2.grow)
end NB90
end
section
set_option autoImplicit false
open PySem PySem.W PyProof.Rows
set_option Elab.async false
set_option maxRecDepth 100000
namespace NB90
variable {h₀ : Heap} {mg mb : Str → Option Value} {z : Fz} {s : Shared} {prog : Program} {w : World} {A : Around} {E : Value → Shared → Prop}

theorem law_spec {n : Nat} {a : Addr} {cd vs : Value} {script : List Int} {Q : Value → Shared → Prop} (r : Room A (n + 12)) (X : Lw prog w h₀ mg mb) (f : FnOk h₀ (Str.ofString "law") pArgsLaw.1 pBodyLaw.1 pScopeLaw.1 a cd) (hfr : A.frames = some [])
    (hz : z.In s.heap) (hb : Base h₀ z) (hs : Rd z vs (.list (script.map .int))) (hsl : script.length ≤ 1000) (h : ∀ z' s', Grow No z s z' s' → Q (.bool true) s') :
    wpAny (model prog w) A (call (.ref a) [vs]) Q E s := by
  refine call_def (n := n + 11) (binds := [(Str.ofString "script", vs)]) r X.G.lim f hz hb (fun pm doc => rfl) (fun L => rfl) ⟨rfl, rfl, rfl⟩ fun env s₁ hS hcn J r' => ?_
  have J : Inn h₀ No z s env [(Str.ofString "script", vs)] z s₁ := J
  have F : Fl env s := ⟨hS, hcn.1, hcn.2.1, hcn.2.2.1⟩
  have hfrm := hcn.2.2.2
  have hAf : (A.deeper env).frames = some [env] := by
    show A.frames.map (env :: ·) = _
    rw [hfr]; rfl
  have hln := lines_ln script
  have hll := lines_len script
  have hnm : ∀ l ∈ namesL (linesL script), Sn l := fun l hl => (names_name hln l hl).nm.sn
  with_reducible refine law_0 F J fun vo z1 s1 le1 J1 ho => ?_
  have k1 : [(Str.ofString "own", vo), (Str.ofString "script", vs)].lookup (Str.ofString "script") = some vs := rfl
  have k2 : [(Str.ofString "own", vo), (Str.ofString "script", vs)].lookup (Str.ofString "own") = some vo := rfl
  with_reducible refine law_1 X r' F J1 k1 k2 (hs.mono le1) hsl ho fun vl z2 s2 le2 J2 hl => ?_
  obtain ⟨l, _, _, _, rfl, _⟩ := hl.isList
  have k3 : [(Str.ofString "lines", Value.ref l), (Str.ofString "own", vo), (Str.ofString "script", vs)].lookup (Str.ofString "lines") = some (.ref l) := rfl
  with_reducible refine law_2 r' F J2 k3 hl (fun x hx => (hln x hx).sn) (by (first | with_reducible assumption | with_reducible exact Nat.add_le_add_left (by decide) _ | with_reducible exact Nat.le_trans (by assumption) (by decide) | with_reducible exact Nat.sub_succ_lt_self (by assumption) | with_reducible exact Nat.lt_of_lt_of_le (by assumption) (by assumption) | with_reducible exact Nat.le_trans (by assumption) (by assumption) | decide | omega)) fun vn z3 s3 le3 J3 hn => ?_
  have k4 : [(Str.ofString "names", vn), (Str.ofString "lines", Value.ref l), (Str.ofString "own", vo), (Str.ofString "script", vs)].lookup (Str.ofString "names") = some vn := rfl
  with_reducible refine law_3 X r' F J3 k4 hn hnm (by (first | with_reducible assumption | with_reducible exact Nat.add_le_add_left (by decide) _ | with_reducible exact Nat.le_trans (by assumption) (by decide) | with_reducible exact Nat.sub_succ_lt_self (by assumption) | with_reducible exact Nat.lt_of_lt_of_le (by assumption) (by assumption) | with_reducible exact Nat.le_trans (by assumption) (by assumption) | decide | omega)) fun va z4 s4 le4 J4 ha => ?_
  with_reducible refine law_4 r' F J4 (hl.mono (le3.trans le4)) hln (by (first | with_reducible assumption | with_reducible exact Nat.add_le_add_left (by decide) _ | with_reducible exact Nat.le_trans (by assumption) (by decide) | with_reducible exact Nat.sub_succ_lt_self (by assumption) | with_reducible exact Nat.lt_of_lt_of_le (by assumption) (by assumption) | with_reducible exact Nat.le_trans (by assumption) (by assumption) | decide | omega)) fun vr z5 s5 le5 J5 hr => ?_
  with_reducible refine law_5 X r' F J5 hr (ha.mono le5) hln (by (first | with_reducible assumption | with_reducible exact Nat.add_le_add_left (by decide) _ | with_reducible exact Nat.le_trans (by assumption) (by decide) | with_reducible exact Nat.sub_succ_lt_self (by assumption) | with_reducible exact Nat.lt_of_lt_of_le (by assumption) (by assumption) | with_reducible exact Nat.le_trans (by assumption) (by assumption) | decide | omega)) fun vd z6 s6 le6 J6 hd => ?_
  with_reducible refine law_6 X r' F J6 (hr.mono le6) hln (by (first | with_reducible assumption | with_reducible exact Nat.add_le_add_left (by decide) _ | with_reducible exact Nat.le_trans (by assumption) (by decide) | with_reducible exact Nat.sub_succ_lt_self (by assumption) | with_reducible exact Nat.lt_of_lt_of_le (by assumption) (by assumption) | with_reducible exact Nat.le_trans (by assumption) (by assumption) | decide | omega)) fun vt z7 s7 le7 J7 ht => ?_
  with_reducible refine law_7 X r' F J7 (hl.mono (le3.trans (le4.trans (le5.trans (le6.trans le7))))) hln (by (first | with_reducible assumption | with_reducible exact Nat.add_le_add_left (by decide) _ | with_reducible exact Nat.le_trans (by assumption) (by decide) | with_reducible exact Nat.sub_succ_lt_self (by assumption) | with_reducible exact Nat.lt_of_lt_of_le (by assumption) (by assumption) | with_reducible exact Nat.le_trans (by assumption) (by assumption) | decide | omega)) fun vh z8 s8 le8 J8 hh => ?_
  have hl8 := hl.mono (le3.trans (le4.trans (le5.trans (le6.trans (le7.trans le8)))))
  have ha8 := ha.mono (le5.trans (le6.trans (le7.trans le8)))
  have hd8 := hd.mono (le7.trans le8)
  with_reducible refine law_8 X r' F J8 hl8 ha8 hd8 (ht.mono le8) hh hln (by (first | with_reducible assumption | with_reducible exact Nat.add_le_add_left (by decide) _ | with_reducible exact Nat.le_trans (by assumption) (by decide) | with_reducible exact Nat.sub_succ_lt_self (by assumption) | with_reducible exact Nat.lt_of_lt_of_le (by assumption) (by assumption) | with_reducible exact Nat.le_trans (by assumption) (by assumption) | decide | omega)) fun z9 s9 le9 J9 => ?_
  with_reducible refine law_9 X r' F hAf hfrm J9 (hl8.mono le9) (ha8.mono le9) (hd8.mono le9) (hh.mono le9) hln (by (first | with_reducible assumption | with_reducible exact Nat.add_le_add_left (by decide) _ | with_reducible exact Nat.le_trans (by assumption) (by decide) | with_reducible exact Nat.sub_succ_lt_self (by assumption) | with_reducible exact Nat.lt_of_lt_of_le (by assumption) (by assumption) | with_reducible exact Nat.le_trans (by assumption) (by assumption) | decide | omega)) fun z10 s10 le10 J10 => ?_
  with_reducible refine law_10 X r' F J10 (hh.mono (le9.trans le10)) (short_ln hln) (Nat.le_trans short_len (by (first | with_reducible assumption | with_reducible exact Nat.add_le_add_left (by decide) _ | with_reducible exact Nat.le_trans (by assumption) (by decide) | with_reducible exact Nat.sub_succ_lt_self (by assumption) | with_reducible exact Nat.lt_of_lt_of_le (by assumption) (by assumption) | with_reducible exact Nat.le_trans (by assumption) (by assumption) | decide | omega))) fun vf z11 s11 le11 J11 hf => ?_
  with_reducible exact law_11 X r' F J11 hf hln (by (first | with_reducible assumption | with_reducible exact Nat.add_le_add_left (by decide) _ | with_reducible exact Nat.le_trans (by assumption) (by decide) | with_reducible exact Nat.sub_succ_lt_self (by assumption) | with_reducible exact Nat.lt_of_lt_of_le (by assumption) (by assumption) | with_reducible exact Nat.le_trans (by assumption) (by assumption) | decide | omega)) fun z' s' g => h z' s' g
end NB90
end
section
open PySem PySem.W PyProof.Rows
set_option Elab.async false
set_option maxRecDepth 100000
namespace NB90
open_top hd for PySem.Challenge.rw_nb0090_01
end NB90
end
section
set_option autoImplicit false
open PySem PySem.W PyProof.Rows
set_option Elab.async false
set_option maxRecDepth 100000
namespace NB90
variable {w : World} {mg mb : Str → Option Value} {h : Heap}

/-- the module's names as its run left them -/
noncomputable def glE (P : Params) : { x : Array DictEntry × Nat // (hd.heap_39 P).lookup 3 = some { cls := .type "dict", data := .dict x.1 x.2 } } := ⟨(_, _), rfl⟩
theorem mg_is (KX : (hd.heap_39 w.params).In h) (g : h.Ns mainGlobals mg) (x : Str) : mg x = nsFind (glE w.params).1.1 x := by
  obtain ⟨o, es, ep, ho, hd', _, hf⟩ := g
  have e := KX 3 _ (glE w.params).2
  have e' : h.get? 3 = some o := ho
  rw [e] at e'
  cases e'
  cases hd'
  exact (hf x).symm
theorem fn_restore (KX : (hd.heap_39 w.params).In h) (g : h.Ns mainGlobals mg) : Fn h mg (Str.ofString "restore") pArgsRestore.1 pBodyRestore.1 pScopeRestore.1 :=
  ⟨28, _, (mg_is KX g _).trans (by kernel_rfl), ⟨_, _, _, KX 28 _ rfl, rfl⟩, ⟨27, _, _, _, rfl, KX 27 _ rfl, rfl, rfl⟩⟩
theorem fn_line (KX : (hd.heap_39 w.params).In h) (g : h.Ns mainGlobals mg) : Fn h mg (Str.ofString "_law_line") pArgsLine.1 pBodyLine.1 pScopeLine.1 :=
  ⟨95, _, (mg_is KX g _).trans (by kernel_rfl), ⟨_, _, _, KX 95 _ rfl, rfl⟩, ⟨94, _, _, _, rfl, KX 94 _ rfl, rfl, rfl⟩⟩
theorem fn_up (KX : (hd.heap_39 w.params).In h) (g : h.Ns mainGlobals mg) : Fn h mg (Str.ofString "_law_up") pArgsUp.1 pBodyUp.1 pScopeUp.1 :=
  ⟨102, _, (mg_is KX g _).trans (by kernel_rfl), ⟨_, _, _, KX 102 _ rfl, rfl⟩, ⟨101, _, _, _, rfl, KX 101 _ rfl, rfl, rfl⟩⟩
theorem fn_told (KX : (hd.heap_39 w.params).In h) (g : h.Ns mainGlobals mg) : Fn h mg (Str.ofString "_law_told") pArgsTold.1 pBodyTold.1 pScopeTold.1 :=
  ⟨107, _, (mg_is KX g _).trans (by kernel_rfl), ⟨_, _, _, KX 107 _ rfl, rfl⟩, ⟨106, _, _, _, rfl, KX 106 _ rfl, rfl, rfl⟩⟩
theorem fn_tagged (KX : (hd.heap_39 w.params).In h) (g : h.Ns mainGlobals mg) : Fn h mg (Str.ofString "_law_tagged") pArgsTagged.1 pBodyTagged.1 pScopeTagged.1 :=
  ⟨114, _, (mg_is KX g _).trans (by kernel_rfl), ⟨_, _, _, KX 114 _ rfl, rfl⟩, ⟨113, _, _, _, rfl, KX 113 _ rfl, rfl, rfl⟩⟩
theorem fn_short (KX : (hd.heap_39 w.params).In h) (g : h.Ns mainGlobals mg) : Fn h mg (Str.ofString "_law_short") pArgsShort.1 pBodyShort.1 pScopeShort.1 :=
  ⟨119, _, (mg_is KX g _).trans (by kernel_rfl), ⟨_, _, _, KX 119 _ rfl, rfl⟩, ⟨118, _, _, _, rfl, KX 118 _ rfl, rfl, rfl⟩⟩
theorem fn_heads (KX : (hd.heap_39 w.params).In h) (g : h.Ns mainGlobals mg) : Fn h mg (Str.ofString "_law_heads") pArgsHeads.1 pBodyHeads.1 pScopeHeads.1 :=
  ⟨124, _, (mg_is KX g _).trans (by kernel_rfl), ⟨_, _, _, KX 124 _ rfl, rfl⟩, ⟨123, _, _, _, rfl, KX 123 _ rfl, rfl, rfl⟩⟩
theorem fn_refused (KX : (hd.heap_39 w.params).In h) (g : h.Ns mainGlobals mg) : Fn h mg (Str.ofString "_law_refused") pArgsRefused.1 pBodyRefused.1 pScopeRefused.1 :=
  ⟨131, _, (mg_is KX g _).trans (by kernel_rfl), ⟨_, _, _, KX 131 _ rfl, rfl⟩, ⟨130, _, _, _, rfl, KX 130 _ rfl, rfl, rfl⟩⟩
theorem fn_law (KX : (hd.heap_39 w.params).In h) (g : h.Ns mainGlobals mg) : Fn h mg (Str.ofString "law") pArgsLaw.1 pBodyLaw.1 pScopeLaw.1 :=
  ⟨136, _, (mg_is KX g _).trans (by kernel_rfl), ⟨_, _, _, KX 136 _ rfl, rfl⟩, ⟨135, _, _, _, rfl, KX 135 _ rfl, rfl, rfl⟩⟩

theorem gd_of (KX : (hd.heap_39 w.params).In h) (g : h.Ns mainGlobals mg) (b : h.Ns builtinsNs mb) (lim : h.NoLimit) (hb : ∀ x : Str, x ≠ "__name__" → mb x = bootBuiltins x) : Gd h mg mb where
  g := g
  b := b
  lim := lim
  len := ⟨(mg_is KX g _).trans (by kernel_rfl), (hb _ (by decide)).trans PyProof.Rows.Boot.«len»⟩
  range := ⟨(mg_is KX g _).trans (by kernel_rfl), (hb _ (by decide)).trans PyProof.Rows.Boot.«range»⟩
  int := ⟨(mg_is KX g _).trans (by kernel_rfl), (hb _ (by decide)).trans PyProof.Rows.Boot.«int»⟩
  set := ⟨(mg_is KX g _).trans (by kernel_rfl), (hb _ (by decide)).trans PyProof.Rows.Boot.«set»⟩
  next := ⟨(mg_is KX g _).trans (by kernel_rfl), (hb _ (by decide)).trans PyProof.Rows.Boot.«next»⟩
  ve := ⟨(mg_is KX g _).trans (by kernel_rfl), (hb _ (by decide)).trans PyProof.Rows.Boot.«ValueError»⟩
  ke := ⟨(mg_is KX g _).trans (by kernel_rfl), (hb _ (by decide)).trans PyProof.Rows.Boot.«KeyError»⟩

noncomputable def clE (P : Params) : { x : Array DictEntry × Nat // (hd.heap_39 P).lookup 85 = some { cls := .type "dict", data := .dict x.1 x.2 } } := ⟨(_, _), rfl⟩
theorem cl_keys (P : Params) : StrKeys (clE P).1.1 := by
  intro e he
  simp only [clE, List.mem_toArray, List.mem_cons, List.not_mem_nil, or_false] at he
  rcases he with rfl | rfl | rfl | rfl | rfl | rfl | rfl | rfl <;> exact ⟨_, _, rfl⟩
noncomputable def fdI (P : Params) : { x : FuncData // (hd.heap_39 P).lookup 76 = some { cls := .type "function", data := .func x } } := ⟨_, rfl⟩
noncomputable def fdN (P : Params) : { x : FuncData // (hd.heap_39 P).lookup 83 = some { cls := .type "function", data := .func x } } := ⟨_, rfl⟩

theorem cl_of (KX : (hd.heap_39 w.params).In h) : Cls PySem.Challenge.rw_nb0090_01.row.prog w h 86 85 76 83 (nsFind (clE w.params).1.1) (fdI w.params).1 (fdN w.params).1 where
  c := {
    mkC := makes_of KX (by kernel_rfl)
    mkI := looks_findIn KX (by kernel_rfl)
    mkB := fun self => bind_fn KX self (by kernel_rfl)
    cls := ⟨⟨_, _, _, _, _, _, _, _, _, _, _, _, KX 86 _ rfl⟩, ⟨_, _, _, KX 85 _ (clE w.params).2, rfl, cl_keys _, fun _ => rfl⟩⟩
    init := by kernel_rfl
    names := by kernel_rfl
    ga := by kernel_rfl
    gh := by kernel_rfl
    sa := by kernel_rfl
    mods := by kernel_rfl
    dirs := by kernel_rfl
    ign := by kernel_rfl }
  fi := ⟨⟨_, KX 76 _ (fdI w.params).2, rfl, rfl⟩, rfl, rfl, ⟨75, _, _, _, rfl, KX 75 _ rfl, rfl, rfl⟩, rfl, rfl, rfl⟩
  bi := fun self v => Looks.of_peek KX (by kernel_rfl)
  fn := ⟨⟨_, KX 83 _ (fdN w.params).2, rfl, rfl⟩, rfl, rfl, ⟨82, _, _, _, rfl, KX 82 _ rfl, rfl, rfl⟩, rfl, rfl, rfl⟩
  bn := fun self v u => Looks.of_peek KX (by kernel_rfl)

theorem lw_of (KX : (hd.heap_39 w.params).In h) (g : h.Ns mainGlobals mg) (b : h.Ns builtinsNs mb) (lim : h.NoLimit) (hb : ∀ x : Str, x ≠ "__name__" → mb x = bootBuiltins x) : Lw PySem.Challenge.rw_nb0090_01.row.prog w h mg mb where
  G := gd_of KX g b lim hb
  K := ⟨86, 85, 76, 83, _, _, _, cl_of KX, (mg_is KX g _).trans (by kernel_rfl)⟩
  restore := fn_restore KX g
  line := fn_line KX g
  up := fn_up KX g
  told := fn_told KX g
  tagged := fn_tagged KX g
  short := fn_short KX g
  heads := fn_heads KX g
  refused := fn_refused KX g
end NB90
end
section
set_option autoImplicit false
open PySem PySem.W PyProof.Rows
set_option Elab.async false
set_option maxRecDepth 100000
namespace NB90

theorem ints_rd {z : Fz} : ∀ {vs : List Value} {is : List Int}, IntsAre vs is → RdAll z vs (is.map .int)
  | _, _, .nil => RdAll.nil z
  | _, _, .cons n t h => .cons (.int n t) (ints_rd h)
theorem caller_room : Room callerA 12 := ⟨rfl, by decide +kernel, by decide +kernel⟩

theorem law_runs {w : World} {mg mb : Str → Option Value} {s₁ : Shared} {fa l : Addr} {vs : List Value} {script : List Int} {Q : Value → Shared → Prop} {E : Value → Shared → Prop} (KX : (hd.heap_39 w.params).In s₁.heap) (g : s₁.heap.Ns mainGlobals mg) (b : s₁.heap.Ns builtinsNs mb) (lim : s₁.heap.NoLimit)
    (hb : ∀ x : Str, x ≠ "__name__" → mb x = bootBuiltins x) (hmg : mg (Str.ofString "law") = some (.ref fa)) (hl : s₁.heap.IsList l vs.toArray) (hi : IntsAre vs script) (hn : script.length ≤ 1000)
    (h : ∀ s', (∀ b o, s₁.heap.get? b = some o → s'.heap.get? b = some o) → s'.os = s₁.os → (AllBare s₁.gens → AllBare s'.gens) → Q (.bool true) s') :
    wpAny (model PySem.Challenge.rw_nb0090_01.row.prog w) callerA (call (.ref fa) [.ref l]) Q E s₁ := by
  obtain ⟨a, cd, hg, f⟩ := fn_law KX g
  obtain rfl : fa = a := by rw [hmg] at hg; cases hg; rfl
  obtain ⟨o, ho, hc, k, hd⟩ := hl
  have hr := ints_rd (z := fun a o => s₁.heap.get? a = some o) hi
  refine law_spec (n := 0) (z := fun a o => s₁.heap.get? a = some o) (h₀ := s₁.heap) (script := script) caller_room (lw_of KX g b lim hb) f rfl (fun _ _ e => e) (fun _ _ e => e) (.list ho hc hd hr.1 hr.2) hn fun z' s' gr => ?_
  exact h s' gr.all gr.os gr.bare
end NB90
end
open PySem PySem.W PyProof.Rows
set_option maxRecDepth 100000 in
theorem PySem.Challenge.cw_nb0090_01_holds : PySem.Challenge.rw_nb0090_01.Holds := by
  refine NB90.hd ?_
  intro w s₀ s₁ mg mb G Y fa o pm cd doc dV kV ho hd hcd hD hmg hg args vals as hpre hlay hrd hwl hlo
  have KX := kIn_of Y
  refine Ground.open G ?_
  intro T B D TE TW
  clear D hd hcd ho hD
  wrow_args hpre hlay hrd hwl hlo
  rename_i script _ _ _ _ _ _ _ l vs _ hl _ _ _ hi _ hlen _
  refine NB90.law_runs KX T.g T.b T.nolimit T.builtins hmg hl hi ?_ fun s' hk hos hba => ?_
  · (first | with_reducible assumption | with_reducible exact Nat.add_le_add_left (by decide) _ | with_reducible exact Nat.le_trans (by assumption) (by decide) | with_reducible exact Nat.sub_succ_lt_self (by assumption) | with_reducible exact Nat.lt_of_lt_of_le (by assumption) (by assumption) | with_reducible exact Nat.le_trans (by assumption) (by assumption) | decide | omega)
  · exact ⟨.inl ⟨_, .bool true, [], rfl, fun _ => rfl, .bool true, by kernel_rfl, unshared_nil⟩, .of_keep hk, hos, hba (.of_eq hg)⟩
