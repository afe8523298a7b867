import PyProof.Rows.All
import Wide.All
import OpenK.AllK
import Wide.FinOn
import PySem.Challenge.RW_dn0260_02
open PySem PySem.W PyProof.Rows PySem.Calls
set_option Elab.async false
set_option maxRecDepth 100000
set_option linter.unusedVariables false
namespace Mine

/-! the heap never gets fewer places -/
theorem runs_size {M : Model} {Γ : Ctx} {p : Pos} {t : Sem Fin} {fs : List Frame} {s s' : Shared} {e : End} (h : Runs M Γ p t fs s e s') : s.heap.objs.size ≤ s'.heap.objs.size := by
  induction h <;> (try simp only [Shared.setGen, Heap.size_push, Heap.size_after_update] at *) <;> omega

theorem wakes_size {M : Model} {Γ : Ctx} {p : Pos} {g : Nat} {r : Resume} {s s' : Shared} {res : GenResult} (h : Wakes M Γ p g r s res s') : s.heap.objs.size ≤ s'.heap.objs.size := by
  unfold Wakes at h
  split at h
  · exact h.elim
  · split at h
    · obtain ⟨e₁, s₁, hr, _, _, rfl⟩ := h; exact (runs_size hr : (s.setGen g .running).heap.objs.size ≤ s₁.heap.objs.size)
    · rw [h.2]; exact Nat.le_refl _
    · rw [h.2]; exact Nat.le_refl _
  · obtain ⟨e₁, s₁, hr, _, _, rfl⟩ := h; exact (runs_size hr : (s.setGen g .running).heap.objs.size ≤ s₁.heap.objs.size)
  · rw [h.2]; exact Nat.le_refl _
  · rw [h.2]; exact Nat.le_refl _

theorem wp_size0 {α : Type} (M : Model) (Γ : Ctx) (n : Nat) (t : Sem α) : ∀ (Q : α → Pos → Shared → Prop) (E : Value → Pos → Shared → Prop) (p : Pos) (s : Shared), n ≤ s.heap.objs.size → Sem.wp M Γ t Q E p s →
    Sem.wp M Γ t (fun a p' s' => n ≤ s'.heap.objs.size ∧ Q a p' s') (fun e p' s' => n ≤ s'.heap.objs.size ∧ E e p' s') p s := by
  induction t with
  | pure a => intro Q E p s hn h; exact ⟨hn, h⟩
  | raise e => intro Q E p s hn h; exact ⟨hn, h⟩
  | unsupported _ | finish _ | register _ _ | yield _ _ _ _ | fork _ _ | await _ _ _ _ _ => intro Q E p s _ h; exact h
  | rule _ k ih | point _ k ih => intro Q E p s hn h; exact ih () Q E p s hn h
  | «at» p' k ih => intro Q E p s hn h; exact ih () Q E p' s hn h
  | load a _ k ih => intro Q E p s hn h; obtain ⟨o, ho, h⟩ := h; exact ⟨o, ho, ih o Q E p s hn h⟩
  | update a _ f k ih => intro Q E p s hn h; exact ⟨h.1, ih () Q E p _ (by show n ≤ (s.heap.update a f).objs.size; rw [Heap.size_after_update]; exact hn) h.2⟩
  | loadIfAlive a k ih | ask k ih | handled _ k ih | stack k ih | thread k ih => intro Q E p s hn h; exact ih _ Q E p s hn h
  | alloc o k ih => intro Q E p s hn h; exact ih _ Q E p _ (by show n ≤ (s.heap.push o).objs.size; rw [Heap.size_push]; exact Nat.le_succ_of_le hn) h
  | fresh k ih | os _ _ k ih | newGen c k ih => intro Q E p s hn h; exact ih _ Q E p _ hn h
  | choose src m k ih => intro Q E p s hn h; exact ⟨h.1, ih _ Q E p _ hn h.2⟩
  | call c hd _ _ k ih => intro Q E p s hn h; obtain ⟨r, s', hr, h⟩ := h; exact ⟨r, s', hr, ih r Q E p s' (Nat.le_trans hn (runs_size hr)) h⟩
  | genState g k ih => intro Q E p s hn h; obtain ⟨st, hs, h⟩ := h; exact ⟨st, hs, ih _ Q E p s hn h⟩
  | resume g r _ k ih => intro Q E p s hn h; obtain ⟨res, s', hw, h⟩ := h; exact ⟨res, s', hw, ih res Q E p s' (Nat.le_trans hn (wakes_size hw)) h⟩

theorem wp_grow {α : Type} {M : Model} {A : Around} {s : Shared} {t : Sem α} {Q : α → Shared → Prop} {E : Value → Shared → Prop}
    (h : wpAny M A t (fun a s' => s.heap.objs.size ≤ s'.heap.objs.size → s.toks ≤ s'.toks → Q a s') (fun e s' => s.heap.objs.size ≤ s'.heap.objs.size → s.toks ≤ s'.toks → E e s') s) : wpAny M A t Q E s := by
  have h2 : wpAny M A t (fun a s' => s.heap.objs.size ≤ s'.heap.objs.size ∧ (s.heap.objs.size ≤ s'.heap.objs.size → s.toks ≤ s'.toks → Q a s')) (fun e s' => s.heap.objs.size ≤ s'.heap.objs.size ∧ (s.heap.objs.size ≤ s'.heap.objs.size → s.toks ≤ s'.toks → E e s')) s :=
    fun Γ p hΓ => wp_size0 M Γ s.heap.objs.size t (fun a _ s' => s.heap.objs.size ≤ s'.heap.objs.size → s.toks ≤ s'.toks → Q a s') (fun e _ s' => s.heap.objs.size ≤ s'.heap.objs.size → s.toks ≤ s'.toks → E e s') p s (Nat.le_refl _) (h Γ p hΓ)
  exact wpAny_mono (wpAny_toks h2) (fun _ _ x => x.2.2 x.2.1 x.1) fun _ _ x => x.2.2 x.2.1 x.1
end Mine

open PySem PySem.W PyProof.Rows PySem.Calls
set_option Elab.async false
set_option maxRecDepth 100000
set_option linter.unusedVariables false
namespace Mine

/-! ## Abstract values, objects, states -/
inductive PV where
  | none
  | bool (b : Bool)
  | int (i : Int)
  | str (x : Str)
  | bytes (b : Array UInt8)
  | tup (l : List PV)
  | ref (i : Nat)
  | obj (v : Value)



inductive AO where
  | list (l : List PV)
  | dict (l : List (Str × PV))
  | inst (C : Addr) (d : Nat)
  | exc (cls : String) (args : List PV)
  | thing (cls : String)
  | range (a b : Int)

structure St where
  n : Nat
  hp : Nat → Option AO
  loc : Str → Option PV

/-- what is fixed through one law -/
structure Cx where
  prog : Program
  w : World
  base : Heap
  K : Frag
  hK : K.In base
  mg : Str → Option Value
  mb : Str → Option Value
  g : base.Ns mainGlobals mg
  b : base.Ns builtinsNs mb
  nolimit : base.NoLimit
  nodigits : ∃ mc, base.Ns cStatics mc ∧ mc "sys.int_max_str_digits" = none
  builtins : ∀ x : Str, x ≠ "__name__" → mb x = bootBuiltins x
  os : OsState
  gens : Array GenState

abbrev Cx.M (C : Cx) : Model := model C.prog C.w

mutual
inductive Rep (f : Nat → Addr) (n : Nat) (h : Heap) : Value → PV → Prop
  | none : Rep f n h .none .none
  | bool (b : Bool) : Rep f n h (.bool b) (.bool b)
  | int (i : Int) (t : Tok) : Rep f n h (.int i t) (.int i)
  | str (x : Str) (t : Tok) : Rep f n h (.str x t) (.str x)
  | bytes (b : Array UInt8) (t : Tok) : Rep f n h (.bytes b t) (.bytes b)
  | tup {a : Addr} {vs : List Value} {l : List PV} : h.IsTuple a vs.toArray → RepL f n h vs l → Rep f n h (.ref a) (.tup l)
  | ref {i : Nat} : i < n → Rep f n h (.ref (f i)) (.ref i)
  | obj (v : Value) : Rep f n h v (.obj v)
inductive RepL (f : Nat → Addr) (n : Nat) (h : Heap) : List Value → List PV → Prop
  | nil : RepL f n h [] []
  | cons {v : Value} {vs : List Value} {p : PV} {ps : List PV} : Rep f n h v p → RepL f n h vs ps → RepL f n h (v :: vs) (p :: ps)
end

def RepO (f : Nat → Addr) (n : Nat) (h : Heap) : Option Value → Option PV → Prop
  | .none, .none => True
  | .some v, .some p => Rep f n h v p
  | _, _ => False

/-- entries of a dict whose keys are texts -/
inductive RepD (P : Params) (f : Nat → Addr) (n : Nat) (h : Heap) : List DictEntry → List (Str × PV) → Prop
  | nil : RepD P f n h [] []
  | cons {k : Str} {t : Tok} {v : Value} {es : List DictEntry} {p : PV} {ps : List (Str × PV)} :
      Rep f n h v p → RepD P f n h es ps → RepD P f n h (⟨PyData.keyHash P k, .str k t, v⟩ :: es) ((k, p) :: ps)

def ORep (P : Params) (f : Nat → Addr) (n : Nat) (h : Heap) (a : Addr) : AO → Prop
  | .list l => ∃ (vs : List Value) (k : Nat), h.get? a = some { cls := .type "list", data := .seq vs.toArray k } ∧ RepL f n h vs l
  | .dict l => ∃ o es ep, h.get? a = some o ∧ o.cls = .type "dict" ∧ o.dict = none ∧ o.data = .dict (es : List DictEntry).toArray ep ∧ RepD P f n h es l
  | .inst K d => ∃ o, h.get? a = some o ∧ o.cls = .ref K ∧ o.dict = some (f d) ∧ d < n ∧ o.data = .plain
  | .exc cls args => ∃ o fv t vs, h.get? a = some o ∧ o.cls = .type cls ∧ o.data = .fields fv ∧ fv[0]? = some (.ref t) ∧ h.IsTuple t (vs : List Value).toArray ∧ RepL f n h vs args
  | .thing cls => ∃ o, h.get? a = some o ∧ o.cls = .type cls
  | .range x y => ∃ t u v, IsRange h a x y 1 t u v

def isD : Data → Bool
  | .dict _ _ => true
  | _ => false

/-- an object stands as it stood; of a frame's or a dict's table the slots may have been filled -/
def Kept (o o' : Obj) : Prop := o' = o ∨ (isD o.data = true ∧ ∃ sl, o' = { o with slots := sl })
theorem Kept.refl (o : Obj) : Kept o o := .inl rfl
theorem Kept.data {o o' : Obj} (h : Kept o o') : o'.data = o.data := by rcases h with rfl | ⟨_, sl, rfl⟩ <;> rfl
theorem Kept.cls {o o' : Obj} (h : Kept o o') : o'.cls = o.cls := by rcases h with rfl | ⟨_, sl, rfl⟩ <;> rfl
theorem Kept.dict {o o' : Obj} (h : Kept o o') : o'.dict = o.dict := by rcases h with rfl | ⟨_, sl, rfl⟩ <;> rfl
theorem Kept.eq {o o' : Obj} (h : Kept o o') (hd : isD o.data = false) : o' = o := by
  rcases h with rfl | ⟨h1, _⟩
  · rfl
  · rw [hd] at h1; cases h1
theorem Kept.trans {o o' o'' : Obj} (h : Kept o o') (k : Kept o' o'') : Kept o o'' := by
  rcases h with rfl | ⟨h1, sl, rfl⟩
  · exact k
  · rcases k with rfl | ⟨_, sl', rfl⟩
    · exact .inr ⟨h1, sl, rfl⟩
    · exact .inr ⟨h1, sl', rfl⟩

def isF : Data → Bool
  | .fields _ => true
  | _ => false

theorem isF_false {d : Data} : isF d = false ↔ ∀ vs, d ≠ .fields vs := by
  cases d <;> simp [isF]

mutual
theorem Rep.mono {f f' : Nat → Addr} {n n' : Nat} {h h' : Heap} (hf : ∀ i, i < n → f' i = f i) (hn : n ≤ n') (ht : ∀ a vs, h.IsTuple a vs → h'.IsTuple a vs) :
    ∀ {v : Value} {p : PV}, Rep f n h v p → Rep f' n' h' v p
  | _, _, .none => .none
  | _, _, .bool b => .bool b
  | _, _, .int i t => .int i t
  | _, _, .str x t => .str x t
  | _, _, .bytes b t => .bytes b t
  | _, _, .tup a r => .tup (ht _ _ a) (RepL.mono hf hn ht r)
  | _, _, .ref (i := i) hi => by rw [← hf i hi]; exact .ref (Nat.lt_of_lt_of_le hi hn)
  | _, _, .obj v => .obj v
theorem RepL.mono {f f' : Nat → Addr} {n n' : Nat} {h h' : Heap} (hf : ∀ i, i < n → f' i = f i) (hn : n ≤ n') (ht : ∀ a vs, h.IsTuple a vs → h'.IsTuple a vs) :
    ∀ {vs : List Value} {ps : List PV}, RepL f n h vs ps → RepL f' n' h' vs ps
  | _, _, .nil => .nil
  | _, _, .cons a r => .cons (Rep.mono hf hn ht a) (RepL.mono hf hn ht r)
end

theorem RepO.mono {f f' : Nat → Addr} {n n' : Nat} {h h' : Heap} (hf : ∀ i, i < n → f' i = f i) (hn : n ≤ n') (ht : ∀ a vs, h.IsTuple a vs → h'.IsTuple a vs)
    {v : Option Value} {p : Option PV} (x : RepO f n h v p) : RepO f' n' h' v p := by
  cases v <;> cases p <;> simp only [RepO] at x ⊢
  exact Rep.mono hf hn ht x

theorem RepD.mono {P : Params} {f f' : Nat → Addr} {n n' : Nat} {h h' : Heap} (hf : ∀ i, i < n → f' i = f i) (hn : n ≤ n') (ht : ∀ a vs, h.IsTuple a vs → h'.IsTuple a vs)
    {es : List DictEntry} {ps : List (Str × PV)} (x : RepD P f n h es ps) : RepD P f' n' h' es ps := by
  induction x with
  | nil => exact .nil
  | cons a _ ih => exact .cons (Rep.mono hf hn ht a) ih

theorem RepL.length {f : Nat → Addr} {n : Nat} {h : Heap} {vs : List Value} {ps : List PV} (x : RepL f n h vs ps) : vs.length = ps.length := by
  induction vs generalizing ps with
  | nil => cases x; rfl
  | cons v vs ih => cases x with | cons _ r => simp [ih r]

theorem RepL.append {f : Nat → Addr} {n : Nat} {h : Heap} {vs ws : List Value} {ps qs : List PV} (x : RepL f n h vs ps) (y : RepL f n h ws qs) : RepL f n h (vs ++ ws) (ps ++ qs) := by
  induction vs generalizing ps with
  | nil => cases x; exact y
  | cons v vs ih => cases x with | cons a r => exact .cons a (ih r)

theorem RepL.get {f : Nat → Addr} {n : Nat} {h : Heap} {vs : List Value} {ps : List PV} (x : RepL f n h vs ps) {k : Nat} {p : PV} (hk : ps[k]? = some p) : ∃ v, vs[k]? = some v ∧ Rep f n h v p := by
  induction vs generalizing ps k with
  | nil => cases x; simp at hk
  | cons v vs ih =>
    cases x with
    | cons a r =>
      cases k with
      | zero => simp at hk; subst hk; exact ⟨v, rfl, a⟩
      | succ k => exact ih r (by simpa using hk)

theorem RepL.take {f : Nat → Addr} {n : Nat} {h : Heap} {vs : List Value} {ps : List PV} (x : RepL f n h vs ps) (k : Nat) : RepL f n h (vs.take k) (ps.take k) := by
  induction vs generalizing ps k with
  | nil => cases x; simp; exact .nil
  | cons v vs ih =>
    cases x with
    | cons a r =>
      cases k with
      | zero => exact .nil
      | succ k => exact .cons a (ih r k)

theorem RepL.drop {f : Nat → Addr} {n : Nat} {h : Heap} {vs : List Value} {ps : List PV} (x : RepL f n h vs ps) (k : Nat) : RepL f n h (vs.drop k) (ps.drop k) := by
  induction vs generalizing ps k with
  | nil => cases x; simp; exact .nil
  | cons v vs ih =>
    cases x with
    | cons a r =>
      cases k with
      | zero => exact .cons a r
      | succ k => exact ih r k

theorem ORep.mono {P : Params} {f f' : Nat → Addr} {n n' : Nat} {h h' : Heap} (hf : ∀ i, i < n → f' i = f i) (hn : n ≤ n') (ht : ∀ a vs, h.IsTuple a vs → h'.IsTuple a vs)
    {a : Addr} (ha : ∀ o, h.get? a = some o → ∃ o', h'.get? a = some o' ∧ Kept o o') : ∀ {o : AO}, ORep P f n h a o → ORep P f' n' h' a o
  | .list _, ⟨vs, k, ho, r⟩ => let ⟨_, e, q⟩ := ha _ ho; ⟨vs, k, by rw [e, q.eq rfl], RepL.mono hf hn ht r⟩
  | .dict _, ⟨o, es, ep, ho, hc, hnd, hd, r⟩ => let ⟨_, e, q⟩ := ha o ho; ⟨_, es, ep, e, q.cls.trans hc, q.dict.trans hnd, q.data.trans hd, RepD.mono hf hn ht r⟩
  | .inst _ d, ⟨o, ho, hc, hd, hlt, hp⟩ => let ⟨_, e, q⟩ := ha o ho; ⟨_, e, q.cls.trans hc, by rw [q.dict, hf d hlt]; exact hd, Nat.lt_of_lt_of_le hlt hn, q.data.trans hp⟩
  | .exc _ _, ⟨o, fv, t, vs, ho, hc, hd, h0, hv, r⟩ => let ⟨_, e, q⟩ := ha o ho; ⟨_, fv, t, vs, e, q.cls.trans hc, q.data.trans hd, h0, ht _ _ hv, RepL.mono hf hn ht r⟩
  | .thing _, ⟨o, ho, hc⟩ => let ⟨_, e, q⟩ := ha o ho; ⟨_, e, q.cls.trans hc⟩
  | .range _ _, ⟨t, u, v, ho⟩ => let ⟨_, e, q⟩ := ha _ ho; ⟨t, u, v, by show h'.get? a = _; rw [e, q.eq rfl]⟩

/-! ## The relation between abstract and concrete states -/
structure Rel (C : Cx) (fs : List Env) (env : Env) (f : Nat → Addr) (σ : St) (s : Shared) : Prop where
  base : C.base.StaysIn s.heap
  inj : ∀ i j, i < σ.n → j < σ.n → f i = f j → i = j
  kind : ∀ i, i < σ.n → ∃ o, s.heap.get? (f i) = some o ∧ o.cls ≠ .type "tuple"
  fresh : ∀ i, 0 < i → i < σ.n → C.base.get? (f i) = none
  objs : ∀ i o, σ.hp i = some o → i < σ.n ∧ ORep C.w.params f σ.n s.heap (f i) o
  ns : ∃ m, s.heap.Ns env.locals m ∧ ∀ x, env.kindOf x = some .local → RepO f σ.n s.heap (m x) (σ.loc x)
  cs : ∀ x, env.kindOf x = some .cell ∨ env.kindOf x = some .free → ∃ c v, env.cells.lookup x = some c ∧ s.heap.IsCell c v ∧ RepO f σ.n s.heap v (σ.loc x)
  call : ∀ x c, env.cells.lookup x = some c → ∃ v, s.heap.IsCell c v
  cinj : ∀ x y c, env.cells.lookup x = some c → env.cells.lookup y = some c → x = y
  newL : C.base.get? env.locals = none
  newC : ∀ x c, env.cells.lookup x = some c → C.base.get? c = none
  sepL : ∀ i, i < σ.n → f i ≠ env.locals
  sepC : ∀ i, i < σ.n → ∀ x c, env.cells.lookup x = some c → f i ≠ c
  frs : s.heap.FunFrames C.base fs
  os : s.os = C.os
  gens : s.gens = C.gens
  tok : 0 < s.toks

/-- an address that a step in env may not touch -/
structure Out (env : Env) (f : Nat → Addr) (n : Nat) (b : Addr) : Prop where
  o : ∀ i, 0 < i → i < n → b ≠ f i
  l : b ≠ env.locals
  c : ∀ x c, env.cells.lookup x = some c → b ≠ c

structure Ext (env : Env) (f : Nat → Addr) (σ : St) (s : Shared) (f' : Nat → Addr) (σ' : St) (s' : Shared) : Prop where
  le : σ.n ≤ σ'.n
  agree : ∀ i, i < σ.n → f' i = f i
  new : ∀ i, σ.n ≤ i → i < σ'.n → s.heap.objs.size ≤ f' i
  keep : ∀ b o, s.heap.get? b = some o → Out env f σ.n b → ∃ o', s'.heap.get? b = some o' ∧ Kept o o'
  grow : ∀ b o, s.heap.get? b = some o → ∃ o', s'.heap.get? b = some o' ∧ isF o'.data = isF o.data ∧ (b ≠ env.locals → (∀ x c, env.cells.lookup x = some c → b ≠ c) → o'.cls = o.cls)
  size : s.heap.objs.size ≤ s'.heap.objs.size

theorem Ext.refl {env : Env} {f : Nat → Addr} {σ : St} {s : Shared} : Ext env f σ s f σ s where
  le := Nat.le_refl _
  agree _ _ := rfl
  new i h1 h2 := absurd h2 (Nat.not_lt.mpr h1)
  keep _ o e _ := ⟨o, e, .refl o⟩
  grow _ o e := ⟨o, e, rfl, fun _ _ => rfl⟩
  size := Nat.le_refl _

theorem Ext.out {env : Env} {f f' : Nat → Addr} {σ σ' : St} {s s' : Shared} (E : Ext env f σ s f' σ' s') {b : Addr} {o : Obj} (hb : s.heap.get? b = some o) (x : Out env f σ.n b) : Out env f' σ'.n b where
  o i h0 hi := by
    rcases Nat.lt_or_ge i σ.n with h | h
    · rw [E.agree i h]; exact x.o i h0 h
    · exact Nat.ne_of_lt (Nat.lt_of_lt_of_le (Heap.lt_size hb) (E.new i h hi))
  l := x.l
  c := x.c

theorem Ext.trans {env : Env} {f₁ f₂ f₃ : Nat → Addr} {σ₁ σ₂ σ₃ : St} {s₁ s₂ s₃ : Shared} (a : Ext env f₁ σ₁ s₁ f₂ σ₂ s₂) (b : Ext env f₂ σ₂ s₂ f₃ σ₃ s₃) : Ext env f₁ σ₁ s₁ f₃ σ₃ s₃ where
  le := Nat.le_trans a.le b.le
  agree i h := (b.agree i (Nat.lt_of_lt_of_le h a.le)).trans (a.agree i h)
  new i h1 h2 := by
    rcases Nat.lt_or_ge i σ₂.n with h | h
    · rw [b.agree i h]; exact a.new i h1 h
    · exact Nat.le_trans a.size (b.new i h h2)
  keep x o e hx := by
    obtain ⟨o1, e1, k1⟩ := a.keep x o e hx
    obtain ⟨o2, e2, k2⟩ := b.keep x _ e1 (a.out e hx)
    exact ⟨o2, e2, k1.trans k2⟩
  grow x o e := by
    obtain ⟨o1, e1, d1, c1⟩ := a.grow x o e
    obtain ⟨o2, e2, d2, c2⟩ := b.grow x o1 e1
    exact ⟨o2, e2, d2.trans d1, fun u v => (c2 u v).trans (c1 u v)⟩
  size := Nat.le_trans a.size b.size

/-- a tuple's address is touched by nobody -/
theorem Rel.tupOut {C : Cx} {fs : List Env} {env : Env} {f : Nat → Addr} {σ : St} {s : Shared} (R : Rel C fs env f σ s) {a : Addr} {vs : Array Value} (h : s.heap.IsTuple a vs) : Out env f σ.n a := by
  obtain ⟨o, ho, hc, k, hd⟩ := h
  refine ⟨fun i _ hi q => ?_, fun q => ?_, fun x c hc' q => ?_⟩
  · obtain ⟨o', h1, h2⟩ := R.kind i hi
    rw [← q, ho] at h1; cases h1; exact h2 hc
  · obtain ⟨m, ⟨o', es, ep, h1, h2, _⟩, _⟩ := R.ns
    rw [← q, ho] at h1; cases h1; rw [hd] at h2; cases h2
  · obtain ⟨v, o', h1, h2⟩ := R.call x c hc'
    rw [← q, ho] at h1; cases h1; rw [hd] at h2; cases h2

theorem Rel.tups {C : Cx} {fs : List Env} {env : Env} {f f' : Nat → Addr} {σ σ' : St} {s s' : Shared} (R : Rel C fs env f σ s) (E : Ext env f σ s f' σ' s') : ∀ a vs, s.heap.IsTuple a vs → s'.heap.IsTuple a vs := by
  intro a vs h
  have := R.tupOut h
  obtain ⟨o, ho, hc, k, hd⟩ := h
  obtain ⟨o', e, q⟩ := E.keep a o ho this
  exact ⟨_, e, q.cls.trans hc, k, q.data.trans hd⟩

theorem Rep.ext {C : Cx} {fs : List Env} {env : Env} {f f' : Nat → Addr} {σ σ' : St} {s s' : Shared} {v : Value} {p : PV} (x : Rep f σ.n s.heap v p) (R : Rel C fs env f σ s) (E : Ext env f σ s f' σ' s') : Rep f' σ'.n s'.heap v p :=
  x.mono E.agree E.le (R.tups E)
theorem RepL.ext {C : Cx} {fs : List Env} {env : Env} {f f' : Nat → Addr} {σ σ' : St} {s s' : Shared} {v : List Value} {p : List PV} (x : RepL f σ.n s.heap v p) (R : Rel C fs env f σ s) (E : Ext env f σ s f' σ' s') : RepL f' σ'.n s'.heap v p :=
  x.mono E.agree E.le (R.tups E)

/-! ## The judgement -/
structure Lv where
  d : Nat
  hn : Bool
  fs : List Env

structure OkA (lv : Lv) (A : Around) : Prop where
  depth : A.depth ≤ 400 + 4 * lv.d
  units : A.units ≤ 100 + 20 * lv.d
  frames : A.frames = some lv.fs
  guards : A.guards = some []
  handled : lv.hn = true → A.handled = none
  small : lv.d ≤ 30

/-- an exception on its way -/
structure Flight (C : Cx) (env : Env) (f : Nat → Addr) (n : Nat) (s₀ : Heap) (h : Heap) (e : Value) (cls : String) (args : List PV) : Prop where
  there : ∃ a t vs oe fv, e = .ref a ∧ s₀.get? a = none ∧ C.base.get? a = none ∧ (∀ i, i < n → f i ≠ a) ∧ h.IsTuple t (vs : List Value).toArray ∧ RepL f n h vs args ∧
    h.get? a = some oe ∧ oe.cls = .type cls ∧ oe.data = .fields fv ∧ fv[0]? = some (.ref t) ∧
    (fv[1]? = some .none ∨ ∃ T oT ts, fv[1]? = some (.ref T) ∧ s₀.get? T = none ∧ C.base.get? T = none ∧ (∀ i, i < n → f i ≠ T) ∧ T ≠ a ∧ h.get? T = some oT ∧ oT.data = .fields ts ∧ (ts[3]? = some .none ∨ ∃ L, env.frame = some L ∧ ts[3]? = some (rawInt L)))

abbrev RepT (α β : Type) := (Nat → Addr) → Nat → Heap → α → β → Prop

def Post (C : Cx) (fs : List Env) (env : Env) {α β : Type} (rep : RepT α β) (Q : β → St → Prop) (f : Nat → Addr) (σ : St) (s : Shared) (a : α) (s' : Shared) : Prop :=
  ∃ b σ' f', Q b σ' ∧ rep f' σ'.n s'.heap a b ∧ Rel C fs env f' σ' s' ∧ Ext env f σ s f' σ' s'

def PostX (C : Cx) (fs : List Env) (env : Env) (X : String → List PV → St → Prop) (f : Nat → Addr) (σ : St) (s : Shared) (e : Value) (s' : Shared) : Prop :=
  ∃ cls args σ' f', X cls args σ' ∧ Flight C env f' σ'.n s.heap s'.heap e cls args ∧ Rel C fs env f' σ' s' ∧ Ext env f σ s f' σ' s'

def AW (C : Cx) (lv : Lv) (env : Env) {α β : Type} (rep : RepT α β) (t : Sem α) (σ : St) (Q : β → St → Prop) (X : String → List PV → St → Prop) : Prop :=
  ∀ A f s, OkA lv A → Rel C lv.fs env f σ s → wpAny C.M A t (Post C lv.fs env rep Q f σ s) (PostX C lv.fs env X f σ s) s

def repU : RepT Unit Unit := fun _ _ _ _ _ => True
def repB : RepT Bool Bool := fun _ _ _ a b => a = b
inductive PFlow where
  | next | brk | cont
  | ret (v : PV)
inductive RepF (f : Nat → Addr) (n : Nat) (h : Heap) : Flow → PFlow → Prop
  | next : RepF f n h .next .next
  | brk : RepF f n h .brk .brk
  | cont : RepF f n h .cont .cont
  | ret {v : Value} {p : PV} : Rep f n h v p → RepF f n h (.ret v) (.ret p)

abbrev AE (C : Cx) (lv : Lv) (env : Env) (e : Expr) (σ : St) (Q : PV → St → Prop) (X : String → List PV → St → Prop) : Prop := AW C lv env Rep (eval e env) σ Q X
abbrev AT (C : Cx) (lv : Lv) (env : Env) (e : Expr) (σ : St) (Q : Bool → St → Prop) (X : String → List PV → St → Prop) : Prop := AW C lv env repB (isTrue e env (eval e env)) σ Q X
abbrev AS (C : Cx) (lv : Lv) (env : Env) (st : Stmt) (σ : St) (Q : PFlow → St → Prop) (X : String → List PV → St → Prop) : Prop := AW C lv env RepF (exec st env) σ Q X
abbrev ASs (C : Cx) (lv : Lv) (env : Env) (st : List Stmt) (σ : St) (Q : PFlow → St → Prop) (X : String → List PV → St → Prop) : Prop := AW C lv env RepF (execs st env) σ Q X

section
variable {C : Cx} {lv : Lv} {env : Env} {α β γ δ : Type} {rep : RepT α β} {rep' : RepT γ δ} {σ : St} {X : String → List PV → St → Prop}

theorem Flight.weaken {C : Cx} {env : Env} {f : Nat → Addr} {n : Nat} {s₀ s₁ h : Heap} {e : Value} {cls : String} {args : List PV} (x : Flight C env f n s₁ h e cls args)
    (hk : ∀ b, s₁.get? b = none → s₀.get? b = none) : Flight C env f n s₀ h e cls args := by
  obtain ⟨a, t, vs, oe, fv, h1, h2, h3, h4, h5, h6, h7, h8, h9, h10, h11⟩ := x.there
  refine ⟨a, t, vs, oe, fv, h1, hk a h2, h3, h4, h5, h6, h7, h8, h9, h10, ?_⟩
  rcases h11 with h11 | ⟨T, oT, ts, k1, k2, k3⟩
  · exact .inl h11
  · exact .inr ⟨T, oT, ts, k1, hk T k2, k3⟩

theorem Ext.noneOf {f f' : Nat → Addr} {σ σ' : St} {s s' : Shared} (E : Ext env f σ s f' σ' s') (b : Addr) (hb : s'.heap.get? b = none) : s.heap.get? b = none := by
  cases hq : s.heap.get? b with
  | none => rfl
  | some o => obtain ⟨o', e, _⟩ := E.grow b o hq; rw [hb] at e; cases e

theorem PostX.trans {f f₁ : Nat → Addr} {σ σ₁ : St} {s s₁ s' : Shared} {fs : List Env} {e : Value} (E : Ext env f σ s f₁ σ₁ s₁) (x : PostX C fs env X f₁ σ₁ s₁ e s') : PostX C fs env X f σ s e s' := by
  obtain ⟨cls, args, σ', f', hx, hf, R, E'⟩ := x
  exact ⟨cls, args, σ', f', hx, hf.weaken E.noneOf, R, E.trans E'⟩

theorem Post.trans {f f₁ : Nat → Addr} {σ σ₁ : St} {s s₁ s' : Shared} {fs : List Env} {Q : β → St → Prop} {a : α} (E : Ext env f σ s f₁ σ₁ s₁) (x : Post C fs env rep Q f₁ σ₁ s₁ a s') : Post C fs env rep Q f σ s a s' := by
  obtain ⟨b, σ', f', hq, hr, R, E'⟩ := x
  exact ⟨b, σ', f', hq, hr, R, E.trans E'⟩

/-- run t, then go on with what it gives -/
theorem AW.use {t : Sem α} {Q : β → St → Prop} (h : AW C lv env rep t σ Q X) {A : Around} {f : Nat → Addr} {s : Shared} (hA : OkA lv A) (R : Rel C lv.fs env f σ s)
    {Q' : α → Shared → Prop} {E' : Value → Shared → Prop}
    (hq : ∀ a b σ' f' s', Q b σ' → rep f' σ'.n s'.heap a b → Rel C lv.fs env f' σ' s' → Ext env f σ s f' σ' s' → Q' a s')
    (he : ∀ e s', PostX C lv.fs env X f σ s e s' → E' e s') : wpAny C.M A t Q' E' s :=
  wpAny_mono (h A f s hA R) (fun a s' ⟨b, σ', f', h1, h2, h3, h4⟩ => hq a b σ' f' s' h1 h2 h3 h4) he

theorem AW.mono {t : Sem α} {Q Q' : β → St → Prop} {X' : String → List PV → St → Prop} (h : AW C lv env rep t σ Q X) (hq : ∀ b σ', Q b σ' → Q' b σ') (hx : ∀ c a σ', X c a σ' → X' c a σ') : AW C lv env rep t σ Q' X' :=
  fun _ _ _ hA R => h.use hA R (fun _ b σ' f' _ h1 h2 h3 h4 => ⟨b, σ', f', hq b σ' h1, h2, h3, h4⟩) fun _ _ ⟨c, a, σ', f', h1, h2⟩ => ⟨c, a, σ', f', hx c a σ' h1, h2⟩

theorem AW.ret {t : Sem α} {Q : β → St → Prop} {a : α} {b : β} (ht : t = Pure.pure a) (hr : ∀ f n h, rep f n h a b) (h : Q b σ) : AW C lv env rep t σ Q X := by
  subst ht
  intro A f s hA R
  exact wpAny_pure ⟨b, σ, f, h, hr _ _ _, R, .refl⟩

/-- the general sequencing: the second tree may use the first value -/
theorem AW.bind {t : Sem α} {k : α → Sem γ} {Q : δ → St → Prop} {Q₁ : β → St → Prop} (h : AW C lv env rep t σ Q₁ X)
    (hk : ∀ b σ₁, Q₁ b σ₁ → ∀ A f s a, OkA lv A → Rel C lv.fs env f σ₁ s → rep f σ₁.n s.heap a b → wpAny C.M A (k a) (Post C lv.fs env rep' Q f σ₁ s) (PostX C lv.fs env X f σ₁ s) s) :
    AW C lv env rep' (t >>= k) σ Q X := fun A f s hA R =>
  wpAny_bind (h.use hA R (fun a b σ₁ f₁ s₁ q hr R₁ E₁ => wpAny_mono (hk b σ₁ q A f₁ s₁ a hA R₁ hr) (fun _ _ x => Post.trans E₁ x) fun _ _ x => PostX.trans E₁ x) fun _ _ x => x)
end

end Mine

open PySem PySem.W PyProof.Rows PySem.Calls
set_option Elab.async false
set_option maxRecDepth 100000
set_option linter.unusedVariables false
namespace Mine

/-! ## Steps of the heap -/
theorem funFrames_of' {h h' base : Heap} (k : ∀ b o, h.get? b = some o → isF o.data = false → ∃ o', h'.get? b = some o' ∧ isF o'.data = isF o.data) : ∀ {l : List Env}, h.FunFrames base l → h'.FunFrames base l
  | [], _ => trivial
  | env :: rest, ⟨hk, ⟨L, o, hf, hn, ho, hd⟩, hr⟩ => by
    obtain ⟨o', h1, h2⟩ := k L o ho (isF_false.mpr hd)
    exact ⟨hk, ⟨L, o', hf, hn, h1, isF_false.mp (h2.trans (isF_false.mpr hd))⟩, funFrames_of' k hr⟩
theorem funFrames_of {h h' base : Heap} (k : ∀ b o, h.get? b = some o → ∃ o', h'.get? b = some o' ∧ isF o'.data = isF o.data) {l : List Env} (x : h.FunFrames base l) : h'.FunFrames base l := funFrames_of' (fun b o e _ => k b o e) x

def St.alloc (σ : St) (o : AO) : St := { σ with n := σ.n + 1, hp := fun i => if i = σ.n then some o else σ.hp i }
def St.upd (σ : St) (i : Nat) (o : AO) : St := { σ with hp := fun j => if j = i then some o else σ.hp j }
def St.set (σ : St) (x : Str) (v : PV) : St := { σ with loc := fun y => if y = x then some v else σ.loc y }
def St.more (σ : St) (k : Nat) : St := { σ with n := σ.n + k }

section
variable {C : Cx} {fs : List Env} {env : Env} {f : Nat → Addr} {σ : St} {s s' : Shared}

/-- nothing that stood was touched -/
theorem Rel.keeps (R : Rel C fs env f σ s) (hk : ∀ b o, s.heap.get? b = some o → s'.heap.get? b = some o) (ho : s'.os = s.os) (hg : s'.gens = s.gens) (ht : s.toks ≤ s'.toks) : Rel C fs env f σ s' where
  base b o e := hk _ _ (R.base b o e)
  inj := R.inj
  kind i hi := let ⟨o, e, c⟩ := R.kind i hi; ⟨o, hk _ _ e, c⟩
  fresh := R.fresh
  objs i o e := ⟨(R.objs i o e).1, ORep.mono (fun _ _ => rfl) (Nat.le_refl _) (fun a vs ⟨o, ho, r⟩ => ⟨o, hk _ _ ho, r⟩) (fun o e => ⟨o, hk _ _ e, .refl o⟩) (R.objs i o e).2⟩
  ns := let ⟨m, hn, hm⟩ := R.ns; ⟨m, hn.keeps hk, fun x hx => RepO.mono (fun _ _ => rfl) (Nat.le_refl _) (fun a vs ⟨o, ho, r⟩ => ⟨o, hk _ _ ho, r⟩) (hm x hx)⟩
  cs x hx := let ⟨c, v, h1, h2, h3⟩ := R.cs x hx; ⟨c, v, h1, h2.keeps hk, RepO.mono (fun _ _ => rfl) (Nat.le_refl _) (fun a vs ⟨o, ho, r⟩ => ⟨o, hk _ _ ho, r⟩) h3⟩
  call x c hc := let ⟨v, h⟩ := R.call x c hc; ⟨v, h.keeps hk⟩
  cinj := R.cinj
  newL := R.newL
  newC := R.newC
  sepL := R.sepL
  sepC := R.sepC
  frs := funFrames_of (fun b o e => ⟨o, hk _ _ e, rfl⟩) R.frs
  os := ho.trans R.os
  gens := hg.trans R.gens
  tok := Nat.lt_of_lt_of_le R.tok ht

theorem Ext.keeps (hk : ∀ b o, s.heap.get? b = some o → s'.heap.get? b = some o) (hs : s.heap.objs.size ≤ s'.heap.objs.size) : Ext env f σ s f σ s' where
  le := Nat.le_refl _
  agree _ _ := rfl
  new i h1 h2 := absurd h2 (Nat.not_lt.mpr h1)
  keep b o e _ := ⟨o, hk _ _ e, .refl o⟩
  grow b o e := ⟨o, hk _ _ e, rfl, fun _ _ => rfl⟩
  size := hs

theorem Rel.n_more (R : Rel C fs env f σ s) : True := trivial

/-- a new object of the program's own -/
theorem Rel.alloc (R : Rel C fs env f σ s) {a : Addr} {o : Obj} {ao : AO} (hk : ∀ b o, s.heap.get? b = some o → s'.heap.get? b = some o) (hs : s.heap.objs.size ≤ s'.heap.objs.size)
    (ha : s.heap.objs.size ≤ a) (he : s'.heap.get? a = some o) (hc : o.cls ≠ .type "tuple") (ho : s'.os = s.os) (hg : s'.gens = s.gens) (htk : s.toks ≤ s'.toks)
    (hr : ORep C.w.params (fun i => if i = σ.n then a else f i) (σ.n + 1) s'.heap a ao) :
    Rel C fs env (fun i => if i = σ.n then a else f i) (σ.alloc ao) s' ∧ Ext env f σ s (fun i => if i = σ.n then a else f i) (σ.alloc ao) s' := by
  have R' := R.keeps hk ho hg htk
  have hf : ∀ i, i < σ.n → (if i = σ.n then a else f i) = f i := fun i hi => if_neg (Nat.ne_of_lt hi)
  have hne : ∀ b o, s.heap.get? b = some o → a ≠ b := fun b o e => Nat.ne_of_gt (Nat.lt_of_lt_of_le (Heap.lt_size e) ha)
  have hai : ∀ i, i < σ.n → a ≠ f i := fun i hi => let ⟨_, e, _⟩ := R.kind i hi; hne _ _ e
  have hbase : C.base.get? a = none := by
    cases hq : C.base.get? a with
    | none => rfl
    | some o' => exact absurd rfl (hne _ _ (R.base _ _ hq))
  have split : ∀ i, i < σ.n + 1 → i = σ.n ∨ i < σ.n := fun i hi => by omega
  refine ⟨⟨R'.base, ?_, ?_, ?_, ?_, ?_, ?_, R'.call, R'.cinj, R'.newL, R'.newC, ?_, ?_, R'.frs, R'.os, R'.gens, R'.tok⟩, ⟨Nat.le_succ _, hf, ?_, fun b o e _ => ⟨o, hk _ _ e, .refl o⟩, fun b o e => ⟨o, hk _ _ e, rfl, fun _ _ => rfl⟩, hs⟩⟩
  · intro i j hi hj e
    rcases split i hi with rfl | hi' <;> rcases split j hj with rfl | hj'
    · rfl
    · rw [if_pos rfl, hf j hj'] at e; exact absurd e (hai j hj')
    · rw [if_pos rfl, hf i hi'] at e; exact absurd e.symm (hai i hi')
    · rw [hf i hi', hf j hj'] at e; exact R.inj i j hi' hj' e
  · intro i hi
    rcases split i hi with rfl | hi'
    · exact ⟨o, by rw [if_pos rfl]; exact he, hc⟩
    · rw [hf i hi']; exact R'.kind i hi'
  · intro i h0 hi
    rcases split i hi with rfl | hi'
    · rw [if_pos rfl]; exact hbase
    · rw [hf i hi']; exact R.fresh i h0 hi'
  · intro i o' e
    simp only [St.alloc] at e ⊢
    by_cases q : i = σ.n
    · rw [if_pos q] at e; cases e; rw [if_pos q]; exact ⟨by omega, hr⟩
    · rw [if_neg q] at e
      obtain ⟨h1, h2⟩ := R'.objs i o' e
      rw [if_neg q]
      exact ⟨by omega, ORep.mono hf (Nat.le_succ _) (fun _ _ x => x) (fun o e => ⟨o, e, .refl o⟩) h2⟩
  · obtain ⟨m, hn, hm⟩ := R'.ns
    exact ⟨m, hn, fun x hx => RepO.mono hf (Nat.le_succ _) (fun _ _ x => x) (hm x hx)⟩
  · intro x hx
    obtain ⟨c, v, h1, h2, h3⟩ := R'.cs x hx
    exact ⟨c, v, h1, h2, RepO.mono hf (Nat.le_succ _) (fun _ _ x => x) h3⟩
  · intro i hi
    rcases split i hi with rfl | hi'
    · rw [if_pos rfl]
      obtain ⟨m, ⟨o', _, _, e, _⟩, _⟩ := R.ns
      exact hne _ _ e
    · rw [hf i hi']; exact R.sepL i hi'
  · intro i hi x c hc'
    rcases split i hi with rfl | hi'
    · rw [if_pos rfl]
      obtain ⟨v, o', e, _⟩ := R.call x c hc'
      exact hne _ _ e
    · rw [hf i hi']; exact R.sepC i hi' x c hc'
  · intro i h1 h2
    simp only [St.alloc] at h2
    obtain rfl : i = σ.n := by omega
    rw [if_pos rfl]; exact ha

/-- an object of the program's own is changed -/
theorem Rel.upd (R : Rel C fs env f σ s) {i : Nat} {o o' : Obj} {ao ao' : AO} (hi : σ.hp i = some ao) (h0 : 0 < i) (he : s.heap.get? (f i) = some o) (he' : s'.heap.get? (f i) = some o') (hcl : o'.cls = o.cls) (hF : isF o'.data = isF o.data)
    (hb : Heap.SameBut (f i) s.heap s'.heap) (ho : s'.os = s.os) (hg : s'.gens = s.gens) (htk : s.toks ≤ s'.toks)
    (hr : ORep C.w.params f σ.n s'.heap (f i) ao') :
    Rel C fs env f (σ.upd i ao') s' ∧ Ext env f σ s f (σ.upd i ao') s' := by
  have hlt := (R.objs i ao hi).1
  have hk : ∀ b o, b ≠ f i → s.heap.get? b = some o → s'.heap.get? b = some o := fun b o hne e => (hb.2 b hne).trans e
  have hct : o.cls ≠ .type "tuple" := by obtain ⟨o₁, e₁, c₁⟩ := R.kind i hlt; rw [he] at e₁; cases e₁; exact c₁
  have ht : ∀ a vs, s.heap.IsTuple a vs → s'.heap.IsTuple a vs := fun a vs ⟨o₁, e₁, c₁, r⟩ => ⟨o₁, hk _ _ (fun q => by rw [q, he] at e₁; cases e₁; exact hct c₁) e₁, c₁, r⟩
  have hgrow : ∀ b o, s.heap.get? b = some o → ∃ o', s'.heap.get? b = some o' ∧ isF o'.data = isF o.data ∧ o'.cls = o.cls := fun b o₁ e => by
    by_cases q : b = f i
    · subst q; rw [he] at e; cases e; exact ⟨o', he', hF, hcl⟩
    · exact ⟨o₁, hk _ _ q e, rfl, rfl⟩
  refine ⟨⟨?_, R.inj, ?_, R.fresh, ?_, ?_, ?_, ?_, R.cinj, R.newL, R.newC, R.sepL, R.sepC, funFrames_of (fun b o e => let ⟨o', h1, h2, _⟩ := hgrow b o e; ⟨o', h1, h2⟩) R.frs, ho.trans R.os, hg.trans R.gens, Nat.lt_of_lt_of_le R.tok htk⟩, ⟨Nat.le_refl _, fun _ _ => rfl, fun i h1 h2 => absurd h2 (Nat.not_lt.mpr h1), ?_, fun b o e => let ⟨o', h1, h2, h3⟩ := hgrow b o e; ⟨o', h1, h2, fun _ _ => h3⟩, Nat.le_of_eq hb.1.symm⟩⟩
  · intro b o₁ e
    exact hk _ _ (fun q => by rw [q, R.fresh i h0 hlt] at e; cases e) (R.base b o₁ e)
  · intro j hj
    obtain ⟨o₁, e₁, c₁⟩ := R.kind j hj
    obtain ⟨o₂, e₂, _, c₂⟩ := hgrow _ _ e₁
    exact ⟨o₂, e₂, by rw [c₂]; exact c₁⟩
  · intro j oj e
    simp only [St.upd] at e ⊢
    by_cases q : j = i
    · rw [if_pos q] at e; cases e; rw [q]; exact ⟨hlt, hr⟩
    · rw [if_neg q] at e
      obtain ⟨h1, h2⟩ := R.objs j oj e
      exact ⟨h1, ORep.mono (fun _ _ => rfl) (Nat.le_refl _) ht (fun o e => ⟨o, hk _ _ (fun q' => q (R.inj _ _ h1 hlt q')) e, .refl o⟩) h2⟩
  · obtain ⟨m, hn, hm⟩ := R.ns
    exact ⟨m, hn.sameBut hb (fun q => R.sepL i hlt q.symm), fun x hx => RepO.mono (fun _ _ => rfl) (Nat.le_refl _) ht (hm x hx)⟩
  · intro x hx
    obtain ⟨c, v, h1, h2, h3⟩ := R.cs x hx
    exact ⟨c, v, h1, h2.sameBut hb (fun q => R.sepC i hlt x c h1 q.symm), RepO.mono (fun _ _ => rfl) (Nat.le_refl _) ht h3⟩
  · intro x c hc
    obtain ⟨v, h⟩ := R.call x c hc
    exact ⟨v, h.sameBut hb (fun q => R.sepC i hlt x c hc q.symm)⟩
  · intro b o₁ e hout
    exact ⟨o₁, hk _ _ (hout.o i h0 hlt) e, .refl _⟩
end
end Mine

open PySem PySem.W PyProof.Rows PySem.Calls
set_option Elab.async false
set_option maxRecDepth 100000
set_option linter.unusedVariables false
namespace Mine

structure EnvOk (env : Env) : Prop where
  kind : env.scope.kind = .function
  glob : env.globals = mainGlobals
  bi : env.builtins = builtinsNs

section
variable {C : Cx} {fs : List Env} {lv : Lv} {env : Env} {f : Nat → Addr} {σ σ' : St} {s s' : Shared} {α β : Type} {rep : RepT α β} {X : String → List PV → St → Prop}

theorem wp_toks {M : Model} {A : Around} {t : Sem α} {Q : α → Shared → Prop} {E : Value → Shared → Prop} (h : wpAny M A t (fun a s' => s.toks ≤ s'.toks → Q a s') (fun e s' => s.toks ≤ s'.toks → E e s') s) : wpAny M A t Q E s :=
  wpAny_mono (wpAny_toks h) (fun _ _ x => x.2 x.1) fun _ _ x => x.2 x.1
theorem Rel.toks (R : Rel C fs env f σ s) {k : Nat} (hk : s.toks ≤ k) : Rel C fs env f σ { s with toks := k } := R.keeps (fun _ _ e => e) rfl rfl hk
theorem Ext.toks (k : Nat) : Ext env f σ s f σ { s with toks := k } := Ext.keeps (fun _ _ e => e) (Nat.le_refl _)

theorem Post.here {Q : β → St → Prop} {a : α} {b : β} (R : Rel C fs env f σ s) (hq : Q b σ) (hr : rep f σ.n s.heap a b) {k : Nat} (hk : s.toks ≤ k) : Post C fs env rep Q f σ s a { s with toks := k } :=
  ⟨b, σ, f, hq, hr, R.toks hk, .toks k⟩
theorem Post.now {Q : β → St → Prop} {a : α} {b : β} (R : Rel C fs env f σ s) (hq : Q b σ) (hr : rep f σ.n s.heap a b) : Post C fs env rep Q f σ s a s :=
  ⟨b, σ, f, hq, hr, R, .refl⟩

/-- the heap has grown by things that no abstract object names -/
theorem Post.grown {Q : β → St → Prop} {a : α} {b : β} (R : Rel C fs env f σ s) (hk : ∀ b o, s.heap.get? b = some o → s'.heap.get? b = some o) (hs : s.heap.objs.size ≤ s'.heap.objs.size) (ho : s'.os = s.os) (hg : s'.gens = s.gens) (htk : s.toks ≤ s'.toks)
    (hq : Q b σ) (hr : rep f σ.n s'.heap a b) : Post C fs env rep Q f σ s a s' :=
  ⟨b, σ, f, hq, hr, R.keeps hk ho hg htk, .keeps hk hs⟩

/-- forget objects -/
theorem Rel.drop (R : Rel C fs env f σ s) (hp : Nat → Option AO) (h : ∀ i o, hp i = some o → σ.hp i = some o) : Rel C fs env f { σ with hp := hp } s :=
  ⟨R.base, R.inj, R.kind, R.fresh, fun i o e => R.objs i o (h i o e), R.ns, R.cs, R.call, R.cinj, R.newL, R.newC, R.sepL, R.sepC, R.frs, R.os, R.gens, R.tok⟩
theorem Ext.drop {f' : Nat → Addr} (E : Ext env f σ s f' σ' s') (hp : Nat → Option AO) : Ext env f σ s f' { σ' with hp := hp } s' :=
  ⟨E.le, E.agree, E.new, E.keep, E.grow, E.size⟩


/-- one place of the frame itself (its table of names, or a cell) has been changed -/
theorem Rel.frameStep {a : Addr} {o o' : Obj} {loc : Str → Option PV} (R : Rel C fs env f σ s) (he : s.heap.get? a = some o) (hnt : ∀ vs n, o.data ≠ .seq vs n) (hF : isF o.data = false) (ha : a = env.locals ∨ ∃ x, env.cells.lookup x = some a) (hsb : Heap.SameBut a s.heap s'.heap)
    (he' : s'.heap.get? a = some o') (hF' : isF o'.data = false) (ho : s'.os = s.os) (hg : s'.gens = s.gens) (htk : s.toks ≤ s'.toks)
    (hns : ∃ m, s'.heap.Ns env.locals m ∧ ∀ x, env.kindOf x = some .local → RepO f σ.n s'.heap (m x) (loc x))
    (hcs : ∀ x, env.kindOf x = some .cell ∨ env.kindOf x = some .free → ∃ c v, env.cells.lookup x = some c ∧ s'.heap.IsCell c v ∧ RepO f σ.n s'.heap v (loc x))
    (hcall : ∀ x c, env.cells.lookup x = some c → ∃ v, s'.heap.IsCell c v) :
    Rel C fs env f { σ with loc := loc } s' ∧ Ext env f σ s f { σ with loc := loc } s' := by
  have hk : ∀ b o, b ≠ a → s.heap.get? b = some o → s'.heap.get? b = some o := fun b o hne e => (hsb.2 b hne).trans e
  have hnew : C.base.get? a = none := by rcases ha with rfl | ⟨x, hx⟩; exact R.newL; exact R.newC x a hx
  have hfa : ∀ i, i < σ.n → f i ≠ a := fun i hi => by rcases ha with rfl | ⟨x, hx⟩; exact R.sepL i hi; exact R.sepC i hi x a hx
  have ht : ∀ b vs, s.heap.IsTuple b vs → s'.heap.IsTuple b vs := fun b vs ⟨o₁, e₁, c₁, n, d₁⟩ => ⟨o₁, hk _ _ (fun q => by rw [q, he] at e₁; cases e₁; exact hnt _ _ d₁) e₁, c₁, n, d₁⟩
  have hgrow : ∀ b o, s.heap.get? b = some o → ∃ o', s'.heap.get? b = some o' ∧ isF o'.data = isF o.data := fun b o₁ e => by
    by_cases q : b = a
    · subst q; rw [he] at e; cases e; exact ⟨o', he', by rw [hF', hF]⟩
    · exact ⟨o₁, hk _ _ q e, rfl⟩
  refine ⟨⟨fun b o e => hk _ _ (fun q => by rw [q, hnew] at e; cases e) (R.base b o e), R.inj, fun i hi => ?_, R.fresh, fun i oi e => ?_, hns, hcs, hcall, R.cinj, R.newL, R.newC, R.sepL, R.sepC, funFrames_of hgrow R.frs, ho.trans R.os, hg.trans R.gens, Nat.lt_of_lt_of_le R.tok htk⟩,
    ⟨Nat.le_refl _, fun _ _ => rfl, fun i h1 h2 => absurd h2 (Nat.not_lt.mpr h1), fun b o₁ e hout => ⟨o₁, hk _ _ ?_ e, .refl _⟩, fun b o₁ e => ?_, Nat.le_of_eq hsb.1.symm⟩⟩
  · obtain ⟨o₁, e₁, c₁⟩ := R.kind i hi
    exact ⟨o₁, hk _ _ (hfa i hi) e₁, c₁⟩
  · obtain ⟨h1, h2⟩ := R.objs i oi e
    exact ⟨h1, ORep.mono (fun _ _ => rfl) (Nat.le_refl _) ht (fun o e => ⟨o, hk _ _ (hfa i h1) e, .refl o⟩) h2⟩
  · rcases ha with rfl | ⟨x, hx⟩
    · exact hout.l
    · exact hout.c x a hx
  · obtain ⟨o₂, h1, h2⟩ := hgrow b o₁ e
    refine ⟨o₂, h1, h2, fun u v => ?_⟩
    have hba : b ≠ a := by
      rcases ha with rfl | ⟨x, hx⟩
      · exact u
      · exact v x a hx
    rw [hk _ _ hba e] at h1; cases h1; rfl

/-- a name of the frame is bound -/
theorem Rel.store {p : PV} {v : Value} {x : Str} {A : Around} {E : Value → Shared → Prop} {Q : Unit → Shared → Prop} (R : Rel C fs env f σ s) (hk : env.scope.kind = .function) (hv : Rep f σ.n s.heap v p)
    (hx : env.kindOf x = some .local ∨ env.kindOf x = some .cell)
    (h : ∀ s', Rel C fs env f (σ.set x p) s' → Ext env f σ s f (σ.set x p) s' → Q () s') : wpAny C.M A (storeName env x v) Q E s := by
  obtain ⟨m, hn, hm⟩ := R.ns
  rcases hx with hx | hx
  · refine wpAny_storeName_local hx hn (fun h' hns hsb => ?_) (by rw [hk]; rfl)
    obtain ⟨oL, esL, epL, heL, hdL, hrL⟩ := hn
    have hns' := hns
    obtain ⟨oL', esL', epL', heL', hdL', hrL'⟩ := hns'
    have ht : ∀ b vs, s.heap.IsTuple b vs → h'.IsTuple b vs := fun b vs ⟨o₁, e₁, c₁, n, d₁⟩ => ⟨o₁, (hsb.2 b fun q => by rw [q, heL] at e₁; cases e₁; rw [d₁] at hdL; cases hdL).trans e₁, c₁, n, d₁⟩
    have hcell : ∀ c w, s.heap.IsCell c w → c ≠ env.locals := fun c w ⟨o₁, e₁, d₁⟩ q => by rw [q, heL] at e₁; cases e₁; rw [hdL] at d₁; cases d₁
    obtain ⟨R', E'⟩ := R.frameStep (s' := { s with heap := h', toks := s.toks + 1 }) (loc := fun y => if y = x then some p else σ.loc y) heL (fun vs n q => by rw [hdL] at q; cases q) (by rw [hdL]; rfl) (.inl rfl) hsb heL' (by rw [hdL']; rfl) rfl rfl (Nat.le_succ _)
      ⟨_, hns, fun y hy => by
        dsimp only
        by_cases q : y = x
        · rw [if_pos q, if_pos q]; exact hv.mono (fun _ _ => rfl) (Nat.le_refl _) ht
        · rw [if_neg q, if_neg q]; exact RepO.mono (fun _ _ => rfl) (Nat.le_refl _) ht (hm y hy)⟩
      (fun y hy => by
        have hyx : y ≠ x := fun q => by subst q; rw [hx] at hy; rcases hy with hy | hy <;> cases hy
        obtain ⟨c, w, h1, h2, h3⟩ := R.cs y hy
        exact ⟨c, w, h1, h2.sameBut hsb (hcell c w h2), by dsimp only; rw [if_neg hyx]; exact RepO.mono (fun _ _ => rfl) (Nat.le_refl _) ht h3⟩)
      (fun y c hc => let ⟨w, hw⟩ := R.call y c hc; ⟨w, hw.sameBut hsb (hcell _ w hw)⟩)
    exact h _ R' E'
  · obtain ⟨c, w, h1, h2, h3⟩ := R.cs x (.inl hx)
    refine wpAny_storeName_cell hk hx h1 h2 (fun h' hcl hsb => ?_)
    obtain ⟨oc, ec, dc⟩ := h2
    obtain ⟨oc', ec', dc'⟩ := hcl
    obtain ⟨oL, esL, epL, heL, hdL, hrL⟩ := hn
    have ht : ∀ b vs, s.heap.IsTuple b vs → h'.IsTuple b vs := fun b vs ⟨o₁, e₁, c₁, n, d₁⟩ => ⟨o₁, (hsb.2 b fun q => by rw [q, ec] at e₁; cases e₁; rw [d₁] at dc; cases dc).trans e₁, c₁, n, d₁⟩
    have hLc : env.locals ≠ c := fun q => by rw [q, ec] at heL; cases heL; rw [hdL] at dc; cases dc
    obtain ⟨R', E'⟩ := R.frameStep (s' := { s with heap := h' }) (loc := fun y => if y = x then some p else σ.loc y) ec (fun vs n q => by rw [dc] at q; cases q) (by rw [dc]; rfl) (.inr ⟨x, h1⟩) hsb ec' (by rw [dc']; rfl) rfl rfl (Nat.le_refl _)
      ⟨m, Heap.Ns.sameBut ⟨oL, esL, epL, heL, hdL, hrL⟩ hsb hLc, fun y hy => by
        have hyx : y ≠ x := fun q => by subst q; rw [hx] at hy; cases hy
        dsimp only; rw [if_neg hyx]; exact RepO.mono (fun _ _ => rfl) (Nat.le_refl _) ht (hm y hy)⟩
      (fun y hy => by
        by_cases q : y = x
        · subst q
          exact ⟨c, some v, h1, ⟨oc', ec', dc'⟩, by dsimp only; rw [if_pos rfl]; exact hv.mono (fun _ _ => rfl) (Nat.le_refl _) ht⟩
        · obtain ⟨c', w', k1, k2, k3⟩ := R.cs y hy
          have hcc : c' ≠ c := fun e => q (R.cinj y x c (e ▸ k1) h1)
          exact ⟨c', w', k1, k2.sameBut hsb hcc, by dsimp only; rw [if_neg q]; exact RepO.mono (fun _ _ => rfl) (Nat.le_refl _) ht k3⟩)
      (fun y c' hc' => by
        by_cases q : c' = c
        · exact ⟨some v, by rw [q]; exact ⟨oc', ec', dc'⟩⟩
        · obtain ⟨w', hw'⟩ := R.call y c' hc'
          exact ⟨w', hw'.sameBut hsb q⟩)
    exact h _ R' E'
end
end Mine

open PySem PySem.W PyProof.Rows PySem.Calls
set_option Elab.async false
set_option maxRecDepth 100000
set_option linter.unusedVariables false
namespace Mine

/-! ## Operations on values -/
def Op1 (C : Cx) (lv : Lv) (env : Env) {α β : Type} (rep : RepT α β) (t : Value → Sem α) (p : PV) (σ : St) (Q : β → St → Prop) (X : String → List PV → St → Prop) : Prop :=
  ∀ A f s v, OkA lv A → Rel C lv.fs env f σ s → Rep f σ.n s.heap v p → wpAny C.M A (t v) (Post C lv.fs env rep Q f σ s) (PostX C lv.fs env X f σ s) s
def Op2 (C : Cx) (lv : Lv) (env : Env) {α β : Type} (rep : RepT α β) (t : Value → Value → Sem α) (p q : PV) (σ : St) (Q : β → St → Prop) (X : String → List PV → St → Prop) : Prop :=
  ∀ A f s v w, OkA lv A → Rel C lv.fs env f σ s → Rep f σ.n s.heap v p → Rep f σ.n s.heap w q → wpAny C.M A (t v w) (Post C lv.fs env rep Q f σ s) (PostX C lv.fs env X f σ s) s
def OpL (C : Cx) (lv : Lv) (env : Env) {α β : Type} (rep : RepT α β) (t : List Value → Sem α) (ps : List PV) (σ : St) (Q : β → St → Prop) (X : String → List PV → St → Prop) : Prop :=
  ∀ A f s vs, OkA lv A → Rel C lv.fs env f σ s → RepL f σ.n s.heap vs ps → wpAny C.M A (t vs) (Post C lv.fs env rep Q f σ s) (PostX C lv.fs env X f σ s) s

inductive RepK (f : Nat → Addr) (n : Nat) (h : Heap) : List (Str × Value) → List (Str × PV) → Prop
  | nil : RepK f n h [] []
  | cons {k : Str} {v : Value} {vs : List (Str × Value)} {p : PV} {ps : List (Str × PV)} : Rep f n h v p → RepK f n h vs ps → RepK f n h ((k, v) :: vs) ((k, p) :: ps)
theorem RepK.mono {f f' : Nat → Addr} {n n' : Nat} {h h' : Heap} (hf : ∀ i, i < n → f' i = f i) (hn : n ≤ n') (ht : ∀ a vs, h.IsTuple a vs → h'.IsTuple a vs)
    {es : List (Str × Value)} {ps : List (Str × PV)} (x : RepK f n h es ps) : RepK f' n' h' es ps := by
  induction x with
  | nil => exact .nil
  | cons a _ ih => exact .cons (Rep.mono hf hn ht a) ih
theorem RepK.ext {C : Cx} {fs : List Env} {env : Env} {f f' : Nat → Addr} {σ σ' : St} {s s' : Shared} {v : List (Str × Value)} {p : List (Str × PV)} (x : RepK f σ.n s.heap v p) (R : Rel C fs env f σ s) (E : Ext env f σ s f' σ' s') : RepK f' σ'.n s'.heap v p :=
  x.mono E.agree E.le (R.tups E)

/-- a call of a fixed thing -/
def ACall (C : Cx) (lv : Lv) (env : Env) (fv : Value) (ps : List PV) (kw : List (Str × PV)) (σ : St) (Q : PV → St → Prop) (X : String → List PV → St → Prop) : Prop :=
  ∀ A f s vs ks, OkA lv A → Rel C lv.fs env f σ s → RepL f σ.n s.heap vs ps → RepK f σ.n s.heap ks kw → wpAny C.M A (call fv vs ks) (Post C lv.fs env Rep Q f σ s) (PostX C lv.fs env X f σ s) s

abbrev AL (C : Cx) (lv : Lv) (env : Env) (es : List Expr) (pos : Pos) (σ : St) (Q : List PV → St → Prop) (X : String → List PV → St → Prop) : Prop := AW C lv env RepL (spliced (backTo pos (starEach es env))) σ Q X
abbrev AK (C : Cx) (lv : Lv) (env : Env) (kws : List Keyword) (pos : Pos) (σ : St) (Q : List PV → St → Prop) (X : String → List PV → St → Prop) : Prop := AW C lv env RepL (evalAll ((backToKw pos (keywordEach kws env)).map (·.2))) σ Q X

def KeepV (C : Cx) (fv : Value) : Prop := ∀ h, C.K.In h → ∃ k, (k = Keeper.frame ∨ k = Keeper.machine ∨ k = Keeper.boundFrame) ∧ Looks C.M h (keeperOf fv) k
theorem KeepV.builtin {C : Cx} {id : String} : KeepV C (.builtin id) := fun _ _ => ⟨.machine, .inr (.inl rfl), Looks.of_pure rfl⟩
theorem KeepV.type {C : Cx} {id : String} : KeepV C (.type id) := fun _ _ => ⟨.machine, .inr (.inl rfl), Looks.of_pure rfl⟩
theorem KeepV.ref {C : Cx} {a : Addr} (h : keepIn C.K (.ref a) = true) : KeepV C (.ref a) := fun hp X => keeps_K h hp X

/-- finding a method leaves all as it is -/
def Meth (C : Cx) (lv : Lv) (env : Env) (p : PV) (name : Str) (fv : Value) (σ : St) : Prop :=
  ∀ A f s v (pl : Sem Bool) (Q : Value × List Value → Shared → Prop) (E : Value → Shared → Prop), OkA lv A → Rel C lv.fs env f σ s → Rep f σ.n s.heap v p → (∀ k, s.toks ≤ k → Q (fv, [v]) { s with toks := k }) → wpAny C.M A (getMethod v name pl) Q E s

section
variable {C : Cx} {lv : Lv} {env : Env} {σ : St} {X : String → List PV → St → Prop}

theorem Rel.K {fs : List Env} {f : Nat → Addr} {s : Shared} (R : Rel C fs env f σ s) : C.K.In s.heap := C.hK.keeps R.base

theorem e_none {k : Nat} {pos : Pos} {Q : PV → St → Prop} (h : Q .none σ) : AE C lv env (.Constant .none k pos) σ Q X :=
  fun A f s hA R => wpAny_Constant_none (Post.now R h .none)
theorem e_bool {b : Bool} {k : Nat} {pos : Pos} {Q : PV → St → Prop} (h : Q (.bool b) σ) : AE C lv env (.Constant (.bool b) k pos) σ Q X :=
  fun A f s hA R => wpAny_Constant_bool (Post.now R h (.bool b))
theorem e_int {i : Int} {k : Nat} {pos : Pos} {Q : PV → St → Prop} (h : Q (.int i) σ) : AE C lv env (.Constant (.int i) k pos) σ Q X :=
  fun A f s hA R => wpAny_Constant_int (Post.here R h (.int i _) (Nat.le_succ _))
theorem e_str {x : Str} {k : Nat} {pos : Pos} {Q : PV → St → Prop} (h : Q (.str x) σ) : AE C lv env (.Constant (.str x) k pos) σ Q X :=
  fun A f s hA R => wpAny_Constant_str (Post.here R h (.str x _) (Nat.le_succ _))
theorem e_bytes {b : List UInt8} {k : Nat} {pos : Pos} {Q : PV → St → Prop} (h : Q (.bytes b.toArray) σ) : AE C lv env (.Constant (.bytes b) k pos) σ Q X :=
  fun A f s hA R => by
    show wpAny C.M A (mkTextBytes b.toArray) _ _ s
    unfold mkTextBytes
    exact wpAny_bind (wpAny_fresh (wpAny_pure (Post.here R h (.bytes _ _) (Nat.le_succ _))))

theorem e_name {x : Str} {pos : Pos} {v : PV} {Q : PV → St → Prop} (he : EnvOk env) (hx : env.kindOf x = some .local ∨ env.kindOf x = some .cell ∨ env.kindOf x = some .free) (hv : σ.loc x = some v) (h : Q v σ)
    (hd : (x == ("__debug__" : Str)) = false := by decide +kernel) (hc : (x == ("__classdict__" : Str)) = false := by decide +kernel) : AE C lv env (.Name x pos) σ Q X := by
  intro A f s hA R
  refine wpAny_Name ?_ hd
  rcases hx with hx | hx | hx
  · obtain ⟨m, hn, hm⟩ := R.ns
    have := hm x hx
    rw [hv] at this
    cases hmx : m x with
    | none => rw [hmx] at this; exact this.elim
    | some w => rw [hmx] at this; exact wpAny_loadName_local he.kind hx hn hmx (Post.now R h this)
  · obtain ⟨c, w, h1, h2, h3⟩ := R.cs x (.inl hx)
    rw [hv] at h3
    cases w with
    | none => exact h3.elim
    | some w => exact wpAny_loadName_cell he.kind hx h1 h2 (Post.now R h h3)
  · obtain ⟨c, w, h1, h2, h3⟩ := R.cs x (.inr hx)
    rw [hv] at h3
    cases w with
    | none => exact h3.elim
    | some w => exact wpAny_loadName_free he.kind hx h1 h2 (Post.now R h h3) hc

theorem e_global {x : Str} {pos : Pos} {v : Value} {Q : PV → St → Prop} (he : EnvOk env) (hx : env.kindOf x = some .globalImplicit) (hv : nsIn C.K mainGlobals x = some (some v)) (h : Q (.obj v) σ)
    (hd : (x == ("__debug__" : Str)) = false := by decide +kernel) : AE C lv env (.Name x pos) σ Q X := by
  intro A f s hA R
  have hg : s.heap.Ns env.globals C.mg := by rw [he.glob]; exact C.g.keeps R.base
  exact Calls.Name_function_global he.kind hx (Calls.loadGlobal_global hg (mg_of C.hK C.g hv) (Post.now R h (.obj v))) hd
theorem e_builtin {x : Str} {pos : Pos} {v : Value} {Q : PV → St → Prop} (he : EnvOk env) (hx : env.kindOf x = some .globalImplicit) (hv : nsIn C.K mainGlobals x = some none) (hb : bootBuiltins x = some v) (hn : x ≠ "__name__") (h : Q (.obj v) σ)
    (hd : (x == ("__debug__" : Str)) = false := by decide +kernel) : AE C lv env (.Name x pos) σ Q X := by
  intro A f s hA R
  have hg : s.heap.Ns env.globals C.mg := by rw [he.glob]; exact C.g.keeps R.base
  have hb' : s.heap.Ns env.builtins C.mb := by rw [he.bi]; exact C.b.keeps R.base
  exact Calls.Name_function_global he.kind hx (Calls.loadGlobal_builtin hg (mg_none_of C.hK C.g hv) hb' ((C.builtins x hn).trans hb) (Post.now R h (.obj v))) hd

theorem e_debug {pos : Pos} {x : Str} {Q : PV → St → Prop} (h : Q (.bool true) σ) (hd : (x == ("__debug__" : Str)) = true := by decide +kernel) : AE C lv env (.Name x pos) σ Q X := by
  intro A f s hA R
  show wpAny C.M A (do standAt pos; if x == ("__debug__" : Str) then debugConstant else loadName env x) _ _ s
  rw [hd]
  exact wpAny_bind (wpAny_standAt (wpAny_bind (wpAny_rule (wpAny_pure (Post.now R h (.bool true))))))

theorem e_bin {l r : Expr} {op : Operator} {pos : Pos} {Q : PV → St → Prop} (h : AE C lv env l σ (fun a σ₁ => AE C lv env r σ₁ (fun b σ₂ => Op2 C lv env Rep (binaryOp op) a b σ₂ Q X) X) X) : AE C lv env (.BinOp l op r pos) σ Q X :=
  fun A f s hA R => wpAny_BinOp (h.use hA R (fun va a σ₁ f₁ s₁ h₁ ra R₁ E₁ => h₁.use hA R₁ (fun vb b σ₂ f₂ s₂ h₂ rb R₂ E₂ =>
    wpAny_mono (h₂ A f₂ s₂ va vb hA R₂ (ra.ext R₁ E₂) rb) (fun _ _ x => Post.trans (E₁.trans E₂) x) fun _ _ x => PostX.trans (E₁.trans E₂) x) fun _ _ x => PostX.trans E₁ x) fun _ _ x => x)

theorem e_cmp {l r : Expr} {op : CmpOp} {pos : Pos} {Q : PV → St → Prop} (h : AE C lv env l σ (fun a σ₁ => AE C lv env r σ₁ (fun b σ₂ => Op2 C lv env Rep (compareOp op) a b σ₂ Q X) X) X) (hm : behindInMarks op r = false := by rfl) : AE C lv env (.Compare l [op] [r] pos) σ Q X :=
  fun A f s hA R => wpAny_Compare1 (h.use hA R (fun va a σ₁ f₁ s₁ h₁ ra R₁ E₁ => h₁.use hA R₁ (fun vb b σ₂ f₂ s₂ h₂ rb R₂ E₂ =>
    wpAny_mono (h₂ A f₂ s₂ va vb hA R₂ (ra.ext R₁ E₂) rb) (fun _ _ x => Post.trans (E₁.trans E₂) x) fun _ _ x => PostX.trans (E₁.trans E₂) x) fun _ _ x => PostX.trans E₁ x) fun _ _ x => x) hm

theorem e_unary {op : UnaryOp} {x : Expr} {pos : Pos} {Q : PV → St → Prop} (h : AE C lv env x σ (fun a σ₁ => Op1 C lv env Rep (unaryOp op) a σ₁ Q X) X) : AE C lv env (.UnaryOp op x pos) σ Q X :=
  fun A f s hA R => UnaryOp_ (h.use hA R (fun va a σ₁ f₁ s₁ h₁ ra R₁ E₁ => wpAny_mono (h₁ A f₁ s₁ va hA R₁ ra) (fun _ _ x => Post.trans E₁ x) fun _ _ x => PostX.trans E₁ x) fun _ _ x => x)

theorem o_not {p : PV} {Q : PV → St → Prop} (h : Op1 C lv env repB truthy p σ (fun b σ' => Q (.bool (!b)) σ') X) : Op1 C lv env Rep (unaryOp .Not) p σ Q X :=
  fun A f s v hA R r => not_of (wpAny_mono (h A f s v hA R r) (fun c s' ⟨b, σ', f', q, e, R', E'⟩ => by cases e; exact ⟨_, σ', f', q, .bool _, R', E'⟩) fun _ _ x => x)

theorem e_if {t b o : Expr} {pos : Pos} {Q : PV → St → Prop} (h : AT C lv env t σ (fun c σ₁ => (c = true → AE C lv env b σ₁ Q X) ∧ (c = false → AE C lv env o σ₁ Q X)) X) : AE C lv env (.IfExp t b o pos) σ Q X :=
  fun A f s hA R => IfExp_ (h.use hA R (fun c c' σ₁ f₁ s₁ h₁ hc R₁ E₁ => by
    cases hc
    cases c
    · exact (h₁.2 rfl).use hA R₁ (fun a b σ₂ f₂ s₂ q r R₂ E₂ => ⟨b, σ₂, f₂, q, r, R₂, E₁.trans E₂⟩) fun _ _ x => PostX.trans E₁ x
    · exact (h₁.1 rfl).use hA R₁ (fun a b σ₂ f₂ s₂ q r R₂ E₂ => ⟨b, σ₂, f₂, q, r, R₂, E₁.trans E₂⟩) fun _ _ x => PostX.trans E₁ x) fun _ _ x => x)

/-! truth of an expression -/
theorem t_val {e : Expr} {Q : Bool → St → Prop} (h : AE C lv env e σ (fun a σ₁ => Op1 C lv env repB truthy a σ₁ Q X) X) (he : isTrue e env (eval e env) = (do let v ← eval e env; standAt e.pos; holding [v] (truthy v)) := by rfl) : AT C lv env e σ Q X :=
  fun A f s hA R => isTrue_plain (h.use hA R (fun va a σ₁ f₁ s₁ h₁ ra R₁ E₁ => wpAny_mono (h₁ A f₁ s₁ va hA R₁ ra) (fun _ _ x => Post.trans E₁ x) fun _ _ x => PostX.trans E₁ x) fun _ _ x => x) he
theorem t_cmp {l r : Expr} {op : CmpOp} {pos : Pos} {Q : Bool → St → Prop} (h : AE C lv env l σ (fun a σ₁ => AE C lv env r σ₁ (fun b σ₂ => Op2 C lv env Rep (compareOp op) a b σ₂ (fun c σ₃ => Op1 C lv env repB truthy c σ₃ Q X) X) X) X) (hm : behindInMarks op r = false := by rfl) :
    AT C lv env (.Compare l [op] [r] pos) σ Q X :=
  fun A f s hA R => wpAny_isTrue_Compare1 (h.use hA R (fun va a σ₁ f₁ s₁ h₁ ra R₁ E₁ => h₁.use hA R₁ (fun vb b σ₂ f₂ s₂ h₂ rb R₂ E₂ =>
    wpAny_mono (h₂ A f₂ s₂ va vb hA R₂ (ra.ext R₁ E₂) rb) (fun c s₃ ⟨pc, σ₃, f₃, h₃, rc, R₃, E₃⟩ => wpAny_mono (h₃ A f₃ s₃ c hA R₃ rc) (fun _ _ x => Post.trans ((E₁.trans E₂).trans E₃) x) fun _ _ x => PostX.trans ((E₁.trans E₂).trans E₃) x)
      fun _ _ x => PostX.trans (E₁.trans E₂) x) fun _ _ x => PostX.trans E₁ x) fun _ _ x => x) hm
theorem t_not {x : Expr} {pos : Pos} {Q : Bool → St → Prop} (h : AT C lv env x σ (fun b σ' => Q (!b) σ') X) : AT C lv env (.UnaryOp .Not x pos) σ Q X :=
  fun A f s hA R => isTrue_not (wpAny_mono (h A f s hA R) (fun c s' ⟨b, σ', f', q, e, R', E'⟩ => by cases e; exact ⟨_, σ', f', q, rfl, R', E'⟩) fun _ _ x => x)
theorem t_and_nil {pos : Pos} {Q : Bool → St → Prop} {w : Sem Value} (h : Q true σ) : AW C lv env repB (isTrue (.BoolOp .And [] pos) env w) σ Q X :=
  fun A f s hA R => isTrue_and_nil (Post.now R h rfl)
theorem t_or_nil {pos : Pos} {Q : Bool → St → Prop} {w : Sem Value} (h : Q false σ) : AW C lv env repB (isTrue (.BoolOp .Or [] pos) env w) σ Q X :=
  fun A f s hA R => isTrue_or_nil (Post.now R h rfl)
theorem t_and {x : Expr} {rest : List Expr} {pos : Pos} {Q : Bool → St → Prop} {w : Sem Value} (h : AT C lv env x σ (fun c σ₁ => (c = true → AW C lv env repB (isTrue (.BoolOp .And rest pos) env w) σ₁ Q X) ∧ (c = false → Q false σ₁)) X) :
    AW C lv env repB (isTrue (.BoolOp .And (x :: rest) pos) env w) σ Q X :=
  fun A f s hA R => isTrue_and (h.use hA R (fun c c' σ₁ f₁ s₁ h₁ hc R₁ E₁ => by
    cases hc
    cases c
    · exact ⟨false, σ₁, f₁, h₁.2 rfl, rfl, R₁, E₁⟩
    · exact (h₁.1 rfl).use hA R₁ (fun a b σ₂ f₂ s₂ q r R₂ E₂ => ⟨b, σ₂, f₂, q, r, R₂, E₁.trans E₂⟩) fun _ _ x => PostX.trans E₁ x) fun _ _ x => x)
theorem t_or {x : Expr} {rest : List Expr} {pos : Pos} {Q : Bool → St → Prop} {w : Sem Value} (h : AT C lv env x σ (fun c σ₁ => (c = true → Q true σ₁) ∧ (c = false → AW C lv env repB (isTrue (.BoolOp .Or rest pos) env w) σ₁ Q X)) X) :
    AW C lv env repB (isTrue (.BoolOp .Or (x :: rest) pos) env w) σ Q X :=
  fun A f s hA R => isTrue_or (h.use hA R (fun c c' σ₁ f₁ s₁ h₁ hc R₁ E₁ => by
    cases hc
    cases c
    · exact (h₁.2 rfl).use hA R₁ (fun a b σ₂ f₂ s₂ q r R₂ E₂ => ⟨b, σ₂, f₂, q, r, R₂, E₁.trans E₂⟩) fun _ _ x => PostX.trans E₁ x
    · exact ⟨true, σ₁, f₁, h₁.1 rfl, rfl, R₁, E₁⟩) fun _ _ x => x)

/-! and, or as values -/
theorem e_bool_one {op : BoolOp} {e : Expr} {pos : Pos} {Q : PV → St → Prop} (h : AE C lv env e σ Q X) : AE C lv env (.BoolOp op [e] pos) σ Q X :=
  fun A f s hA R => BoolOp_one (h A f s hA R)
theorem e_and {e₁ e₂ : Expr} {rest : List Expr} {pos : Pos} {Q : PV → St → Prop}
    (h : AE C lv env e₁ σ (fun a σ₁ => Op1 C lv env repB truthy a σ₁ (fun c σ₂ => (c = true → AE C lv env (.BoolOp .And (e₂ :: rest) pos) σ₂ Q X) ∧ (c = false → Q a σ₂)) X) X) : AE C lv env (.BoolOp .And (e₁ :: e₂ :: rest) pos) σ Q X :=
  fun A f s hA R => BoolOp_and (h.use hA R (fun va a σ₁ f₁ s₁ h₁ ra R₁ E₁ => wpAny_mono (h₁ A f₁ s₁ va hA R₁ ra) (fun c s₂ ⟨c', σ₂, f₂, h₂, hc, R₂, E₂⟩ => by
    cases hc
    cases c
    · exact ⟨a, σ₂, f₂, h₂.2 rfl, ra.ext R₁ E₂, R₂, E₁.trans E₂⟩
    · exact (h₂.1 rfl).use hA R₂ (fun a b σ₃ f₃ s₃ q r R₃ E₃ => ⟨b, σ₃, f₃, q, r, R₃, (E₁.trans E₂).trans E₃⟩) fun _ _ x => PostX.trans (E₁.trans E₂) x) fun _ _ x => PostX.trans E₁ x) fun _ _ x => x)
theorem e_or {e₁ e₂ : Expr} {rest : List Expr} {pos : Pos} {Q : PV → St → Prop}
    (h : AE C lv env e₁ σ (fun a σ₁ => Op1 C lv env repB truthy a σ₁ (fun c σ₂ => (c = true → Q a σ₂) ∧ (c = false → AE C lv env (.BoolOp .Or (e₂ :: rest) pos) σ₂ Q X)) X) X) : AE C lv env (.BoolOp .Or (e₁ :: e₂ :: rest) pos) σ Q X :=
  fun A f s hA R => BoolOp_or (h.use hA R (fun va a σ₁ f₁ s₁ h₁ ra R₁ E₁ => wpAny_mono (h₁ A f₁ s₁ va hA R₁ ra) (fun c s₂ ⟨c', σ₂, f₂, h₂, hc, R₂, E₂⟩ => by
    cases hc
    cases c
    · exact (h₂.2 rfl).use hA R₂ (fun a b σ₃ f₃ s₃ q r R₃ E₃ => ⟨b, σ₃, f₃, q, r, R₃, (E₁.trans E₂).trans E₃⟩) fun _ _ x => PostX.trans (E₁.trans E₂) x
    · exact ⟨a, σ₂, f₂, h₂.1 rfl, ra.ext R₁ E₂, R₂, E₁.trans E₂⟩) fun _ _ x => PostX.trans E₁ x) fun _ _ x => x)

/-! lists of expressions -/
theorem al_nil {pos : Pos} {Q : List PV → St → Prop} (h : Q [] σ) : AL C lv env [] pos σ Q X := fun A f s hA R => wpAny_items_nil (Post.now R h .nil)
theorem al_cons {e : Expr} {rest : List Expr} {pos : Pos} {Q : List PV → St → Prop} (h : AE C lv env e σ (fun a σ₁ => AL C lv env rest pos σ₁ (fun ps σ₂ => Q (a :: ps) σ₂) X) X)
    (he : starEach (e :: rest) env = (false, eval e env) :: starEach rest env := by rfl) : AL C lv env (e :: rest) pos σ Q X :=
  fun A f s hA R => wpAny_items_cons (h.use hA R (fun va a σ₁ f₁ s₁ h₁ ra R₁ E₁ => h₁.use hA R₁ (fun vs ps σ₂ f₂ s₂ h₂ rs R₂ E₂ => ⟨_, σ₂, f₂, h₂, .cons (ra.ext R₁ E₂) rs, R₂, E₁.trans E₂⟩) fun _ _ x => PostX.trans E₁ x) fun _ _ x => x) he
theorem ak_nil {pos : Pos} {Q : List PV → St → Prop} (h : Q [] σ) : AK C lv env [] pos σ Q X := fun A f s hA R => kwAll_nil (Post.now R h .nil)
theorem ak_cons {name : Str} {value : Expr} {p : Pos} {rest : List Keyword} {pos : Pos} {Q : List PV → St → Prop} (h : AE C lv env value σ (fun a σ₁ => AK C lv env rest pos σ₁ (fun ps σ₂ => Q (a :: ps) σ₂) X) X) : AK C lv env (⟨some name, value, p⟩ :: rest) pos σ Q X :=
  fun A f s hA R => kwAll_cons (h.use hA R (fun va a σ₁ f₁ s₁ h₁ ra R₁ E₁ => h₁.use hA R₁ (fun vs ps σ₂ f₂ s₂ h₂ rs R₂ E₂ => ⟨_, σ₂, f₂, h₂, .cons (ra.ext R₁ E₂) rs, R₂, E₁.trans E₂⟩) fun _ _ x => PostX.trans E₁ x) fun _ _ x => x)

theorem repK_zip {f : Nat → Addr} {n : Nat} {h : Heap} : ∀ {ns : List Str} {vs : List Value} {ps : List PV}, RepL f n h vs ps → RepK f n h (ns.zip vs) (ns.zip ps)
  | [], _, _, _ => by simp only [List.zip_nil_left]; exact .nil
  | _ :: _, _, _, .nil => by simp only [List.zip_nil_right]; exact .nil
  | _ :: _, _, _, .cons a r => .cons a (repK_zip r)

def kwNames : List Keyword → List Str := fun ks => ks.filterMap (·.arg)
theorem kwNames_eq (pos : Pos) (env : Env) : ∀ kws : List Keyword, (backToKw pos (keywordEach kws env)).filterMap (·.1) = kwNames kws
  | [] => rfl
  | ⟨none, v, p⟩ :: r => by
    show ((backToKw pos (keywordEach r env)).filterMap (·.1)) = _
    rw [kwNames_eq pos env r]; rfl
  | ⟨some n, v, p⟩ :: r => by
    show n :: ((backToKw pos (keywordEach r env)).filterMap (·.1)) = _
    rw [kwNames_eq pos env r]; rfl

theorem evalArgs_any {M : Model} {A : Around} {E : Value → Shared → Prop} {s : Shared} {f : Value} {args : List (Bool × Sem Value)} {keywords : List (Option Str × Sem Value)} {Q : Args → Shared → Prop} (hp : args.any (·.1) = false) (hall : keywords.all (·.1.isSome) = true)
    (h : wpAny M A (spliced args) (fun vs s₁ => wpAny M A (evalAll (keywords.map (·.2))) (fun ks s₂ => Q ⟨vs, (keywords.filterMap (·.1)).zip ks⟩ s₂) E s₁) E s) : wpAny M A (evalArgs f true args keywords) Q E s := by
  have key : wpAny M A (spliced args >>= fun pos => (pure (pos, (none : Option Value)) : Sem (List Value × Option Value)) >>= fun x => holding (x.1 ++ x.2.toList) do
      let readLate (keep : List Value) : Sem (List Value) := do
        let some s := x.2 | return x.1
        if ← notIterableAtAll s then
          rule "call.star.not-iterable"
          raiseError "TypeError" s!"{← functionStr f} argument after * must be an iterable, not {← typeNameOf s}"
        holding keep (collect s)
      if keywords.all (·.1.isSome) then
        let kw := (keywords.filterMap (·.1)).zip (← evalAll (keywords.map (·.2)))
        return ⟨← readLate (kw.map (·.2)), kw⟩
      let d ← mergedKeywords f keywords
      let pos ← readLate [.ref d]
      return ⟨pos, ← holding (.ref d :: pos) (keywordsIn f d)⟩) Q E s := by
    refine wpAny_bind (wpAny_mono h (fun vs s₁ h₁ => ?_) fun _ _ x => x)
    refine wpAny_bind (wpAny_pure (wpAny_holding ?_))
    dsimp only
    rw [if_pos hall]
    exact wpAny_bind (wpAny_mono h₁ (fun ks s₂ h₂ => wpAny_bind (wpAny_pure (wpAny_pure h₂))) fun _ _ x => x)
  cases args with
  | nil => exact key
  | cons a rest =>
    obtain ⟨b, x⟩ := a
    cases b with
    | true => simp at hp
    | false => exact key

/-- the plain call: a thing, places, keywords -/
theorem c_with {pos : Pos} {fv : Value} {first : List PV} {fvs : List Value} {args : List Expr} {kws : List Keyword} {Q : PV → St → Prop} {A : Around} {f : Nat → Addr} {s : Shared} (hA : OkA lv A) (R : Rel C lv.fs env f σ s) (hK : KeepV C fv) (hf : RepL f σ.n s.heap fvs first)
    (h : AL C lv env args pos σ (fun ps σ₁ => AK C lv env kws pos σ₁ (fun ks σ₂ => ACall C lv env fv (first ++ ps) ((kwNames kws).zip ks) σ₂ Q X) X) X)
    (hall : (backToKw pos (keywordEach kws env)).all (·.1.isSome) = true)
    (hplain : ((backTo pos (starEach args env)).any (·.1) || (backToKw pos (keywordEach kws env)).any (·.1.isNone)) = false) :
    wpAny C.M A (callWith pos fv fvs (backTo pos (starEach args env)) (backToKw pos (keywordEach kws env))) (Post C lv.fs env Rep Q f σ s) (PostX C lv.fs env X f σ s) s := by
  refine callWith_of (P := C.K.In) hplain hK ?_
  have go : wpAny C.M A (spliced (backTo pos (starEach args env))) (fun vs s₁ => wpAny C.M A (evalAll ((backToKw pos (keywordEach kws env)).map (·.2)))
      (fun ks s₂ => (fun (a : Args) (s₁ : Shared) => C.K.In s₁.heap ∧ wpAny C.M A (call fv (fvs ++ a.pos) a.kw) (Post C lv.fs env Rep Q f σ s) (PostX C lv.fs env X f σ s) s₁) ⟨vs, ((backToKw pos (keywordEach kws env)).filterMap (·.1)).zip ks⟩ s₂) (PostX C lv.fs env X f σ s) s₁) (PostX C lv.fs env X f σ s) s := by
    refine h.use hA R (fun vs ps σ₁ f₁ s₁ h₁ rs R₁ E₁ => ?_) fun _ _ x => x
    refine h₁.use hA R₁ (fun kvs ks σ₂ f₂ s₂ h₂ rk R₂ E₂ => ?_) fun _ _ x => PostX.trans E₁ x
    refine ⟨R₂.K, wpAny_mono (h₂ A f₂ s₂ _ _ hA R₂ (RepL.append ((hf.ext R E₁).ext R₁ E₂) (rs.ext R₁ E₂)) ?_) (fun _ _ x => Post.trans (E₁.trans E₂) x) fun _ _ x => PostX.trans (E₁.trans E₂) x⟩
    rw [kwNames_eq]; exact repK_zip rk
  exact evalArgs_any (by rw [Bool.or_eq_false_iff] at hplain; exact hplain.1) hall go
end
end Mine

open PySem PySem.W PyProof.Rows PySem.Calls
set_option Elab.async false
set_option maxRecDepth 100000
set_option linter.unusedVariables false
namespace Mine

section
variable {C : Cx} {lv : Lv} {env : Env} {σ : St} {X : String → List PV → St → Prop}

theorem e_call {func : Expr} {args : List Expr} {kws : List Keyword} {pos : Pos} {Q : PV → St → Prop}
    (h : AE C lv env func σ (fun pf σ₁ => ∃ fv, pf = .obj fv ∧ KeepV C fv ∧ AL C lv env args pos σ₁ (fun ps σ₂ => AK C lv env kws pos σ₂ (fun ks σ₃ => ACall C lv env fv ps ((kwNames kws).zip ks) σ₃ Q X) X) X) X)
    (hall : (backToKw pos (keywordEach kws env)).all (·.1.isSome) = true := by rfl)
    (hplain : ((backTo pos (starEach args env)).any (·.1) || (backToKw pos (keywordEach kws env)).any (·.1.isNone)) = false := by rfl)
    (he : eval (.Call func args kws pos) env = (do callWith pos (← eval func env) [] (backTo pos (starEach args env)) (backToKw pos (keywordEach kws env))) := by rfl) :
    AE C lv env (.Call func args kws pos) σ Q X := by
  intro A f s hA R
  rw [he]
  refine wpAny_bind (h.use hA R (fun va a σ₁ f₁ s₁ h₁ ra R₁ E₁ => ?_) fun _ _ x => x)
  obtain ⟨fv, rfl, hK, h₂⟩ := h₁
  cases ra
  exact wpAny_mono (c_with (first := []) hA R₁ hK .nil h₂ hall hplain) (fun _ _ x => Post.trans E₁ x) fun _ _ x => PostX.trans E₁ x

theorem e_mcall {o : Expr} {name : Str} {args : List Expr} {kws : List Keyword} {apos pos : Pos} {pl : Sem Bool} {Q : PV → St → Prop}
    (h : AE C lv env o σ (fun po σ₁ => ∃ fv, Meth C lv env po name fv σ₁ ∧ KeepV C fv ∧ AL C lv env args pos σ₁ (fun ps σ₂ => AK C lv env kws pos σ₂ (fun ks σ₃ => ACall C lv env fv (po :: ps) ((kwNames kws).zip ks) σ₃ Q X) X) X) X)
    (hall : (backToKw pos (keywordEach kws env)).all (·.1.isSome) = true := by rfl)
    (hplain : ((backTo pos (starEach args env)).any (·.1) || (backToKw pos (keywordEach kws env)).any (·.1.isNone)) = false := by rfl)
    (he : eval (.Call (.Attribute o name apos) args kws pos) env = (do
      let ov ← eval o env
      standAt apos.atName
      let (f, first) ← holding [ov] (getMethod ov name pl)
      callWith pos f first (backTo pos (starEach args env)) (backToKw pos (keywordEach kws env))) := by rfl) :
    AE C lv env (.Call (.Attribute o name apos) args kws pos) σ Q X := by
  intro A f s hA R
  refine methodCall_KW (pl := pl) (h.use hA R (fun va a σ₁ f₁ s₁ h₁ ra R₁ E₁ => ?_) fun _ _ x => x) he
  obtain ⟨fv, hM, hK, h₂⟩ := h₁
  refine hM A f₁ s₁ va pl _ _ hA R₁ ra fun k hk => ?_
  have R₁' := R₁.toks hk
  exact wpAny_mono (c_with (first := [a]) (fvs := [va]) hA R₁' hK (.cons ra .nil) h₂ hall hplain) (fun _ _ x => Post.trans (E₁.trans (.toks k)) x) fun _ _ x => PostX.trans (E₁.trans (.toks k)) x

/-! ## Statements -/
theorem ss_nil {Q : PFlow → St → Prop} (h : Q .next σ) : ASs C lv env [] σ Q X := fun A f s hA R => wpAny_execs_nil (Post.now R h .next)
theorem ss_cons {st : Stmt} {rest : List Stmt} {Q : PFlow → St → Prop} (h : AS C lv env st σ (fun fl σ₁ => (fl = .next → ASs C lv env rest σ₁ Q X) ∧ (fl ≠ .next → Q fl σ₁)) X) : ASs C lv env (st :: rest) σ Q X :=
  fun A f s hA R => wpAny_execs_cons (h.use hA R (fun fl pfl σ₁ f₁ s₁ h₁ hr R₁ E₁ => by
    cases hr with
    | next => exact wpAny_mono (h₁.1 rfl A f₁ s₁ hA R₁) (fun _ _ x => Post.trans E₁ x) fun _ _ x => PostX.trans E₁ x
    | brk => exact ⟨_, σ₁, f₁, h₁.2 (by intro q; cases q), .brk, R₁, E₁⟩
    | cont => exact ⟨_, σ₁, f₁, h₁.2 (by intro q; cases q), .cont, R₁, E₁⟩
    | ret hv => exact ⟨_, σ₁, f₁, h₁.2 (by intro q; cases q), .ret hv, R₁, E₁⟩) fun _ _ x => x)

theorem s_assign {x : Str} {p₁ : Pos} {value : Expr} {pos : Pos} {Q : PFlow → St → Prop} (he : EnvOk env) (hx : env.kindOf x = some .local ∨ env.kindOf x = some .cell) (h : AE C lv env value σ (fun v σ₁ => Q .next (σ₁.set x v)) X)
    (hs : swapsWith value (some (.Name x p₁)) pos.line env = pure false := by rfl) : AS C lv env (.Assign [.Name x p₁] value pos) σ Q X :=
  fun A f s hA R => wpAny_Assign_Name (h.use hA R (fun va a σ₁ f₁ s₁ h₁ ra R₁ E₁ => R₁.store he.kind ra hx fun s₂ R₂ E₂ => ⟨.next, _, f₁, h₁, .next, R₂, E₁.trans E₂⟩) fun _ _ x => x) hs

theorem s_return {e : Expr} {pos : Pos} {Q : PFlow → St → Prop} (h : AE C lv env e σ (fun v σ₁ => Q (.ret v) σ₁) X) : AS C lv env (.Return (some e) pos) σ Q X :=
  fun A f s hA R => wpAny_Return_some (h.use hA R (fun va a σ₁ f₁ s₁ h₁ ra R₁ E₁ => ⟨_, σ₁, f₁, h₁, .ret ra, R₁, E₁⟩) fun _ _ x => x)
theorem s_return_none {pos : Pos} {Q : PFlow → St → Prop} (h : Q (.ret .none) σ) : AS C lv env (.Return none pos) σ Q X :=
  fun A f s hA R => wpAny_Return_none (Post.now R h (.ret .none))
theorem s_pass {pos : Pos} {Q : PFlow → St → Prop} (h : Q .next σ) : AS C lv env (.Pass pos) σ Q X := fun A f s hA R => wpAny_Pass (Post.now R h .next)

theorem s_if {test : Expr} {body orelse : List Stmt} {pos : Pos} {Q : PFlow → St → Prop} (h : AT C lv env test σ (fun c σ₁ => (c = true → ASs C lv env body σ₁ Q X) ∧ (c = false → ASs C lv env orelse σ₁ Q X)) X) : AS C lv env (.If test body orelse pos) σ Q X :=
  fun A f s hA R => wpAny_If (h.use hA R (fun c c' σ₁ f₁ s₁ h₁ hc R₁ E₁ => by
    cases hc
    cases c
    · exact wpAny_mono (h₁.2 rfl A f₁ s₁ hA R₁) (fun _ _ x => Post.trans E₁ x) fun _ _ x => PostX.trans E₁ x
    · exact wpAny_mono (h₁.1 rfl A f₁ s₁ hA R₁) (fun _ _ x => Post.trans E₁ x) fun _ _ x => PostX.trans E₁ x) fun _ _ x => x)

theorem s_aug {x : Str} {p₁ : Pos} {op : Operator} {value : Expr} {pos : Pos} {Q : PFlow → St → Prop} {old : PV} (he : EnvOk env) (hx : env.kindOf x = some .local ∨ env.kindOf x = some .cell) (ho : σ.loc x = some old)
    (h : AE C lv env value σ (fun v σ₁ => Op2 C lv env Rep (inplaceOp op) old v σ₁ (fun r σ₂ => Q .next (σ₂.set x r)) X) X) : AS C lv env (.AugAssign (.Name x p₁) op value pos) σ Q X := by
  intro A f s hA R
  refine wpAny_AugAssign_Name ?_
  have key : ∀ w, Rep f σ.n s.heap w old → wpAny C.M A (eval value env) (fun v s₂ => wpAny C.M A (inplaceOp op w v) (fun r s₃ => wpAny C.M A (storeName env x r) (fun _ => Post C lv.fs env RepF Q f σ s .next) (PostX C lv.fs env X f σ s) s₃) (PostX C lv.fs env X f σ s) s₂) (PostX C lv.fs env X f σ s) s := fun w hw =>
    h.use hA R (fun va a σ₁ f₁ s₁ h₁ ra R₁ E₁ => wpAny_mono (h₁ A f₁ s₁ w va hA R₁ (hw.ext R E₁) ra) (fun r s₂ ⟨pr, σ₂, f₂, h₂, rr, R₂, E₂⟩ => R₂.store he.kind rr hx fun s₃ R₃ E₃ => ⟨.next, _, f₂, h₂, .next, R₃, (E₁.trans E₂).trans E₃⟩)
      fun _ _ x => PostX.trans E₁ x) fun _ _ x => x
  rcases hx with hx | hx
  · obtain ⟨m, hn, hm⟩ := R.ns
    have := hm x hx
    rw [ho] at this
    cases hmx : m x with
    | none => rw [hmx] at this; exact this.elim
    | some w => rw [hmx] at this; exact wpAny_loadName_local he.kind hx hn hmx (key w this)
  · obtain ⟨c, w, h1, h2, h3⟩ := R.cs x (.inl hx)
    rw [ho] at h3
    cases w with
    | none => exact h3.elim
    | some w => exact wpAny_loadName_cell he.kind hx h1 h2 (key w h3)

end
end Mine

open PySem PySem.W PyProof.Rows PySem.Calls
set_option Elab.async false
set_option maxRecDepth 100000
set_option linter.unusedVariables false
namespace Mine

def locOf : List (Str × PV) → (Str → Option PV) → Str → Option PV
  | [], m => m
  | (k, v) :: r, m => locOf r (fun y => if y = k then some v else m y)

theorem bindL_rep {f : Nat → Addr} {n : Nat} {h : Heap} {kindOf : Str → Option NameKind} {bs : List (Str × Value)} {ps : List (Str × PV)} (x : RepK f n h bs ps) :
    ∀ {m : Str → Option Value} {p : Str → Option PV}, (∀ y, kindOf y = some .local → RepO f n h (m y) (p y)) → ∀ y, kindOf y = some .local → RepO f n h (bindL kindOf bs m y) (locOf ps p y) := by
  induction x with
  | nil => intro m p hm y hy; exact hm y hy
  | @cons k v vs q qs hv _ ih =>
    intro m p hm y hy
    unfold bindL locOf
    refine ih (fun z hz => ?_) y hy
    by_cases hk : kindOf k = some .local
    · rw [if_pos hk]
      by_cases hzk : z = k
      · simp only [hzk, if_true]; exact hv
      · simp only [hzk, if_false]; exact hm z hz
    · rw [if_neg hk]
      have hzk : z ≠ k := fun e => hk (e ▸ hz)
      simp only [hzk, if_false]; exact hm z hz
theorem bindC_rep {f : Nat → Addr} {n : Nat} {h : Heap} {kindOf : Str → Option NameKind} {bs : List (Str × Value)} {ps : List (Str × PV)} (x : RepK f n h bs ps) :
    ∀ {m : Str → Option Value} {p : Str → Option PV}, (∀ y, kindOf y ≠ some .local → RepO f n h (m y) (p y)) → ∀ y, kindOf y ≠ some .local → RepO f n h (bindC kindOf bs m y) (locOf ps p y) := by
  induction x with
  | nil => intro m p hm y hy; exact hm y hy
  | @cons k v vs q qs hv _ ih =>
    intro m p hm y hy
    unfold bindC locOf
    refine ih (fun z hz => ?_) y hy
    by_cases hk : kindOf k = some .local
    · rw [if_pos hk]
      have hzk : z ≠ k := fun e => hz (e ▸ hk)
      simp only [hzk, if_false]; exact hm z hz
    · rw [if_neg hk]
      by_cases hzk : z = k
      · simp only [hzk, if_true]; exact hv
      · simp only [hzk, if_false]; exact hm z hz

section
variable {C : Cx} {lv : Lv} {env env' : Env} {fs : List Env} {σ σ₁ σ' : St} {f f' : Nat → Addr} {s s₁ s' : Shared}

/-- a step in an inner frame, seen from the outer one -/
structure Under (env env' : Env) (s s₁ : Shared) : Prop where
  keeps : ∀ b o, s.heap.get? b = some o → s₁.heap.get? b = some o
  size : s.heap.objs.size ≤ s₁.heap.objs.size
  newL : s.heap.objs.size ≤ env'.locals
  newC : ∀ x c, env'.cells.lookup x = some c → s.heap.objs.size ≤ c

theorem Rel.out' (R : Rel C fs env f σ s) (U : Under env env' s s₁) {b : Addr} {o : Obj} (hb : s.heap.get? b = some o) (hs : ∀ i, 0 < i → i < σ.n → b ≠ f i) : Out env' f σ.n b where
  o := hs
  l := Nat.ne_of_lt (Nat.lt_of_lt_of_le (Heap.lt_size hb) U.newL)
  c x c hc := Nat.ne_of_lt (Nat.lt_of_lt_of_le (Heap.lt_size hb) (U.newC x c hc))

theorem Rel.back (R : Rel C fs env f σ s) (U : Under env env' s s₁) (hn : σ₁.n = σ.n) (R' : Rel C (env' :: fs) env' f' σ' s') (E : Ext env' f σ₁ s₁ f' σ' s') (hp : Nat → Option AO) (hsub : ∀ i o, hp i = some o → σ'.hp i = some o) :
    Rel C fs env f' ⟨σ'.n, hp, σ.loc⟩ s' ∧ Ext env f σ s f' ⟨σ'.n, hp, σ.loc⟩ s' := by
  have hle : σ.n ≤ σ'.n := hn ▸ E.le
  have hag : ∀ i, i < σ.n → f' i = f i := fun i hi => E.agree i (hn ▸ hi)
  have hkp : ∀ b o, s.heap.get? b = some o → (∀ i, 0 < i → i < σ.n → b ≠ f i) → ∃ o', s'.heap.get? b = some o' ∧ Kept o o' := fun b o e h => E.keep b o (U.keeps b o e) (by rw [hn]; exact R.out' U e h)
  have hnew : ∀ i, σ.n ≤ i → i < σ'.n → s.heap.objs.size ≤ f' i := fun i h1 h2 => Nat.le_trans U.size (E.new i (hn ▸ h1) h2)
  have ht : ∀ a vs, s.heap.IsTuple a vs → s'.heap.IsTuple a vs := fun a vs x => by
    have := R.tupOut x
    obtain ⟨o, ho, hc, k, hd⟩ := x
    obtain ⟨o', e, q⟩ := hkp a o ho this.o
    exact ⟨_, e, q.cls.trans hc, k, q.data.trans hd⟩
  refine ⟨⟨R'.base, R'.inj, R'.kind, R'.fresh, fun i o e => R'.objs i o (hsub i o e), ?_, ?_, ?_, R.cinj, R.newL, R.newC, ?_, ?_, R'.frs.2.2, R'.os, R'.gens, R'.tok⟩, ⟨hle, hag, hnew, fun b o e h => hkp b o e h.o, ?_, Nat.le_trans U.size E.size⟩⟩
  · obtain ⟨m, ⟨o, es, ep, ho, hd, hr⟩, hm⟩ := R.ns
    obtain ⟨o', e, q⟩ := hkp _ o ho (fun i _ hi => (R.sepL i hi).symm)
    exact ⟨m, ⟨_, es, ep, e, q.data.trans hd, hr⟩, fun x hx => RepO.mono hag hle ht (hm x hx)⟩
  · intro x hx
    obtain ⟨c, v, h1, ⟨o, ho, hd⟩, h3⟩ := R.cs x hx
    obtain ⟨o', e, q⟩ := hkp _ o ho (fun i _ hi => (R.sepC i hi x c h1).symm)
    exact ⟨c, v, h1, ⟨_, e, q.data.trans hd⟩, RepO.mono hag hle ht h3⟩
  · intro x c hc
    obtain ⟨v, o, ho, hd⟩ := R.call x c hc
    obtain ⟨o', e, q⟩ := hkp _ o ho (fun i _ hi => (R.sepC i hi x c hc).symm)
    exact ⟨v, _, e, q.data.trans hd⟩
  · intro i hi
    rcases Nat.lt_or_ge i σ.n with h | h
    · rw [hag i h]; exact R.sepL i h
    · obtain ⟨m, ⟨o, _, _, ho, _⟩, _⟩ := R.ns
      exact Nat.ne_of_gt (Nat.lt_of_lt_of_le (Heap.lt_size ho) (hnew i h hi))
  · intro i hi x c hc
    rcases Nat.lt_or_ge i σ.n with h | h
    · rw [hag i h]; exact R.sepC i h x c hc
    · obtain ⟨v, o, ho, _⟩ := R.call x c hc
      exact Nat.ne_of_gt (Nat.lt_of_lt_of_le (Heap.lt_size ho) (hnew i h hi))
  · intro b o e
    obtain ⟨o', e', d', c'⟩ := E.grow b o (U.keeps b o e)
    exact ⟨o', e', d', fun _ _ => c' (Nat.ne_of_lt (Nat.lt_of_lt_of_le (Heap.lt_size e) U.newL)) fun x c hc => Nat.ne_of_lt (Nat.lt_of_lt_of_le (Heap.lt_size e) (U.newC x c hc))⟩

abbrev NoX : String → List PV → St → Prop := fun _ _ _ => False

structure FnAt (C : Cx) (a : Addr) (fd : FuncData) (body : List Stmt) : Prop where
  at_ : ∃ oc od osl, C.K.lookup a = some ⟨oc, od, .func fd, osl⟩
  code : codeIn C.K fd.code fd.qualname = true
  clo : fd.closure = []
  glob : fd.globals = mainGlobals
  bi : fd.builtins = builtinsNs
  body : fd.body = .stmts body
  co : fd.scope.isCoroutine = false
  gen : fd.scope.isGenerator = false
  kind : fd.scope.kind = .function
  cells : ∀ x, fd.scope.names.lookup x = some .cell ∨ fd.scope.names.lookup x = some .free → ∀ n, ((cellsFrom n fd.scope.names []).lookup x).isSome = true

def retOf : PFlow → PV
  | .ret v => v
  | _ => .none

/-- how the arguments are bound -/
def Binds (C : Cx) (lv : Lv) (env : Env) (σ : St) (fd : FuncData) (ps : List PV) (kw : List (Str × PV)) (bs : List (Str × PV)) : Prop :=
  ∀ f s vs ks, Rel C lv.fs env f σ s → RepL f σ.n s.heap vs ps → RepK f σ.n s.heap ks kw → ∃ binds, BindsTo s fd ⟨vs, ks⟩ binds ∧ RepK f σ.n s.heap binds bs

theorem RepK.names {f : Nat → Addr} {n : Nat} {h : Heap} {vs : List (Str × Value)} {ps : List (Str × PV)} (x : RepK f n h vs ps) : ∀ y ∈ vs, ∃ q, (y.1, q) ∈ ps := by
  induction x with
  | nil => intro y hy; cases hy
  | cons a r ih =>
    intro y hy
    rcases List.mem_cons.mp hy with rfl | hy
    · exact ⟨_, List.mem_cons_self ..⟩
    · obtain ⟨q, hq⟩ := ih y hy
      exact ⟨q, List.mem_cons_of_mem _ hq⟩

theorem a_fn {a : Addr} {fd : FuncData} {body : List Stmt} {ps : List PV} {kw bs : List (Str × PV)} {Q : PV → St → Prop} {X : String → List PV → St → Prop} (F : FnAt C a fd body) (hd : lv.d < 30)
    (hb : Binds C lv env σ fd ps kw bs) (hk : ∀ y ∈ bs, fd.scope.names.lookup y.1 = some .local ∨ fd.scope.names.lookup y.1 = some .cell)
    (h : ∀ env' : Env, env'.scope = fd.scope → EnvOk env' → env'.frame = some env'.locals → ASs C ⟨lv.d + 1, lv.hn, env' :: lv.fs⟩ env' body ⟨σ.n, σ.hp, locOf bs fun _ => none⟩
      (fun fl σ' => ∃ hp, (∀ i o, hp i = some o → σ'.hp i = some o) ∧ Q (retOf fl) ⟨σ'.n, hp, σ.loc⟩) NoX) :
    ACall C lv env (.ref a) ps kw σ Q X := by
  intro A f s vs ks hA R hvs hks
  obtain ⟨oc, od, osl, hK⟩ := F.at_
  obtain ⟨binds, hbt, hbr⟩ := hb f s vs ks R hvs hks
  refine wpAny_call (codeAny_call_function (by have := hA.depth; have := hA.small; show A.depth < 1000; omega) (R.K _ _ hK) rfl F.co F.gen F.body (codeRec_of R.K F.code) (hbt _ _ _ _ ?_))
  rw [F.clo, F.glob, F.bi]
  refine wp_toks (wpAny_newFunctionEnv_cells F.kind (fun x hx => ?_) fun env' he s₁ hc htk => ?_)
  · obtain ⟨q, hq⟩ := hbr.names x hx
    rcases hk _ hq with h1 | h1
    · exact .inl h1
    · exact .inr ⟨h1, F.cells _ (.inl h1) _⟩
  have hL : env'.locals = s.heap.objs.size := by rw [he]; rfl
  have hcl : env'.cells = cellsFrom (s.heap.objs.size + 1) fd.scope.names [] := by rw [he]; rfl
  have hsc : env'.scope = fd.scope := by rw [he]; rfl
  have hfr : env'.frame = some env'.locals := by rw [he]; rfl
  have hok : EnvOk env' := ⟨by rw [hsc]; exact F.kind, by rw [he]; rfl, by rw [he]; rfl⟩
  obtain ⟨⟨⟨h₁, tk, hs₁⟩, hns, hkeep, hfresh⟩, hcell, hapart, habove⟩ := hc
  have hL' : s.heap.objs.size ≤ env'.locals := by rw [hL]; exact Nat.le_refl _
  have hcn : ∀ x c, env'.cells.lookup x = some c → s.heap.objs.size ≤ c := fun x c hx => Nat.le_trans hL' (Nat.le_of_lt (habove x c (mem_of_lookup hx)))
  have hnb : ∀ b, s.heap.objs.size ≤ b → C.base.get? b = none := fun b hb => by
    cases hq : C.base.get? b with
    | none => rfl
    | some o => exact absurd (Heap.lt_size (R.base b o hq)) (Nat.not_lt.mpr hb)
  have hfi : ∀ i, i < σ.n → f i < s.heap.objs.size := fun i hi => let ⟨_, e, _⟩ := R.kind i hi; Heap.lt_size e
  have hsz : s.heap.objs.size ≤ s₁.heap.objs.size := by
    obtain ⟨o, _, _, ho, _⟩ := hns
    exact Nat.le_of_lt (Nat.lt_of_le_of_lt hL' (Heap.lt_size ho))
  have U : Under env env' s s₁ := ⟨hkeep, hsz, hL', hcn⟩
  have ht : ∀ a vs, s.heap.IsTuple a vs → s₁.heap.IsTuple a vs := fun a vs ⟨o, ho, r⟩ => ⟨o, hkeep _ _ ho, r⟩
  have hbr₁ : RepK f σ.n s₁.heap binds bs := hbr.mono (fun _ _ => rfl) (Nat.le_refl _) ht
  have R₁ : Rel C (env' :: lv.fs) env' f ⟨σ.n, σ.hp, locOf bs fun _ => none⟩ s₁ := by
    refine ⟨fun b o e => hkeep _ _ (R.base b o e), R.inj, fun i hi => let ⟨o, e, c⟩ := R.kind i hi; ⟨o, hkeep _ _ e, c⟩, R.fresh, fun i o e => ?_, ⟨_, hns, fun x hx => ?_⟩, fun x hx => ?_, ?_, ?_, hnb _ hL', fun x c hc => hnb _ (hcn x c hc), ?_, ?_, ?_, ?_, ?_, Nat.lt_of_lt_of_le R.tok htk⟩
    · obtain ⟨h1, h2⟩ := R.objs i o e
      exact ⟨h1, ORep.mono (fun _ _ => rfl) (Nat.le_refl _) ht (fun o e => ⟨o, hkeep _ _ e, .refl o⟩) h2⟩
    · exact bindL_rep (m := fun _ => none) (p := fun _ => none) hbr₁ (fun _ _ => trivial) x hx
    · have hx' : fd.scope.names.lookup x = some .cell ∨ fd.scope.names.lookup x = some .free := by
        have e : env'.kindOf x = fd.scope.names.lookup x := by show env'.scope.names.lookup x = _; rw [hsc]
        rw [e] at hx; exact hx
      obtain ⟨c, hc⟩ := Option.isSome_iff_exists.mp (F.cells x hx' (s.heap.objs.size + 1))
      rw [← hcl] at hc
      refine ⟨c, _, hc, hcell x c hc, ?_⟩
      refine bindC_rep (m := fun _ => none) (p := fun _ => none) hbr₁ (fun _ _ => trivial) x (fun q => ?_)
      rw [q] at hx; rcases hx with hx | hx <;> cases hx
    · intro x c hc; exact ⟨_, hcell x c hc⟩
    · intro x y c h1 h2; exact name_of_addr hapart (mem_of_lookup h1) (mem_of_lookup h2)
    · intro i hi; exact Nat.ne_of_lt (Nat.lt_of_lt_of_le (hfi i hi) hL')
    · intro i hi x c hc; exact Nat.ne_of_lt (Nat.lt_of_lt_of_le (hfi i hi) (hcn x c hc))
    · exact .cons (by rw [hok.kind]; decide) hfr hns (hnb _ hL') (funFrames_of (fun b o e => ⟨o, hkeep _ _ e, rfl⟩) R.frs)
    · rw [hs₁]; exact R.os
    · rw [hs₁]; exact R.gens
  refine ⟨C.nolimit.keeps fun b o e => hkeep _ _ (R.base b o e), codeAny_func ?_⟩
  have hA' : OkA ⟨lv.d + 1, lv.hn, env' :: lv.fs⟩ (A.deeper env') := by
    refine ⟨?_, ?_, Around.frames_deeper hA.frames, hA.guards, hA.handled, hd⟩
    · show A.depth + 1 ≤ 400 + 4 * (lv.d + 1); have := hA.depth; omega
    · show A.units + 3 ≤ 100 + 20 * (lv.d + 1); have := hA.units; omega
  refine (h env' hsc hok hfr).use hA' R₁ (fun fl pfl σ' f' s' ⟨hp, hsub, hq⟩ hr R' E' => ?_) fun e s' ⟨c, as, σ', f', hx, hfl, R', E'⟩ => hx.elim
  · obtain ⟨R₂, E₂⟩ := R.back (σ₁ := ⟨σ.n, σ.hp, locOf bs fun _ => none⟩) U rfl R' E' hp hsub
    refine ⟨_, _, f', hq, ?_, R₂, E₂⟩
    cases hr with
    | ret hv => exact hv
    | _ => exact .none
end
end Mine

open PySem PySem.W PyProof.Rows PySem.Calls
set_option Elab.async false
set_option maxRecDepth 100000
set_option linter.unusedVariables false
namespace Mine

structure FrameOk (lv : Lv) (env : Env) : Prop where
  frame : env.frame = some env.locals
  top : ∃ outer, lv.fs = env :: outer

section
variable {C : Cx} {lv : Lv} {env : Env} {fs : List Env} {σ σ' : St} {f f' : Nat → Addr} {s s₀ s' : Shared} {X : String → List PV → St → Prop}

/-- one object that no abstract one names has been changed -/
theorem Rel.outside {I : Addr} {o : Obj} (R : Rel C fs env f σ s) (hI : s.heap.get? I = some o) (hc : ∀ vs n, o.data = .seq vs n → o.cls ≠ .type "tuple") (hb : C.base.get? I = none) (hf : ∀ i, i < σ.n → f i ≠ I) (hl : I ≠ env.locals) (hcl : ∀ x c, env.cells.lookup x = some c → I ≠ c)
    (hk : ∀ b o, b ≠ I → s.heap.get? b = some o → s'.heap.get? b = some o) (hfr : s'.heap.FunFrames C.base fs) (ho : s'.os = s.os) (hg : s'.gens = s.gens) (ht : s.toks ≤ s'.toks) : Rel C fs env f σ s' := by
  have htup : ∀ a vs, s.heap.IsTuple a vs → s'.heap.IsTuple a vs := fun a vs ⟨o₁, e₁, c₁, n, r⟩ => ⟨o₁, hk _ _ (fun q => by rw [q, hI] at e₁; cases e₁; exact hc _ _ r c₁) e₁, c₁, n, r⟩
  refine ⟨fun b o e => hk _ _ (fun q => by rw [q, hb] at e; cases e) (R.base b o e), R.inj, fun i hi => let ⟨o, e, c⟩ := R.kind i hi; ⟨o, hk _ _ (hf i hi) e, c⟩, R.fresh, fun i o e => ?_, ?_, ?_, ?_, R.cinj, R.newL, R.newC, R.sepL, R.sepC, hfr, ho.trans R.os, hg.trans R.gens, Nat.lt_of_lt_of_le R.tok ht⟩
  · obtain ⟨h1, h2⟩ := R.objs i o e
    exact ⟨h1, ORep.mono (fun _ _ => rfl) (Nat.le_refl _) htup (fun o e => ⟨o, hk _ _ (hf i h1) e, .refl o⟩) h2⟩
  · obtain ⟨m, ⟨o₁, es, ep, e, hd, r⟩, hm⟩ := R.ns
    exact ⟨m, ⟨o₁, es, ep, hk _ _ hl.symm e, hd, r⟩, fun x hx => RepO.mono (fun _ _ => rfl) (Nat.le_refl _) htup (hm x hx)⟩
  · intro x hx
    obtain ⟨c, v, h1, ⟨o₁, e, hd⟩, h3⟩ := R.cs x hx
    exact ⟨c, v, h1, ⟨o₁, hk _ _ (hcl x c h1).symm e, hd⟩, RepO.mono (fun _ _ => rfl) (Nat.le_refl _) htup h3⟩
  · intro x c hc'
    obtain ⟨v, o₁, e, hd⟩ := R.call x c hc'
    exact ⟨v, o₁, hk _ _ (hcl x c hc').symm e, hd⟩

/-- .. an iterator -/
theorem Rel.other {I : Addr} {o : Obj} (R : Rel C fs env f σ s) (hI : s.heap.get? I = some o) (hc : o.cls ≠ .type "tuple") (hD : isD o.data = false) (hcl : ∀ v, o.data ≠ .cell v) (hF : isF o.data = true) (hb : C.base.get? I = none) (hf : ∀ i, i < σ.n → f i ≠ I)
    (hk : ∀ b o, b ≠ I → s.heap.get? b = some o → s'.heap.get? b = some o) (ho : s'.os = s.os) (hg : s'.gens = s.gens) (ht : s.toks ≤ s'.toks) : Rel C fs env f σ s' := by
  refine R.outside hI (fun _ _ _ => hc) hb hf (fun q => ?_) (fun x c hx q => ?_) hk (funFrames_of' (fun b o₁ e hF' => ?_) R.frs) ho hg ht
  · obtain ⟨m, ⟨o₁, es, ep, e, hd, r⟩, hm⟩ := R.ns
    rw [← q, hI] at e; cases e; rw [hd] at hD; cases hD
  · obtain ⟨v, o₁, e, hd⟩ := R.call x c hx
    rw [← q, hI] at e; cases e; exact hcl _ hd
  · by_cases q : b = I
    · subst q; rw [hI] at e; cases e; rw [hF] at hF'; cases hF'
    · exact ⟨o₁, hk _ _ q e, rfl⟩

theorem Ext.other {I : Addr} {f₀ : Nat → Addr} {σ₀ : St} (E : Ext env f₀ σ₀ s₀ f σ s) (hI : s₀.heap.get? I = none) (hk : ∀ b o, b ≠ I → s.heap.get? b = some o → s'.heap.get? b = some o) (hs : s.heap.objs.size ≤ s'.heap.objs.size) : Ext env f₀ σ₀ s₀ f σ s' where
  le := E.le
  agree := E.agree
  new := E.new
  keep b o e h := by
    obtain ⟨o', e', k⟩ := E.keep b o e h
    exact ⟨o', hk _ _ (fun q => by rw [q, hI] at e; cases e) e', k⟩
  grow b o e := by
    obtain ⟨o', e', r⟩ := E.grow b o e
    exact ⟨o', hk _ _ (fun q => by rw [q, hI] at e; cases e) e', r⟩
  size := Nat.le_trans E.size hs

/-- an iterator over fixed items -/
def plainIter : Value → Bool
  | .type n => !(["enumerate", "zip", "dict_itemiterator", "dict_reverseitemiterator", "odict_iterator", "itertools.zip_longest", "itertools.pairwise"].contains n)
  | _ => true
theorem letOwned_plain {M : Model} {A : Around} {E : Value → Shared → Prop} {s : Shared} {target : Expr} {I : Addr} {v : Value} {o : Obj} {Q : Unit → Shared → Prop} (ho : s.heap.get? I = some o) (hp : plainIter o.cls = true) (h : Q () s) :
    wpAny M A (letOwnedTupleGo target (.ref I) v) Q E s := by
  have key : ∀ a, wpAny M A (load I >>= fun o => (match o.cls, o.data with
      | .type n, .fields vs =>
        if (["enumerate", "zip", "dict_itemiterator", "dict_reverseitemiterator", "odict_iterator", "itertools.zip_longest", "itertools.pairwise"].contains n && vs[0]? == some (rawInt a)) = true then
          (rule "for.unpacks-the-owned-tuple" >>= fun _ => updateField I 0 .none)
        else pure ()
      | _, _ => pure () : Sem Unit)) Q E s := by
    intro a
    refine wpAny_bind (wpAny_load ho ?_)
    obtain ⟨c, d, dt, sl⟩ := o
    cases c <;> cases dt <;> first
      | exact wpAny_pure h
      | (rename_i n vs
         show wpAny M A (if (_ && _) = true then _ else _) Q E s
         have hq : (["enumerate", "zip", "dict_itemiterator", "dict_reverseitemiterator", "odict_iterator", "itertools.zip_longest", "itertools.pairwise"].contains n) = false := by
           have := hp; unfold plainIter at this; simpa using this
         rw [hq]
         exact wpAny_pure h)
  unfold letOwnedTupleGo
  cases target <;> first
    | exact wpAny_pure h
    | (cases v <;> first
        | exact wpAny_pure h
        | exact key _)

structure IterSpec (C : Cx) (lv : Lv) (f₁ : Nat → Addr) (n₁ : Nat) (I : Addr) (l : List PV) (ok : St → Prop) (at_ : Nat → Heap → Prop) : Prop where
  stable : ∀ k h h', at_ k h → (∀ o, h.get? I = some o → h'.get? I = some o) → at_ k h'
  obj : ∀ k h, at_ k h → ∃ o, h.get? I = some o ∧ o.cls ≠ .type "tuple" ∧ isF o.data = true ∧ plainIter o.cls = true
  self : ∀ (A : Around) (s : Shared) (k : Nat) (Q : Value → Shared → Prop) (E : Value → Shared → Prop), OkA lv A → at_ k s.heap → Q (.ref I) s → wpAny C.M A (pyIter (.ref I)) Q E s
  next : ∀ (env : Env) (A : Around) (f : Nat → Addr) (σ : St) (s : Shared) (k : Nat) (p : PV) (Q : Option Value → Shared → Prop) (E : Value → Shared → Prop), OkA lv A → Rel C lv.fs env f σ s → (∀ j, j < n₁ → j < σ.n ∧ f j = f₁ j) → at_ k s.heap → ok σ → l[k]? = some p →
    (∀ v s', at_ (k + 1) s'.heap → Rep f σ.n s'.heap v p → (∀ b o, b ≠ I → s.heap.get? b = some o → s'.heap.get? b = some o) → s.heap.objs.size ≤ s'.heap.objs.size → s'.os = s.os → s'.gens = s.gens → s.toks ≤ s'.toks → Q (some v) s') → wpAny C.M A (pyNext (.ref I)) Q E s
  stop : ∀ (env : Env) (A : Around) (f : Nat → Addr) (σ : St) (s : Shared) (Q : Option Value → Shared → Prop) (E : Value → Shared → Prop), OkA lv A → lv.hn = true → Rel C lv.fs env f σ s → (∀ j, j < n₁ → j < σ.n ∧ f j = f₁ j) → at_ l.length s.heap → ok σ →
    (∀ s', (∀ b o, b ≠ I → s.heap.get? b = some o → s'.heap.get? b = some o) → s.heap.objs.size ≤ s'.heap.objs.size → s'.os = s.os → s'.gens = s.gens → s.toks ≤ s'.toks → Q none s') → wpAny C.M A (pyNext (.ref I)) Q E s

/-- what the loop's body is to do with one item -/
def AAssign (C : Cx) (lv : Lv) (env : Env) (target : Expr) (p : PV) (σ : St) (Q : St → Prop) (X : String → List PV → St → Prop) : Prop :=
  Op1 C lv env repU (fun v => assign target env v) p σ (fun _ σ' => Q σ') X

theorem a_name {x : Str} {pos : Pos} {p : PV} {Q : St → Prop} (he : EnvOk env) (hx : env.kindOf x = some .local ∨ env.kindOf x = some .cell) (h : Q (σ.set x p)) : AAssign C lv env (.Name x pos) p σ Q X :=
  fun A f s v hA R hv => wpAny_assign_Name (R.store he.kind hv hx fun s' R' E' => ⟨(), _, f, h, trivial, R', E'⟩)

/-- PostX survives the two -/
def HeldX (C : Cx) (lv : Lv) (env : Env) (X : String → List PV → St → Prop) (f : Nat → Addr) (σ : St) (s : Shared) (e : Value) (s' : Shared) : Prop :=
  ∃ cls args σ' f', X cls args σ' ∧ Flight C env f' σ'.n s.heap s'.heap e cls args ∧ (∃ a oe fv T, e = .ref a ∧ s'.heap.get? a = some oe ∧ oe.data = .fields fv ∧ fv[1]? = some (.ref T)) ∧ Rel C lv.fs env f' σ' s' ∧ Ext env f σ s f' σ' s'

theorem noted_of {A : Around} {e : Value} (hX : ∀ c a τ, X c a τ → False) (h : PostX C lv.fs env X f σ s e s') : notedBy C.M A env (fun e s' => HeldX C lv env X f σ s e s') e s' := by
  obtain ⟨cls, args, σ', f', hx, hfl, R, E⟩ := h
  exact (hX _ _ _ hx).elim
theorem came_of {A : Around} {e : Value} (hX : ∀ c a τ, X c a τ → False) (h : HeldX C lv env X f σ s e s') : cameBackBy C.M A env (fun e s' => PostX C lv.fs env X f σ s e s') e s' := by
  obtain ⟨cls, args, σ', f', hx, hfl, hn, R, E⟩ := h
  exact (hX _ _ _ hx).elim

theorem letOwned (t : Expr) (it v : Value) : True := trivial

/-- the loop over an iterator -/
theorem for_go {target : Expr} {body orelse : List Stmt} {I : Addr} {l : List PV} {ok : St → Prop} {at_ : Nat → Heap → Prop} {Q : PFlow → St → Prop} {A : Around} (J : Nat → St → Prop) (hX : ∀ c a τ, X c a τ → False) (hA : OkA lv A) (hn : lv.hn = true) (hF : FrameOk lv env) (W : IterSpec C lv f σ.n I l ok at_)
    (hJ : ∀ k σ, J k σ → ok σ)
    (turn : ∀ k p σ₁, l[k]? = some p → J k σ₁ → AAssign C lv env target p σ₁ (fun σ₂ => ASs C lv env body σ₂ (fun fl σ₃ => match fl with
      | .next => J (k + 1) σ₃ | .cont => J (k + 1) σ₃ | .brk => Q .next σ₃ | .ret v => Q (.ret v) σ₃) X) X)
    (done : ∀ σ₁, J l.length σ₁ → ASs C lv env orelse σ₁ Q X)
    (R : Rel C lv.fs env f σ s) {f₀ : Nat → Addr} {σ₀ : St} (E : Ext env f₀ σ₀ s₀ f σ s) (hI₀ : s₀.heap.get? I = none) (hIb : C.base.get? I = none) (hout : Out env f σ.n I) (hI0 : ∀ i, i < σ.n → f i ≠ I) (hat : at_ 0 s.heap) (h0 : J 0 σ) :
    codeAny C.M A (.forLoop target (.ref I) body orelse env) (fun r s' => match r with | .ok fl => Post C lv.fs env RepF Q f₀ σ₀ s₀ fl s' | .error e => cameBackBy C.M A env (fun e s' => PostX C lv.fs env X f₀ σ₀ s₀ e s') e s') s := by
  refine codeAny_mono (R := fun r s' => match r with | .ok fl => Post C lv.fs env RepF Q f₀ σ₀ s₀ fl s' | .error e => HeldX C lv env X f₀ σ₀ s₀ e s') ?_ fun r s' h => by
    cases r with
    | ok _ => exact h
    | error e => exact came_of hX h
  generalize hf₁ : f = f₁ at W
  generalize hn₁ : σ.n = n₁ at W
  refine codeAny_forLoop_any (fun n s => ∃ k σ f, n + k = l.length + 1 ∧ k ≤ l.length ∧ J k σ ∧ Rel C lv.fs env f σ s ∧ Ext env f₀ σ₀ s₀ f σ s ∧ at_ k s.heap ∧ (∀ i, i < σ.n → f i ≠ I) ∧ (∀ j, j < n₁ → j < σ.n ∧ f j = f₁ j)) ?_ (l.length + 1) ⟨0, σ, f, by omega, Nat.zero_le _, h0, R, E, hat, hI0, by subst hn₁ hf₁; exact fun j hj => ⟨hj, rfl⟩⟩
  rintro n s ⟨k, σ, f, hnk, hk, hj, R, E, hat, hIf, hag⟩
  obtain ⟨oI, hoI, hcI, hFI, _⟩ := W.obj k _ hat
  have hDI : isD oI.data = false := by cases h : oI.data <;> rw [h] at hFI <;> first | rfl | cases hFI
  have hCI : ∀ v, oI.data ≠ .cell v := fun v q => by rw [q] at hFI; cases hFI
  have oI_out : Out env f σ.n I := ⟨fun i _ hi => (hIf i hi).symm, hout.l, hout.c⟩
  have xE : ∀ e s', PostX C lv.fs env X f₀ σ₀ s₀ e s' → notedBy C.M A env (fun e s' => HeldX C lv env X f₀ σ₀ s₀ e s') e s' := fun e s' h => noted_of hX h
  by_cases hlt : k < l.length
  · obtain ⟨p, hp⟩ : ∃ p, l[k]? = some p := ⟨l[k], List.getElem?_eq_getElem hlt⟩
    refine W.next env A f σ s k p _ _ hA R hag hat (hJ k σ hj) hp fun v s' hat' hv hkp hsz hos hgs htk => ?_
    obtain ⟨oI', hoI', _, hFI', hPI'⟩ := W.obj _ _ hat'
    have R' := R.other (s' := s') hoI hcI hDI hCI hFI hIb hIf hkp hos hgs htk
    have E' := E.other hI₀ hkp hsz
    have ex : ∀ {f₂ : Nat → Addr} {σ₂ : St} {s₂ : Shared}, Ext env f σ s' f₂ σ₂ s₂ → at_ (k + 1) s₂.heap ∧ (∀ i, i < σ₂.n → f₂ i ≠ I) ∧ (∀ j, j < n₁ → j < σ₂.n ∧ f₂ j = f₁ j) := fun {f₂ σ₂ s₂} E₂ => by
      have oo : Out env f σ.n I := oI_out
      obtain ⟨o₂, e₂, k₂⟩ := E₂.keep I oI' hoI' oo
      have hD' : isD oI'.data = false := by cases h : oI'.data <;> rw [h] at hFI' <;> first | rfl | cases hFI'
      refine ⟨W.stable _ _ _ hat' (fun o e => ?_), fun i hi => ?_, fun j hj => ⟨Nat.lt_of_lt_of_le (hag j hj).1 E₂.le, (E₂.agree j (hag j hj).1).trans (hag j hj).2⟩⟩
      · rw [hoI'] at e; cases e; rw [e₂, k₂.eq hD']
      · rcases Nat.lt_or_ge i σ.n with h | h
        · rw [E₂.agree i h]; exact hIf i h
        · exact Nat.ne_of_gt (Nat.lt_of_lt_of_le (Heap.lt_size hoI') (E₂.new i h hi))
    refine letOwned_plain hoI' hPI' ?_
    refine wpAny_mono (turn k p σ hp hj A f s' v hA R' hv) (fun _ s₂ ⟨_, σ₂, f₂, h₂, _, R₂, E₂⟩ => ?_) fun e s₂ h => xE e s₂ (PostX.trans E' h)
    refine h₂.use hA R₂ (fun fl pfl σ₃ f₃ s₃ h₃ hr R₃ E₃ => ?_) fun e s₃ h => xE e s₃ (PostX.trans (E'.trans E₂) h)
    have E₄ := E₂.trans E₃
    obtain ⟨a3, b3, c3⟩ := ex E₄
    cases hr with
    | next => exact ⟨n - 1, by omega, k + 1, σ₃, f₃, by omega, hlt, h₃, R₃, E'.trans E₄, a3, b3, c3⟩
    | cont => exact ⟨n - 1, by omega, k + 1, σ₃, f₃, by omega, hlt, h₃, R₃, E'.trans E₄, a3, b3, c3⟩
    | brk => exact ⟨.next, σ₃, f₃, h₃, .next, R₃, E'.trans E₄⟩
    | ret hv => exact ⟨_, σ₃, f₃, h₃, .ret hv, R₃, E'.trans E₄⟩
  · obtain rfl : k = l.length := by omega
    refine W.stop env A f σ s _ _ hA hn R hag hat (hJ _ σ hj) fun s' hkp hsz hos hgs htk => ?_
    have R' := R.other (s' := s') hoI hcI hDI hCI hFI hIb hIf hkp hos hgs htk
    have E' := E.other hI₀ hkp hsz
    exact (done σ hj).use hA R' (fun fl pfl σ₃ f₃ s₃ h₃ hr R₃ E₃ => ⟨pfl, σ₃, f₃, h₃, hr, R₃, E'.trans E₃⟩) fun e s₃ h => xE e s₃ (PostX.trans E' h)

/-- what can be walked over: pyIter makes an iterator for these items -/
def Iterable (C : Cx) (lv : Lv) (env : Env) (p : PV) (l : List PV) (ok : St → Prop) (σ : St) : Prop :=
  ∀ (A : Around) (f : Nat → Addr) (s : Shared) (v : Value) (Q : Value → Shared → Prop) (E : Value → Shared → Prop), OkA lv A → Rel C lv.fs env f σ s → Rep f σ.n s.heap v p →
    (∀ I at_ s', IterSpec C lv f σ.n I l ok at_ → at_ 0 s'.heap → s.heap.objs.size ≤ I → (∀ b o, s.heap.get? b = some o → s'.heap.get? b = some o) → s.heap.objs.size ≤ s'.heap.objs.size → s'.os = s.os → s'.gens = s.gens → s.toks ≤ s'.toks → Q (.ref I) s') → wpAny C.M A (pyIter v) Q E s

theorem s_for {target iter : Expr} {body orelse : List Stmt} {pos : Pos} {Q : PFlow → St → Prop} (hn : lv.hn = true) (hF : FrameOk lv env)
    (h : AE C lv env iter σ (fun p σ₁ => ∃ (l : List PV) (ok : St → Prop) (J : Nat → St → Prop), Iterable C lv env p l ok σ₁ ∧ J 0 σ₁ ∧ (∀ k σ, J k σ → ok σ) ∧
      (∀ k p σ₁, l[k]? = some p → J k σ₁ → AAssign C lv env target p σ₁ (fun σ₂ => ASs C lv env body σ₂ (fun fl σ₃ => match fl with
        | .next => J (k + 1) σ₃ | .cont => J (k + 1) σ₃ | .brk => Q .next σ₃ | .ret v => Q (.ret v) σ₃) X) X) ∧
      (∀ σ₁, J l.length σ₁ → ASs C lv env orelse σ₁ Q X)) X)
    (hs : ∀ x, foldedSetIterable iter env x = pure x := by intro _; rfl) (hX : ∀ c a τ, X c a τ → False := by intro _ _ _ h; exact h) :
    AS C lv env (.For target iter body orelse pos) σ Q X := by
  intro A f s hA R
  refine wpAny_For (h.use hA R (fun v p σ₁ f₁ s₁ h₁ hv R₁ E₁ => ?_) fun _ _ x => x) hs
  obtain ⟨l, ok, J, hit, h0, hJ, turn, done⟩ := h₁
  refine hit A f₁ s₁ v _ _ hA R₁ hv fun I at_ s' W hat hI hk hsz hos hgs htk => ?_
  have R' := R₁.keeps hk hos hgs htk
  have E' : Ext env f₁ σ₁ s₁ f₁ σ₁ s' := .keeps hk hsz
  have hIn : ∀ b o, s₁.heap.get? b = some o → b ≠ I := fun b o e => Nat.ne_of_lt (Nat.lt_of_lt_of_le (Heap.lt_size e) hI)
  have hnone : s₁.heap.get? I = none := by
    cases hq : s₁.heap.get? I with
    | none => rfl
    | some o => exact absurd rfl (hIn _ _ hq)
  have hIf : ∀ i, i < σ₁.n → f₁ i ≠ I := fun i hi => let ⟨_, e, _⟩ := R₁.kind i hi; hIn _ _ e
  refine for_go J hX hA hn hF W hJ turn done R' (E₁.trans E') (E₁.noneOf I hnone) ?_ ⟨fun i _ hi => (hIf i hi).symm, ?_, ?_⟩ hIf hat h0
  · cases hq : C.base.get? I with
    | none => rfl
    | some o => exact absurd rfl (hIn _ _ (R₁.base _ _ hq))
  · obtain ⟨m, ⟨o, _, _, e, _⟩, _⟩ := R₁.ns
    exact (hIn _ _ e).symm
  · intro x c hc
    obtain ⟨v, o, e, _⟩ := R₁.call x c hc
    exact (hIn _ _ e).symm
end
end Mine

open PySem PySem.W PyProof.Rows PySem.Calls
set_option Elab.async false
set_option maxRecDepth 100000
set_option linter.unusedVariables false
namespace Mine

/-! ## Comprehensions -/
theorem closure_of (env : Env) : ∀ (names : List (Str × NameKind)), (∀ x, (x, NameKind.free) ∈ names → ∃ c, env.cells.lookup x = some c) →
    ∀ acc : List (Str × Addr), (∀ x c, acc.lookup x = some c → env.cells.lookup x = some c) →
    ∃ cl, (forIn names acc (fun (p : Str × NameKind) (cs : List (Str × Addr)) => if (p.2 == NameKind.free) = true then (do let y ← cellOf env p.1; pure (ForInStep.yield ((p.1, y) :: cs))) else pure (ForInStep.yield cs)) : Sem (List (Str × Addr))) = pure cl ∧
      (∀ x c, cl.lookup x = some c → env.cells.lookup x = some c) ∧ (∀ x, (x, NameKind.free) ∈ names ∨ (∃ c, acc.lookup x = some c) → ∃ c, cl.lookup x = some c)
  | [], _, acc, ha => ⟨acc, rfl, ha, fun x h => h.elim (fun q => nomatch q) id⟩
  | (n, k) :: r, hn, acc, ha => by
    have hr : ∀ x, (x, NameKind.free) ∈ r → ∃ c, env.cells.lookup x = some c := fun x hx => hn x (List.mem_cons_of_mem _ hx)
    by_cases hk : (k == NameKind.free) = true
    · obtain rfl : k = .free := by simpa using hk
      obtain ⟨c, hc⟩ := hn n List.mem_cons_self
      have e : cellOf env n = pure c := by unfold cellOf; rw [hc]
      obtain ⟨cl, h1, h2, h3⟩ := closure_of env r hr ((n, c) :: acc) (fun x d hx => by
        rw [List.lookup_cons] at hx
        by_cases q : (x == n) = true
        · simp only [q] at hx; cases hx; rw [beq_iff_eq.mp q]; exact hc
        · simp only [q] at hx; exact ha x d hx)
      refine ⟨cl, ?_, h2, fun x hx => h3 x ?_⟩
      · rw [List.forIn_cons]
        simp only [hk, if_true, e]
        exact h1
      · rcases hx with hx | ⟨d, hd⟩
        · rcases List.mem_cons.mp hx with q | q
          · cases q; exact .inr ⟨c, by simp⟩
          · exact .inl q
        · by_cases q : (x == n) = true
          · exact .inr ⟨c, by simp [List.lookup_cons, q]⟩
          · exact .inr ⟨d, by simp only [List.lookup_cons, q]; exact hd⟩
    · obtain ⟨cl, h1, h2, h3⟩ := closure_of env r hr acc ha
      refine ⟨cl, ?_, h2, fun x hx => h3 x ?_⟩
      · rw [List.forIn_cons]
        simp only [hk]
        exact h1
      · rcases hx with hx | hx
        · rcases List.mem_cons.mp hx with q | q
          · cases q; exact absurd rfl hk
          · exact .inl q
        · exact .inr hx

theorem closureFor_of {env : Env} {scope : Scope} (h : ∀ x, (x, NameKind.free) ∈ scope.names → ∃ c, env.cells.lookup x = some c) :
    ∃ cl, closureFor scope env = pure cl ∧ (∀ x c, cl.lookup x = some c → env.cells.lookup x = some c) ∧ (∀ x, (x, NameKind.free) ∈ scope.names → ∃ c, cl.lookup x = some c) := by
  obtain ⟨cl, h1, h2, h3⟩ := closure_of env scope.names h [] (fun x c hx => by cases hx)
  refine ⟨cl, ?_, h2, fun x hx => h3 x (.inl hx)⟩
  unfold closureFor
  refine Eq.trans ?_ h1
  simp only [bind_pure]

structure Sc (env : Env) (names : List (Str × NameKind)) : Prop where
  ok : EnvOk env
  loc : ∀ x, names.lookup x = some .local → env.kindOf x = some .local
  cel : ∀ x, names.lookup x = some .cell → env.kindOf x = some .cell
  fre : ∀ x, names.lookup x = some .free → env.kindOf x = some .cell ∨ env.kindOf x = some .free
  glo : ∀ x, names.lookup x = some .globalImplicit → env.kindOf x = some .globalImplicit

theorem Sc.of {env : Env} {sc : Scope} (h : env.scope = sc) (ok : EnvOk env) : Sc env sc.names := by
  have e : ∀ x, env.kindOf x = sc.names.lookup x := fun x => by show env.scope.names.lookup x = _; rw [h]
  exact ⟨ok, fun x h => (e x).trans h, fun x h => (e x).trans h, fun x h => .inr ((e x).trans h), fun x h => (e x).trans h⟩

theorem lookup_relabel {env : Env} : ∀ (names : List (Str × NameKind)) (x : Str),
    (names.map fun (n, k) => if (k == NameKind.free && env.scope.kind == .function && env.kindOf n == some .cell) then (n, NameKind.cell) else (n, k)).lookup x =
      (names.lookup x).map fun k => if (k == NameKind.free && env.scope.kind == .function && env.kindOf x == some .cell) then NameKind.cell else k
  | [], _ => rfl
  | (n, k) :: r, x => by
    have ih := lookup_relabel (env := env) r x
    show List.lookup x ((if (k == NameKind.free && env.scope.kind == .function && env.kindOf n == some .cell) = true then (n, NameKind.cell) else (n, k)) :: _) = _
    cases hx : x == n with
    | true =>
      obtain rfl : x = n := beq_iff_eq.mp hx
      by_cases hc : (k == NameKind.free && env.scope.kind == .function && env.kindOf x == some .cell) = true
      · rw [if_pos hc]; simp only [List.lookup_cons, hx, Option.map_some]; rw [if_pos hc]
      · rw [if_neg hc]; simp only [List.lookup_cons, hx, Option.map_some]; rw [if_neg hc]
    | false =>
      by_cases hc : (k == NameKind.free && env.scope.kind == .function && env.kindOf n == some .cell) = true
      · rw [if_pos hc]; simp only [List.lookup_cons, hx]; exact ih
      · rw [if_neg hc]; simp only [List.lookup_cons, hx]; exact ih

theorem Sc.comp {env : Env} {scope : Scope} {C : Addr} {cl : List (Str × Addr)} (ok : EnvOk env) (hk : scope.kind = .function) : Sc (compEnvC scope cl C env) scope.names := by
  have e : ∀ x, (compEnvC scope cl C env).kindOf x = (scope.names.lookup x).map fun k => if (k == NameKind.free && env.scope.kind == .function && env.kindOf x == some .cell) then NameKind.cell else k := fun x => lookup_relabel scope.names x
  refine ⟨⟨hk, ok.glob, ok.bi⟩, fun x h => by rw [e, h]; rfl, fun x h => by rw [e, h]; rfl, fun x h => ?_, fun x h => by rw [e, h]; rfl⟩
  rw [e, h]
  simp only [Option.map_some]
  split
  · exact .inl rfl
  · exact .inr rfl

section
variable {C : Cx} {lv : Lv} {env cenv : Env} {fs : List Env} {σ σ₁ τ : St} {f f' : Nat → Addr} {s s₁ s' s'' : Shared} {X : String → List PV → St → Prop}

/-- out of a comprehension's block -/
theorem Rel.backC (R : Rel C fs env f σ s) (hk : ∀ b o, s.heap.get? b = some o → s₁.heap.get? b = some o) (hsz : s.heap.objs.size ≤ s₁.heap.objs.size) (hL : s.heap.objs.size ≤ cenv.locals) (hcl : ∀ x c, cenv.cells.lookup x = some c → env.cells.lookup x = some c)
    (hn : σ₁.n = σ.n) (R' : Rel C fs cenv f' τ s') (E : Ext cenv f σ₁ s₁ f' τ s')
    (hloc : ∀ x c, cenv.cells.lookup x = some c → (cenv.kindOf x = some .cell ∨ cenv.kindOf x = some .free) ∧ τ.loc x = σ.loc x) (hsb : Heap.SameBut cenv.locals s'.heap s''.heap)
    (ho : s''.os = s'.os) (hg : s''.gens = s'.gens) (ht : s'.toks ≤ s''.toks) (hp : Nat → Option AO) (hsub : ∀ i o, hp i = some o → τ.hp i = some o) :
    Rel C fs env f' ⟨τ.n, hp, σ.loc⟩ s'' ∧ Ext env f σ s f' ⟨τ.n, hp, σ.loc⟩ s'' := by
  have hle : σ.n ≤ τ.n := hn ▸ E.le
  have hag : ∀ i, i < σ.n → f' i = f i := fun i hi => E.agree i (hn ▸ hi)
  have hnL : ∀ b o, s.heap.get? b = some o → b ≠ cenv.locals := fun b o e => Nat.ne_of_lt (Nat.lt_of_lt_of_le (Heap.lt_size e) hL)
  have hkp : ∀ b o, s.heap.get? b = some o → (∀ i, 0 < i → i < σ.n → b ≠ f i) → (∀ x c, cenv.cells.lookup x = some c → b ≠ c) → ∃ o', s''.heap.get? b = some o' ∧ Kept o o' := fun b o e h h2 => by
    obtain ⟨o', e', k'⟩ := E.keep b o (hk b o e) ⟨by rw [hn]; exact h, hnL b o e, h2⟩
    exact ⟨o', (hsb.2 b (hnL b o e)).trans e', k'⟩
  have hnew : ∀ i, σ.n ≤ i → i < τ.n → s.heap.objs.size ≤ f' i := fun i h1 h2 => Nat.le_trans hsz (E.new i (hn ▸ h1) h2)
  have hkp' : ∀ b o, b ≠ cenv.locals → s'.heap.get? b = some o → s''.heap.get? b = some o := fun b o q e => (hsb.2 b q).trans e
  obtain ⟨mC, oC, esC, epC, eC, dC, rC⟩ := R'.ns |>.imp fun m h => h.1
  have ht' : ∀ a vs, s'.heap.IsTuple a vs → s''.heap.IsTuple a vs := fun a vs ⟨o, e, c, k, d⟩ => ⟨o, hkp' _ _ (fun q => by rw [q, eC] at e; cases e; rw [d] at dC; cases dC) e, c, k, d⟩
  have htup : ∀ a vs, s.heap.IsTuple a vs → s''.heap.IsTuple a vs := fun a vs x => by
    have hout := R.tupOut x
    obtain ⟨o, ho, hc, k, hd⟩ := x
    obtain ⟨o', e, q⟩ := hkp a o ho hout.o fun x c hx => hout.c x c (hcl x c hx)
    exact ⟨_, e, q.cls.trans hc, k, q.data.trans hd⟩
  have hgrow' : ∀ b o, s.heap.get? b = some o → ∃ o', s''.heap.get? b = some o' ∧ isF o'.data = isF o.data := fun b o e => by
    obtain ⟨o', e', d', _⟩ := E.grow b o (hk b o e)
    exact ⟨o', hkp' _ _ (hnL b o e) e', d'⟩
  refine ⟨⟨fun b o e => hkp' _ _ (fun q => by rw [q, R'.newL] at e; cases e) (R'.base b o e), R'.inj, fun i hi => let ⟨o, e, c⟩ := R'.kind i hi; ⟨o, hkp' _ _ (R'.sepL i hi) e, c⟩, R'.fresh, fun i o e => ?_, ?_, ?_, ?_, R.cinj, R.newL, R.newC, ?_, ?_, funFrames_of hgrow' R.frs, ho.trans R'.os, hg.trans R'.gens, Nat.lt_of_lt_of_le R'.tok ht⟩,
    ⟨hle, hag, hnew, fun b o e h => hkp b o e h.o fun x c hx => h.c x c (hcl x c hx), ?_, Nat.le_trans (Nat.le_trans hsz E.size) (Nat.le_of_eq hsb.1.symm)⟩⟩
  · obtain ⟨h1, h2⟩ := R'.objs i o (hsub i o e)
    exact ⟨h1, ORep.mono (fun _ _ => rfl) (Nat.le_refl _) ht' (fun o e => ⟨o, hkp' _ _ (R'.sepL i h1) e, .refl o⟩) h2⟩
  · obtain ⟨m, ⟨o, es, ep, ho', hd, hr⟩, hm⟩ := R.ns
    obtain ⟨o', e, q⟩ := hkp _ o ho' (fun i _ hi => (R.sepL i hi).symm) (fun x c hx q => by
      obtain ⟨v, o₁, e₁, d₁⟩ := R.call x c (hcl x c hx)
      rw [← q, ho'] at e₁; cases e₁; rw [hd] at d₁; cases d₁)
    exact ⟨m, ⟨_, es, ep, e, q.data.trans hd, hr⟩, fun x hx => RepO.mono hag hle htup (hm x hx)⟩
  · intro x hx
    obtain ⟨c, v, h1, ⟨o, ho', hd⟩, h3⟩ := R.cs x hx
    by_cases q : ∃ y, cenv.cells.lookup y = some c
    · obtain ⟨y, hy⟩ := q
      obtain rfl : y = x := R.cinj y x c (hcl y c hy) h1
      obtain ⟨hkd, hlo⟩ := hloc y c hy
      obtain ⟨c', v', k1, ⟨o₁, e₁, d₁⟩, k3⟩ := R'.cs y hkd
      rw [hy] at k1; cases k1
      exact ⟨c, v', h1, ⟨o₁, hkp' _ _ (hnL _ _ ho') e₁, d₁⟩, by rw [← hlo]; exact RepO.mono (fun _ _ => rfl) (Nat.le_refl _) ht' k3⟩
    · obtain ⟨o', e, k'⟩ := hkp _ o ho' (fun i _ hi => (R.sepC i hi x c h1).symm) (fun y d hy e => q ⟨y, e ▸ hy⟩)
      exact ⟨c, v, h1, ⟨_, e, k'.data.trans hd⟩, RepO.mono hag hle htup h3⟩
  · intro x c hc
    obtain ⟨v, o, ho', hd⟩ := R.call x c hc
    by_cases q : ∃ y, cenv.cells.lookup y = some c
    · obtain ⟨y, hy⟩ := q
      obtain ⟨v', o₁, e₁, d₁⟩ := R'.call y c hy
      exact ⟨v', o₁, hkp' _ _ (hnL _ _ ho') e₁, d₁⟩
    · obtain ⟨o', e, k'⟩ := hkp _ o ho' (fun i _ hi => (R.sepC i hi x c hc).symm) (fun y d hy e => q ⟨y, e ▸ hy⟩)
      exact ⟨v, _, e, k'.data.trans hd⟩
  · intro i hi
    rcases Nat.lt_or_ge i σ.n with h | h
    · rw [hag i h]; exact R.sepL i h
    · obtain ⟨m, ⟨o, _, _, ho', _⟩, _⟩ := R.ns
      exact Nat.ne_of_gt (Nat.lt_of_lt_of_le (Heap.lt_size ho') (hnew i h hi))
  · intro i hi x c hc
    rcases Nat.lt_or_ge i σ.n with h | h
    · rw [hag i h]; exact R.sepC i h x c hc
    · obtain ⟨v, o, ho', _⟩ := R.call x c hc
      exact Nat.ne_of_gt (Nat.lt_of_lt_of_le (Heap.lt_size ho') (hnew i h hi))
  · intro b o e
    obtain ⟨o', e', d', c'⟩ := E.grow b o (hk b o e)
    exact ⟨o', hkp' _ _ (hnL b o e) e', d', fun _ h2 => c' (hnL b o e) fun x c hx => h2 x c (hcl x c hx)⟩

def ATests (C : Cx) (lv : Lv) (env : Env) (ifs : List Expr) (σ : St) (Q : Bool → St → Prop) (X : String → List PV → St → Prop) : Prop :=
  AW C lv env repB (forIn ifs true fun c r => if r = true then do let ok ← isTrue c env (eval c env); pure (ForInStep.yield ok) else pure (ForInStep.yield r)) σ Q X
theorem at_nil {Q : Bool → St → Prop} (h : Q true σ) : ATests C lv env [] σ Q X := fun A f s hA R => wpAny_tests_nil (Post.now R h rfl)
theorem at_one {c : Expr} {Q : Bool → St → Prop} (h : AT C lv env c σ Q X) : ATests C lv env [c] σ Q X := fun A f s hA R => wpAny_tests_one (h A f s hA R)


/-- one turn of a comprehension that fills a list -/
def CTurn (C : Cx) (lv : Lv) (cenv : Env) (target elt : Expr) (ifs : List Expr) (a : Nat) (J : Nat → List PV → St → Prop) (k : Nat) (acc : List PV) (p : PV) (τ : St) : Prop :=
  AAssign C lv cenv target p τ (fun τ₁ => ATests C lv cenv ifs τ₁ (fun b τ₂ => (b = true → AE C lv cenv elt τ₂ (fun e τ₃ => τ₃.hp a = some (.list acc) ∧ acc.length < 16777216 ∧ J (k + 1) (acc ++ [e]) (τ₃.upd a (.list (acc ++ [e])))) NoX) ∧ (b = false → J (k + 1) acc τ₂)) NoX) NoX

theorem codeAny_compLoop_any {prog : Program} {w : World} {A : Around} {s : Shared} {R : Result → Shared → Prop} {elt target iter : Expr} {ifs : List Expr} {scope : Scope} {pos : Pos} {it acc : Value} {env : Env} (I : Nat → Shared → Prop)
    (turn : ∀ n s, I n s → wpAny (model prog w) A (pyNext it) (fun r s₁ => match r with
      | none => R (.ok .next) s₁
      | some v => wpAny (model prog w) A (letOwnedTupleGo target it v) (fun _ s₀ => wpAny (model prog w) A (assign target env v) (fun _ s₂ =>
          wpAny (model prog w) A (forIn ifs true fun c r => if r = true then do let ok ← isTrue c env (eval c env); pure (ForInStep.yield ok) else pure (ForInStep.yield r)) (fun ok s₃ =>
            if ok = true then wpAny (model prog w) A (eval elt env) (fun x s₄ =>
              wpAny (model prog w) A (call (.builtin "list.append") [acc, x]) (fun _ s₅ => ∃ m, m < n ∧ I m s₅) (notedBy (model prog w) A env fun e s' => R (.error e) s') s₄) (notedBy (model prog w) A env fun e s' => R (.error e) s') s₃
            else ∃ m, m < n ∧ I m s₃) (notedBy (model prog w) A env fun e s' => R (.error e) s') s₂) (notedBy (model prog w) A env fun e s' => R (.error e) s') s₀) (notedBy (model prog w) A env fun e s' => R (.error e) s') s₁) (notedBy (model prog w) A env fun e s' => R (.error e) s') s)
    (n : Nat) (h : I n s) : codeAny (model prog w) A (.compLoop (.ListComp elt [⟨target, iter, ifs, 0⟩] scope pos) 0 it acc env) R s := by
  refine codeAny_loop rfl I (fun n s hI => ?_) n h
  show wpAny _ A ((compTurn (.ListComp elt [⟨target, iter, ifs, 0⟩] scope pos) 0 it acc env).onRaise (fun x => do noteFrame x env; theTreesLotGoes x)) _ _ s
  refine wpAny_noted ?_
  rw [compTurn_list]
  refine wpAny_bind (wpAny_standAt (wpAny_bind (wpAny_mono (turn n s hI) (fun r s₁ h₁ => ?_) fun _ _ h' => h')))
  cases r with
  | none => exact wpAny_pure h₁
  | some v =>
    refine wpAny_bind (wpAny_mono h₁ (fun _ s₀ h₀ => ?_) fun _ _ h' => h')
    refine wpAny_bind (wpAny_mono h₀ (fun _ s₂ h₂ => wpAny_bind (wpAny_mono h₂ (fun ok s₃ h₃ => ?_) fun _ _ h' => h')) fun _ _ h' => h')
    cases ok with
    | false => exact wpAny_pure ⟨rfl, h₃⟩
    | true => exact wpAny_bind (wpAny_bind (wpAny_mono h₃ (fun x s₄ h₄ => wpAny_bind (wpAny_mono h₄ (fun _ s₅ h₅ => wpAny_pure (wpAny_pure ⟨rfl, h₅⟩)) fun _ _ h' => h')) fun _ _ h' => h'))

theorem comp_loop {target elt iter : Expr} {ifs : List Expr} {scope : Scope} {pos : Pos} {I : Addr} {l : List PV} {ok : St → Prop} {at_ : Nat → Heap → Prop} {A : Around} (J : Nat → List PV → St → Prop) (hA : OkA lv A) (hn : lv.hn = true) {n₁ : Nat} {f₁ : Nat → Addr} (W : IterSpec C lv f₁ n₁ I l ok at_) (hag₀ : ∀ j, j < n₁ → j < τ.n ∧ f j = f₁ j) {a : Nat} (ha0 : 0 < a)
    (hJ : ∀ k acc σ, J k acc σ → ok σ) (turn : ∀ k acc p τ, l[k]? = some p → J k acc τ → CTurn C lv cenv target elt ifs a J k acc p τ)
    (R : Rel C lv.fs cenv f τ s) {f₀ : Nat → Addr} {σ₀ : St} {s₀ : Shared} {acc0 : List PV} (E : Ext cenv f₀ σ₀ s₀ f τ s) (hI₀ : s₀.heap.get? I = none) (hIb : C.base.get? I = none) (hIl : I ≠ cenv.locals) (hIc : ∀ x c, cenv.cells.lookup x = some c → I ≠ c) (hI0 : ∀ i, i < τ.n → f i ≠ I) (hat : at_ 0 s.heap) (h0 : J 0 acc0 τ) (haf : a < τ.n) :
    codeAny C.M A (.compLoop (.ListComp elt [⟨target, iter, ifs, 0⟩] scope pos) 0 (.ref I) (.ref (f a)) cenv) (fun r s' => ∃ acc τ' f', r = .ok .next ∧ J l.length acc τ' ∧ Rel C lv.fs cenv f' τ' s' ∧ Ext cenv f₀ σ₀ s₀ f' τ' s' ∧ f' a = f a ∧ a < τ'.n) s := by
  refine codeAny_compLoop_any (fun n s => ∃ k acc σ f', n + k = l.length + 1 ∧ k ≤ l.length ∧ J k acc σ ∧ Rel C lv.fs cenv f' σ s ∧ Ext cenv f₀ σ₀ s₀ f' σ s ∧ at_ k s.heap ∧ (∀ i, i < σ.n → f' i ≠ I) ∧ f' a = f a ∧ a < σ.n ∧ (∀ j, j < n₁ → j < σ.n ∧ f' j = f₁ j)) ?_ (l.length + 1) ⟨0, acc0, τ, f, by omega, Nat.zero_le _, h0, R, E, hat, hI0, rfl, haf, hag₀⟩
  rintro n s ⟨k, acc, σ, f', hnk, hk, hj, R, E, hat, hIf, hfa, han, hag⟩
  obtain ⟨oI, hoI, hcI, hFI, _⟩ := W.obj k _ hat
  have hDI : isD oI.data = false := by cases h : oI.data <;> rw [h] at hFI <;> first | rfl | cases hFI
  have hCI : ∀ v, oI.data ≠ .cell v := fun v q => by rw [q] at hFI; cases hFI
  have nx : ∀ {R' : Value → Shared → Prop} {σ' : St} {f₁ : Nat → Addr} {s₁ : Shared} (e : Value) (s' : Shared), PostX C lv.fs cenv NoX f₁ σ' s₁ e s' → R' e s' := fun e s' ⟨_, _, _, _, hx, _⟩ => hx.elim
  by_cases hlt : k < l.length
  · obtain ⟨p, hp⟩ : ∃ p, l[k]? = some p := ⟨l[k], List.getElem?_eq_getElem hlt⟩
    refine W.next cenv A f' σ s k p _ _ hA R hag hat (hJ k acc σ hj) hp fun v s' hat' hv hkp hsz hos hgs htk => ?_
    obtain ⟨oI', hoI', _, hFI', hPI'⟩ := W.obj _ _ hat'
    have R' := R.other (s' := s') hoI hcI hDI hCI hFI hIb hIf hkp hos hgs htk
    have E' := E.other hI₀ hkp hsz
    have ex : ∀ {f₂ : Nat → Addr} {σ₂ : St} {s₂ : Shared}, Ext cenv f' σ s' f₂ σ₂ s₂ → at_ (k + 1) s₂.heap ∧ (∀ i, i < σ₂.n → f₂ i ≠ I) ∧ f₂ a = f a ∧ a < σ₂.n ∧ (∀ j, j < n₁ → j < σ₂.n ∧ f₂ j = f₁ j) := fun {f₂ σ₂ s₂} E₂ => by
      obtain ⟨o₂, e₂, k₂⟩ := E₂.keep I oI' hoI' ⟨fun i _ hi => (hIf i hi).symm, hIl, hIc⟩
      have hD' : isD oI'.data = false := by cases h : oI'.data <;> rw [h] at hFI' <;> first | rfl | cases hFI'
      refine ⟨W.stable _ _ _ hat' (fun o e => ?_), fun i hi => ?_, (E₂.agree a han).trans hfa, Nat.lt_of_lt_of_le han E₂.le, fun j hj => ⟨Nat.lt_of_lt_of_le (hag j hj).1 E₂.le, (E₂.agree j (hag j hj).1).trans (hag j hj).2⟩⟩
      · rw [hoI'] at e; cases e; rw [e₂, k₂.eq hD']
      · rcases Nat.lt_or_ge i σ.n with h | h
        · rw [E₂.agree i h]; exact hIf i h
        · exact Nat.ne_of_gt (Nat.lt_of_lt_of_le (Heap.lt_size hoI') (E₂.new i h hi))
    refine letOwned_plain hoI' hPI' ?_
    refine wpAny_mono (turn k acc p σ hp hj A f' s' v hA R' hv) (fun _ s₂ ⟨_, σ₂, f₂, h₂, _, R₂, E₂⟩ => ?_) (fun e s₂ h => nx e s₂ h)
    refine h₂.use hA R₂ (fun b b' σ₃ f₃ s₃ h₃ hb R₃ E₃ => ?_) (fun e s₃ h => nx e s₃ h)
    cases hb
    cases b with
    | false =>
      have E₄ := E₂.trans E₃
      obtain ⟨a3, b3, c3, d3, g3⟩ := ex E₄
      exact ⟨n - 1, by omega, k + 1, acc, σ₃, f₃, by omega, hlt, h₃.2 rfl, R₃, E'.trans E₄, a3, b3, c3, d3, g3⟩
    | true =>
      refine (h₃.1 rfl).use hA R₃ (fun x e σ₄ f₄ s₄ h₄ hx R₄ E₄ => ?_) (fun e s₄ h => nx e s₄ h)
      obtain ⟨hacc, hlen, hj'⟩ := h₄
      have E₅ := (E₂.trans E₃).trans E₄
      obtain ⟨a3, b3, c3, d3, g3⟩ := ex E₅
      obtain ⟨_, vs, m, hget, hvs⟩ := R₄.objs a _ hacc
      rw [← c3]
      have hl := hvs.length
      refine append_at hget (fun h' hsb hget' => ?_) (by rw [List.size_toArray, hl, sizeLine_eq]; omega)
      obtain ⟨R₅, E₆⟩ := R₄.upd (s' := { s₄ with heap := h' }) (ao' := .list (acc ++ [e])) hacc ha0 hget hget' rfl rfl hsb rfl rfl (Nat.le_refl _)
        ⟨vs ++ [x], m + 1, by rw [hget']; simp, by
          have ht : ∀ b ws, s₄.heap.IsTuple b ws → h'.IsTuple b ws := fun b ws ⟨o₁, e₁, c₁, r₁⟩ => ⟨o₁, (hsb.2 b fun q => by rw [q, hget] at e₁; cases e₁; exact absurd c₁ (by simp)).trans e₁, c₁, r₁⟩
          exact RepL.append (hvs.mono (fun _ _ => rfl) (Nat.le_refl _) ht) (.cons (hx.mono (fun _ _ => rfl) (Nat.le_refl _) ht) .nil)⟩
      obtain ⟨a4, b4, c4, d4, g4⟩ := ex (E₅.trans E₆)
      exact ⟨n - 1, by omega, k + 1, acc ++ [e], _, f₄, by omega, hlt, hj', R₅, E'.trans (E₅.trans E₆), a4, b4, rfl, d4, g4⟩
  · obtain rfl : k = l.length := by omega
    refine W.stop cenv A f' σ s _ _ hA hn R hag hat (hJ _ acc σ hj) fun s' hkp hsz hos hgs htk => ?_
    have R' := R.other (s' := s') hoI hcI hDI hCI hFI hIb hIf hkp hos hgs htk
    exact ⟨acc, σ, f', rfl, hj, R', E.other hI₀ hkp hsz, hfa, han⟩

/-- the comprehension: an iterable, then its turns -/
def CSpec (C : Cx) (lv : Lv) (env : Env) (scope : Scope) (target elt : Expr) (ifs : List Expr) (p : PV) (σ₁ : St) (Q : PV → St → Prop) : Prop :=
  ∃ (l : List PV) (ok : St → Prop) (J : Nat → List PV → St → Prop), 0 < σ₁.n ∧ Iterable C lv env p l ok σ₁ ∧
    (∀ loc : Str → Option PV, (∀ x, scope.names.lookup x = some .free → loc x = σ₁.loc x) → J 0 [] ⟨σ₁.n + 1, fun i => if i = σ₁.n then some (.list []) else σ₁.hp i, loc⟩) ∧
    (∀ k acc τ, J k acc τ → ok τ ∧ ∀ x, scope.names.lookup x = some .free → τ.loc x = σ₁.loc x) ∧
    (∀ cenv : Env, Sc cenv scope.names → ∀ k acc p τ, l[k]? = some p → J k acc τ → CTurn C lv cenv target elt ifs σ₁.n J k acc p τ) ∧
    (∀ acc τ, J l.length acc τ → ∃ hp, (∀ i o, hp i = some o → τ.hp i = some o) ∧ Q (.ref σ₁.n) ⟨τ.n, hp, σ₁.loc⟩)


/-- after the loop, before the block's names are let go -/
structure CompEnd (C : Cx) (lv : Lv) (env : Env) (f : Nat → Addr) (σ : St) (s : Shared) (Q : PV → St → Prop) (D L : Addr) (s' : Shared) : Prop where
  ex : ∃ (f' : Nat → Addr) (n : Nat) (hp : Nat → Option AO), Q (.ref σ.n) ⟨n, hp, σ.loc⟩ ∧ σ.n < n ∧ f' σ.n = D ∧ (∃ m, s'.heap.Ns L m) ∧ C.base.get? L = none ∧ s.heap.objs.size ≤ L ∧ (∀ i, i < n → f' i ≠ L) ∧
    Rel C lv.fs env f' ⟨n, hp, σ.loc⟩ s' ∧ Ext env f σ s f' ⟨n, hp, σ.loc⟩ s'

/-- the block's names are let go -/
theorem Rel.letgo {σ₅ : St} {L : Addr} {s₅ : Shared} {h' : Heap} (R : Rel C fs env f σ s) (hL : s.heap.objs.size ≤ L) (R₅ : Rel C fs env f' σ₅ s₅) (E₅ : Ext env f σ s f' σ₅ s₅) (hns : ∃ m, s₅.heap.Ns L m) (hb : C.base.get? L = none) (hf : ∀ i, i < σ₅.n → f' i ≠ L) (hsb : Heap.SameBut L s₅.heap h') :
    Rel C fs env f' σ₅ { s₅ with heap := h' } ∧ Ext env f σ s f' σ₅ { s₅ with heap := h' } := by
  have hnL : ∀ b o, s.heap.get? b = some o → b ≠ L := fun b o e => Nat.ne_of_lt (Nat.lt_of_lt_of_le (Heap.lt_size e) hL)
  have hk : ∀ b o, b ≠ L → s₅.heap.get? b = some o → h'.get? b = some o := fun b o q e => (hsb.2 b q).trans e
  obtain ⟨m, o, es, ep, e, d, r⟩ := hns
  refine ⟨R₅.outside (s' := { s₅ with heap := h' }) e (fun vs n q => by rw [d] at q; cases q) hb hf ?_ ?_ hk ?_ rfl rfl (Nat.le_refl _), ⟨E₅.le, E₅.agree, E₅.new, fun b o e h => ?_, fun b o e => ?_, Nat.le_trans E₅.size (Nat.le_of_eq hsb.1.symm)⟩⟩
  · obtain ⟨m, ⟨o, _, _, e, _⟩, _⟩ := R.ns
    exact (hnL _ _ e).symm
  · intro x c hc
    obtain ⟨v, o, e, _⟩ := R.call x c hc
    exact (hnL _ _ e).symm
  · refine funFrames_of (fun b o e => ?_) R.frs
    obtain ⟨o', e', d', _⟩ := E₅.grow b o e
    exact ⟨o', hk _ _ (hnL b o e) e', d'⟩
  · obtain ⟨o', e', k'⟩ := E₅.keep b o e h
    exact ⟨o', hk _ _ (hnL b o e) e', k'⟩
  · obtain ⟨o', e', r'⟩ := E₅.grow b o e
    exact ⟨o', hk _ _ (hnL b o e) e', r'⟩

/-- the heart of it, for both ways a comprehension is used -/
theorem comp_core {elt target iter : Expr} {ifs : List Expr} {scope : Scope} {pos : Pos} {p : PV} {v : Value} {A : Around} {Q : PV → St → Prop} (hA : OkA lv A) (hn : lv.hn = true) (ok : EnvOk env) (hk : scope.kind = .function) (hnc : ∀ x ∈ scope.names, x.2 ≠ .cell)
    (hfree : ∀ x, scope.names.lookup x = some .free → env.kindOf x = some .cell ∨ env.kindOf x = some .free)
    (R : Rel C lv.fs env f σ s) (hv : Rep f σ.n s.heap v p) (h : CSpec C lv env scope target elt ifs p σ Q) {cl : List (Str × Addr)} (hcl : ∀ x c, cl.lookup x = some c → env.cells.lookup x = some c) (hcl2 : ∀ x, scope.names.lookup x = some .free → ∃ c, cl.lookup x = some c) (hcl3 : ∀ x c, cl.lookup x = some c → scope.names.lookup x = some .free)
    {E : Value → Shared → Prop} {R' : Value → Addr → Result → Shared → Prop} (hR : ∀ D L s', CompEnd C lv env f σ s Q D L s' → R' (.ref D) L (.ok .next) s') :
    wpAny C.M A (pyIter v) (fun it s₂ => wpAny C.M A (newList []) (fun acc s₃ => wpAny C.M A (newFunctionEnv scope env.globals cl [] env.qual none .none (some env)) (fun cenv s₄ =>
        codeAny C.M A (.compStart (.ListComp elt [⟨target, iter, ifs, 0⟩] scope pos) 0 it acc { cenv with scope := relabel scope env }) (R' acc cenv.locals) s₄) E s₃) E s₂) E s := by
  obtain ⟨l, okk, J, hpos, hit, h0, hJ, turn, done⟩ := h
  refine hit A f s v _ _ hA R hv fun I at_ s₂ W hat hI hk₂ hsz₂ hos hgs htk => ?_
  have hIn : ∀ b o, s.heap.get? b = some o → b ≠ I := fun b o e => Nat.ne_of_lt (Nat.lt_of_lt_of_le (Heap.lt_size e) hI)
  have R₂ := R.keeps hk₂ hos hgs htk
  have E₂ : Ext env f σ s f σ s₂ := .keeps hk₂ hsz₂
  unfold newList
  refine wpAny_newObj_type ?_ (by size_fits)
  obtain ⟨R₃, E₃⟩ := R₂.alloc (s' := { s₂ with heap := s₂.heap.push { cls := .type "list", data := .seq [].toArray } }) (a := s₂.heap.objs.size) (ao := .list []) (fun b o e => Heap.get?_push_of_some _ e) (by rw [Heap.size_push]; omega) (Nat.le_refl _) (Heap.get?_push_size _ rfl) (by simp) rfl rfl (Nat.le_refl _)
    ⟨[], 0, Heap.get?_push_size _ rfl, .nil⟩
  generalize hs₃ : ({ s₂ with heap := s₂.heap.push { cls := .type "list", data := .seq [].toArray } } : Shared) = s₃ at R₃ E₃ ⊢
  generalize hf₃ : (fun i => if i = σ.n then s₂.heap.objs.size else f i) = f₃ at R₃ E₃
  have hfD : f₃ σ.n = s₂.heap.objs.size := by rw [← hf₃]; simp
  have hk₃ : ∀ b o, s₂.heap.get? b = some o → s₃.heap.get? b = some o := fun b o e => by rw [← hs₃]; exact Heap.get?_push_of_some _ e
  have hat₃ := W.stable _ _ _ hat (fun o e => hk₃ _ _ e)
  refine wpAny_newFunctionEnv hnc (fun x hx => (nomatch hx)) (fun h' hns hsb => ?_) hk
  generalize hL : s₃.heap.objs.size = L at hns hsb ⊢
  have hkL : ∀ b o, s₃.heap.get? b = some o → h'.get? b = some o := fun b o e => by
    have hb : b ≠ L := by rw [← hL]; exact Nat.ne_of_lt (Heap.lt_size e)
    exact (hsb.2 b hb).trans (Heap.get?_push_of_some _ e)
  have hszL : s₃.heap.objs.size ≤ h'.objs.size := by rw [hsb.1, Heap.size_push]; omega
  show codeAny C.M A (.compStart (.ListComp elt [⟨target, iter, ifs, 0⟩] scope pos) 0 (.ref I) (.ref s₂.heap.objs.size) (compEnvC scope cl L env)) (R' (.ref s₂.heap.objs.size) L) _
  generalize hc : compEnvC scope cl L env = cenv
  have hcl' : cenv.locals = L := by rw [← hc]; rfl
  have hcc : cenv.cells = cl := by rw [← hc]; rfl
  have hsc : Sc cenv scope.names := by rw [← hc]; exact Sc.comp ok hk
  have hkind : ∀ x, cenv.kindOf x = (scope.names.lookup x).map fun k => if (k == NameKind.free && env.scope.kind == .function && env.kindOf x == some .cell) then NameKind.cell else k := fun x => by rw [← hc]; exact lookup_relabel scope.names x
  have hloc1 : ∀ x, cenv.kindOf x = some .local → scope.names.lookup x = some .local := fun x h => by
    rw [hkind] at h
    cases hq : scope.names.lookup x with
    | none => rw [hq] at h; cases h
    | some k =>
      rw [hq] at h
      simp only [Option.map_some, Option.some.injEq] at h
      split at h
      · cases h
      · rw [h]
  have hfre1 : ∀ x, cenv.kindOf x = some .cell ∨ cenv.kindOf x = some .free → scope.names.lookup x = some .free := fun x h => by
    cases hq : scope.names.lookup x with
    | none => rw [hkind, hq] at h; rcases h with h | h <;> cases h
    | some k =>
      have hkc : k ≠ .cell := hnc (x, k) (mem_of_lookup hq)
      rw [hkind, hq] at h
      simp only [Option.map_some, Option.some.injEq] at h
      by_cases hkf : k = .free
      · rw [hkf]
      · have : (k == NameKind.free) = false := by simpa using hkf
        simp only [this, Bool.false_and, Bool.false_eq_true, if_false] at h
        rcases h with h | h
        · exact absurd h hkc
        · exact absurd h hkf
  let loc0 : Str → Option PV := fun x => if scope.names.lookup x = some .free then σ.loc x else none
  have hbL : C.base.get? L = none := by
    cases hq : C.base.get? L with
    | none => rfl
    | some o => exact absurd (Heap.lt_size (R₃.base _ _ hq)) (by rw [hL]; exact Nat.lt_irrefl _)
  have hs4 : ∀ tk, s₃.toks ≤ tk → Rel C lv.fs cenv f₃ ⟨σ.n + 1, fun i => if i = σ.n then some (.list []) else σ.hp i, loc0⟩ { s₃ with heap := h', toks := tk } := fun tk htk => by
    have ht : ∀ a vs, s₃.heap.IsTuple a vs → h'.IsTuple a vs := fun a vs ⟨o, e, r⟩ => ⟨o, hkL _ _ e, r⟩
    refine ⟨fun b o e => hkL _ _ (R₃.base b o e), R₃.inj, fun i hi => let ⟨o, e, c⟩ := R₃.kind i hi; ⟨o, hkL _ _ e, c⟩, R₃.fresh, fun i o e => ?_, ⟨_, by rw [hcl']; exact hns, fun x hx => ?_⟩, fun x hx => ?_, ?_, ?_, by rw [hcl']; exact hbL, ?_, ?_, ?_, funFrames_of (fun b o e => ⟨o, hkL _ _ e, rfl⟩) R₃.frs, R₃.os, R₃.gens, Nat.lt_of_lt_of_le R₃.tok htk⟩
    · obtain ⟨h1, h2⟩ := R₃.objs i o e
      exact ⟨h1, ORep.mono (fun _ _ => rfl) (Nat.le_refl _) ht (fun o e => ⟨o, hkL _ _ e, .refl o⟩) h2⟩
    · have : loc0 x = none := by show (if _ then _ else _) = _; rw [if_neg (by rw [hloc1 x hx]; simp)]
      show RepO _ _ _ _ (loc0 x)
      rw [this]; trivial
    · have hx' := hfre1 x hx
      obtain ⟨c, hcx⟩ := hcl2 x hx'
      obtain ⟨c', v', k1, k2, k3⟩ := R₃.cs x (hfree x hx')
      have : c = c' := Option.some.inj ((hcl x c hcx).symm.trans k1)
      subst this
      refine ⟨c, v', by rw [hcc]; exact hcx, k2.keeps hkL, ?_⟩
      show RepO _ _ _ _ (loc0 x)
      have : loc0 x = σ.loc x := if_pos hx'
      rw [this]; exact RepO.mono (fun _ _ => rfl) (Nat.le_refl _) ht k3
    · intro x c hx
      rw [hcc] at hx
      obtain ⟨v', k⟩ := R₃.call x c (hcl x c hx)
      exact ⟨v', k.keeps hkL⟩
    · intro x y c h1 h2; rw [hcc] at h1 h2; exact R₃.cinj x y c (hcl x c h1) (hcl y c h2)
    · intro x c hx; rw [hcc] at hx; exact R₃.newC x c (hcl x c hx)
    · intro i hi
      obtain ⟨o, e, _⟩ := R₃.kind i hi
      rw [hcl', ← hL]; exact Nat.ne_of_lt (Heap.lt_size e)
    · intro i hi x c hx; rw [hcc] at hx; exact R₃.sepC i hi x c (hcl x c hx)
  have Rc := hs4 (s₃.toks + ([] : List (Str × Value)).length) (Nat.le_add_right _ _)
  generalize hs₄ : ({ s₃ with heap := h', toks := s₃.toks + ([] : List (Str × Value)).length } : Shared) = s₄ at Rc ⊢
  have hh4 : s₄.heap = h' := by rw [← hs₄]
  have hI₂ : ∃ o, s₂.heap.get? I = some o := let ⟨o, e, _⟩ := W.obj _ _ hat; ⟨o, e⟩
  have hI₃ : ∃ o, s₃.heap.get? I = some o := let ⟨o, e⟩ := hI₂; ⟨o, hk₃ _ _ e⟩
  have hI2 : ∀ b o, s.heap.get? b = some o → b ≠ I := hIn
  have hIb : C.base.get? I = none := by
    cases hq : C.base.get? I with
    | none => rfl
    | some o => exact absurd rfl (hIn _ _ (R.base _ _ hq))
  have hIL : I ≠ cenv.locals := by
    obtain ⟨o, e⟩ := hI₃
    rw [hcl', ← hL]; exact Nat.ne_of_lt (Heap.lt_size e)
  have hIc : ∀ x c, cenv.cells.lookup x = some c → I ≠ c := fun x c hx => by
    rw [hcc] at hx
    obtain ⟨v', o, e, _⟩ := R.call x c (hcl x c hx)
    exact (hIn _ _ e).symm
  have hIf : ∀ i, i < σ.n + 1 → f₃ i ≠ I := fun i hi => by
    rcases Nat.lt_or_ge i σ.n with h | h
    · have : f₃ i = f i := by rw [← hf₃]; exact if_neg (Nat.ne_of_lt h)
      rw [this]
      obtain ⟨o, e, _⟩ := R.kind i h
      exact hIn _ _ e
    · obtain rfl : i = σ.n := by omega
      obtain ⟨o, e⟩ := hI₂
      rw [hfD]; exact Nat.ne_of_gt (Heap.lt_size e)
  have hat4 : at_ 0 s₄.heap := by rw [hh4]; exact W.stable _ _ _ hat₃ (fun o e => hkL _ _ e)
  have hnone : s.heap.get? I = none := by
    cases hq : s.heap.get? I with
    | none => rfl
    | some o => exact absurd rfl (hIn _ _ hq)
  -- the loop runs from here; what stood at s is what counts
  have hkk : ∀ b o, s.heap.get? b = some o → s₄.heap.get? b = some o := fun b o e => by rw [hh4]; exact hkL _ _ (hk₃ _ _ (hk₂ _ _ e))
  have hszk : s.heap.objs.size ≤ s₄.heap.objs.size := by
    rw [hh4]
    have h1 : s₂.heap.objs.size ≤ s₃.heap.objs.size := by rw [← hs₃]; show _ ≤ (s₂.heap.push _).objs.size; rw [Heap.size_push]; omega
    omega
  have hLs : s.heap.objs.size ≤ L := by
    rw [← hL]
    have h1 : s₂.heap.objs.size ≤ s₃.heap.objs.size := by rw [← hs₃]; show _ ≤ (s₂.heap.push _).objs.size; rw [Heap.size_push]; omega
    omega
  -- a start for the block's own view: nothing but the list and the table is new
  have Ec : Ext cenv f σ s f₃ ⟨σ.n + 1, fun i => if i = σ.n then some (.list []) else σ.hp i, loc0⟩ s₄ := by
    refine ⟨Nat.le_succ _, fun i hi => by rw [← hf₃]; exact if_neg (Nat.ne_of_lt hi), fun i h1 h2 => ?_, fun b o e _ => ⟨o, hkk _ _ e, .refl o⟩, fun b o e => ⟨o, hkk _ _ e, rfl, fun _ _ => rfl⟩, hszk⟩
    obtain rfl : i = σ.n := by simp only at h2; omega
    rw [hfD]; exact hsz₂
  have hJ' : ∀ k acc τ, J k acc τ → okk τ := fun k acc τ h => (hJ k acc τ h).1
  have loop : ∀ I', I' = I → codeAny C.M A (.compLoop (.ListComp elt [⟨target, iter, ifs, 0⟩] scope pos) 0 (.ref I') (.ref s₂.heap.objs.size) cenv) (R' (.ref s₂.heap.objs.size) L) s₄ := by
    rintro I' rfl
    rw [← hfD]
    refine codeAny_mono (comp_loop (a := σ.n) (acc0 := []) J hA hn W (fun j hj => ⟨Nat.lt_succ_of_lt hj, by rw [← hf₃]; exact if_neg (Nat.ne_of_lt hj)⟩) hpos hJ' (turn cenv hsc) Rc Ec hnone hIb hIL hIc hIf hat4 (h0 loc0 fun x hx => if_pos hx) (Nat.lt_succ_self _)) ?_
    rintro r s' ⟨acc, τ', f', rfl, hj, Rl, El, hfa, han⟩
    obtain ⟨hp, hsub, hq⟩ := done acc τ' hj
    refine hR _ _ _ ⟨f', τ'.n, hp, hq, han, hfa, ?_, hbL, hLs, fun i hi => by have := Rl.sepL i hi; rw [hcl'] at this; exact this, ?_⟩
    · obtain ⟨m, hm, _⟩ := Rl.ns
      exact ⟨m, by rw [← hcl']; exact hm⟩
    · have hb := Rel.backC (s₁ := s) (σ₁ := σ) (s'' := s') R (fun b o e => e) (Nat.le_refl _) (by rw [hcl']; exact hLs) (fun x c hx => by rw [hcc] at hx; exact hcl x c hx) rfl Rl El
        (fun x c hx => by
          rw [hcc] at hx
          have hxf := hcl3 x c hx
          exact ⟨hsc.fre x hxf, (hJ _ _ _ hj).2 x hxf⟩) (.refl _ _) rfl rfl (Nat.le_refl _) hp hsub
      exact hb
  refine codeAny_compStart_list (loop I rfl) (W.self A s₄ 0 _ _ hA hat4 (loop I rfl))

theorem clFacts {env : Env} {scope : Scope} {cl : List (Str × Addr)} (h : closureFor scope env = pure cl) : True := trivial

/-- only names that are free in the block get a cell -/
theorem closure_only (env : Env) : ∀ (names : List (Str × NameKind)), (∀ x, (x, NameKind.free) ∈ names → ∃ c, env.cells.lookup x = some c) → ∀ (acc cl : List (Str × Addr)),
    (forIn names acc (fun (p : Str × NameKind) (cs : List (Str × Addr)) => if (p.2 == NameKind.free) = true then (do let y ← cellOf env p.1; pure (ForInStep.yield ((p.1, y) :: cs))) else pure (ForInStep.yield cs)) : Sem (List (Str × Addr))) = pure cl →
    ∀ x c, cl.lookup x = some c → (x, NameKind.free) ∈ names ∨ acc.lookup x = some c
  | [], _, acc, cl, h, x, c, hx => by
    rw [List.forIn_nil] at h
    have : acc = cl := by cases h; rfl
    rw [this]; exact .inr hx
  | (n, k) :: r, hn, acc, cl, h, x, c, hx => by
    have hr : ∀ x, (x, NameKind.free) ∈ r → ∃ c, env.cells.lookup x = some c := fun x hx => hn x (List.mem_cons_of_mem _ hx)
    rw [List.forIn_cons] at h
    by_cases hk : (k == NameKind.free) = true
    · obtain rfl : k = .free := by simpa using hk
      obtain ⟨c₀, hc₀⟩ := hn n List.mem_cons_self
      have e : cellOf env n = pure c₀ := by unfold cellOf; rw [hc₀]
      simp only [hk, if_true, e] at h
      rcases closure_only env r hr ((n, c₀) :: acc) cl h x c hx with q | q
      · exact .inl (List.mem_cons_of_mem _ q)
      · by_cases hxn : (x == n) = true
        · rw [beq_iff_eq.mp hxn]; exact .inl List.mem_cons_self
        · rw [List.lookup_cons] at q; simp only [hxn] at q; exact .inr q
    · simp only [hk] at h
      rcases closure_only env r hr acc cl h x c hx with q | q
      · exact .inl (List.mem_cons_of_mem _ q)
      · exact .inr q

/-- what is asked of a comprehension's block (all of it decided by its text) -/
structure BlockOk (env : Env) (scope : Scope) : Prop where
  kind : scope.kind = .function
  nocell : ∀ x ∈ scope.names, x.2 ≠ .cell
  free : ∀ x, scope.names.lookup x = some .free → env.kindOf x = some .cell ∨ env.kindOf x = some .free
  uniq : ∀ x k, (x, k) ∈ scope.names → scope.names.lookup x = some k

theorem BlockOk.closure {scope : Scope} (b : BlockOk env scope) (R : Rel C fs env f σ s) : ∃ cl, closureFor scope env = pure cl ∧ (∀ x c, cl.lookup x = some c → env.cells.lookup x = some c) ∧ (∀ x, scope.names.lookup x = some .free → ∃ c, cl.lookup x = some c) ∧
    (∀ x c, cl.lookup x = some c → scope.names.lookup x = some .free) := by
  have hn : ∀ x, (x, NameKind.free) ∈ scope.names → ∃ c, env.cells.lookup x = some c := fun x hx => let ⟨c, _, h, _⟩ := R.cs x (b.free x (b.uniq x _ hx)); ⟨c, h⟩
  obtain ⟨cl, h1, h2, h3⟩ := closureFor_of hn
  refine ⟨cl, h1, h2, fun x hx => h3 x (mem_of_lookup hx), fun x c hx => ?_⟩
  have h1' := h1
  unfold closureFor at h1'
  simp only [bind_pure] at h1'
  rcases closure_only env scope.names hn [] cl h1' x c hx with q | q
  · exact b.uniq x _ q
  · cases q

theorem e_listcomp {elt target iter : Expr} {ifs : List Expr} {scope : Scope} {pos : Pos} {Q : PV → St → Prop} (ok : EnvOk env) (hn : lv.hn = true) (b : BlockOk env scope)
    (h : AE C lv env iter σ (fun p σ₁ => CSpec C lv env scope target elt ifs p σ₁ Q) X) (hs : ∀ x, foldedSetIterable iter env x = pure x := by intro _; rfl) :
    AE C lv env (.ListComp elt [⟨target, iter, ifs, 0⟩] scope pos) σ Q X := by
  intro A f s hA R
  obtain ⟨cl, h1, h2, h3, h4⟩ := b.closure R
  show wpAny C.M A (comprehension (.ListComp elt [⟨target, iter, ifs, 0⟩] scope pos) scope env (firstIterPos [⟨target, iter, ifs, 0⟩] pos) (newList []) false (eval iter env) none) _ _ s
  refine wpAny_comprehension_free (g := ⟨target, iter, ifs, 0⟩) (gs := []) rfl hs h1 b.kind (fun x hx hl => by have := b.uniq x.1 x.2 hx; rw [hl] at this; exact this) ?_
  refine h.use hA R (fun v p σ₁ f₁ s₁ hc hv R₁ E₁ => ?_) fun _ _ x => x
  refine comp_core hA hn ok b.kind b.nocell b.free R₁ hv hc h2 h3 h4 fun D L s' hend => ?_
  obtain ⟨f', n, hp, hq, hlt, hD, hns, hbL, hLs, hfL, R', E'⟩ := hend.ex
  obtain ⟨m, hm⟩ := hns
  refine ⟨m, hm, fun h' hsb => ?_⟩
  obtain ⟨R₅, E₅⟩ := R₁.letgo hLs R' E' ⟨m, hm⟩ hbL hfL hsb
  exact ⟨_, _, f', hq, by rw [← hD]; exact .ref hlt, R₅, E₁.trans E₅⟩

theorem s_assign_comp {elt target iter : Expr} {ifs : List Expr} {scope : Scope} {pos p₁ spos : Pos} {x : Str} {Q : PFlow → St → Prop} (ok : EnvOk env) (hn : lv.hn = true) (b : BlockOk env scope) (hx : env.kindOf x = some .local)
    (hsw : swapsWith (.ListComp elt [⟨target, iter, ifs, 0⟩] scope pos) (some (.Name x p₁)) spos.line env = pure true)
    (h : AE C lv env iter σ (fun p σ₁ => CSpec C lv env scope target elt ifs p σ₁ (fun r σ₂ => Q .next (σ₂.set x r))) X) (hs : ∀ x, foldedSetIterable iter env x = pure x := by intro _; rfl) :
    AS C lv env (.Assign [.Name x p₁] (.ListComp elt [⟨target, iter, ifs, 0⟩] scope pos) spos) σ Q X := by
  intro A f s hA R
  obtain ⟨cl, h1, h2, h3, h4⟩ := b.closure R
  rw [exec_Assign_Name_used _ _ _ _ hsw]
  refine wpAny_bind (wpAny_standAt (wpAny_bind ?_))
  show wpAny C.M A (comprehension (.ListComp elt [⟨target, iter, ifs, 0⟩] scope pos) scope env (firstIterPos [⟨target, iter, ifs, 0⟩] pos) (newList []) false (eval iter env) (some (assign (.Name x p₁) env)) >>= fun _ => pure ()) _ _ s
  refine wpAny_bind ?_
  refine wpAny_comprehension_free (g := ⟨target, iter, ifs, 0⟩) (gs := []) rfl hs h1 b.kind (fun x hx hl => by have := b.uniq x.1 x.2 hx; rw [hl] at this; exact this) ?_
  refine h.use hA R (fun v p σ₁ f₁ s₁ hc hv R₁ E₁ => ?_) fun _ _ x => x
  refine comp_core hA hn ok b.kind b.nocell b.free R₁ hv hc h2 h3 h4 fun D L s' hend => ?_
  obtain ⟨f', n, hp, hq, hlt, hD, ⟨m, hm⟩, hbL, hLs, hfL, R', E'⟩ := hend.ex
  have hLl : L ≠ env.locals := by
    obtain ⟨m, ⟨o, _, _, e, _⟩, _⟩ := R₁.ns
    exact Nat.ne_of_gt (Nat.lt_of_lt_of_le (Heap.lt_size e) hLs)
  have hLc : ∀ x c, env.cells.lookup x = some c → L ≠ c := fun x c hx => by
    obtain ⟨v, o, e, _⟩ := R₁.call x c hx
    exact Nat.ne_of_gt (Nat.lt_of_lt_of_le (Heap.lt_size e) hLs)
  refine wpAny_assign_Name (R'.store ok.kind (by rw [← hD]; exact .ref hlt) (.inl hx) fun s₅ R₅ E₅ => ?_)
  have hns₅ : ∃ m, s₅.heap.Ns L m := by
    obtain ⟨o, es, ep, e, d, r⟩ := hm
    obtain ⟨o', e', k'⟩ := E₅.keep L o e ⟨fun i _ hi => (hfL i hi).symm, hLl, hLc⟩
    exact ⟨m, o', es, ep, e', k'.data.trans d, r⟩
  obtain ⟨m', hm'⟩ := hns₅
  refine ⟨m', hm', fun h' hsb => ?_⟩
  obtain ⟨R₆, E₆⟩ := R₁.letgo hLs R₅ (E'.trans E₅) ⟨m', hm'⟩ hbL hfL hsb
  exact wpAny_pure (wpAny_pure ⟨.next, _, f', hq, .next, R₆, E₁.trans E₆⟩)
end
end Mine

open PySem PySem.W PyProof.Rows PySem.Calls
set_option Elab.async false
set_option maxRecDepth 100000
set_option linter.unusedVariables false
namespace Mine

section
variable {C : Cx} {lv : Lv} {env : Env} {σ : St}

/-- an iterator of the library's kind that leans on nothing but itself -/
theorem IterSpec.walks {I : Addr} {l : List PV} {P : Nat → Value → Prop} {St' : Nat → Heap → Prop} {f₁ : Nat → Addr} {n₁ : Nat} (hW : ∀ A : Around, A.handled = none → Walks C.prog C.w A I [I] [I] l.length P St')
    (hitem : ∀ (i : Nat) (v : Value) (p : PV), P i v → l[i]? = some p → ∀ f n h, Rep f n h v p) (hobj : ∀ k h, St' k h → ∃ o, h.get? I = some o ∧ o.cls ≠ .type "tuple" ∧ isF o.data = true ∧ plainIter o.cls = true) (hn : lv.hn = true) : IterSpec C lv f₁ n₁ I l (fun _ => True) St' where
  stable k h h' st hk := (hW {} rfl).frame k h h' st fun b hb o e => by rw [List.mem_singleton.mp hb] at e ⊢; exact hk o e
  obj := hobj
  self A s k Q E hA st h := (hW A (hA.handled hn)).self k s Q E st h
  next env A f σ s k p Q E hA R _ st _ hp h := by
    have hk : k < l.length := (List.getElem?_eq_some_iff.mp hp).1
    refine wp_grow ((hW A (hA.handled hn)).item k s _ _ hk st fun v h' tk hP st' hkeep hs ht => ?_)
    exact h v _ st' (hitem k v p hP hp _ _ _) (fun b o hb e => hkeep b o (by simpa using hb) e) hs rfl rfl ht
  stop env A f σ s Q E hA _ R _ st _ h := by
    refine wp_grow ((hW A (hA.handled hn)).done s _ _ st fun h' tk hkeep hs ht => ?_)
    exact h _ (fun b o hb e => hkeep b o (by simpa using hb) e) hs rfl rfl ht

/-- the signs of a text, each as a text -/
def signs (x : Str) : List PV := x.cps.toList.map fun c => .str ⟨#[c]⟩

theorem it_str {x : Str} (hn : lv.hn = true) : Iterable C lv env (.str x) (signs x) (fun _ => True) σ := by
  intro A f s v Q E hA R hv h
  cases hv
  refine wpAny_pyIter_strU ?_
  have hlen : (signs x).length = x.cps.size := by simp [signs]
  have hsign : ∀ (i : Nat) (v : Value) (p : PV), SignAt x i v → (signs x)[i]? = some p → ∀ f n h, Rep f n h v p := by
    rintro i v p ⟨c, u, hc, rfl⟩ hp f n h
    simp only [signs, List.getElem?_map] at hp
    rw [Array.getElem?_toList, hc] at hp
    cases hp; exact .str _ _
  unfold strIterType
  cases ha : x.cps.all (· < 128)
  · refine h _ (fun i h => h.IsStrIter s.heap.objs.size "str_iterator" x _ i) _ (IterSpec.walks (fun A hA => by rw [hlen]; exact Walks.strWide hA _ x _) hsign (fun k h ⟨o, e, hc, hd⟩ => ⟨o, e, by rw [hc]; simp, by rw [hd]; rfl, by rw [hc]; decide +kernel⟩) hn) ⟨_, Heap.get?_push_size _ rfl, rfl, rfl⟩ (Nat.le_refl _) (fun b o e => Heap.get?_push_of_some _ e) (by rw [Heap.size_push]; omega) rfl rfl (Nat.le_refl _)
  · refine h _ (fun i h => h.IsStrIter s.heap.objs.size "str_ascii_iterator" x _ i) _ (IterSpec.walks (fun A hA => by rw [hlen]; exact Walks.strAscii hA _ x _) hsign (fun k h ⟨o, e, hc, hd⟩ => ⟨o, e, by rw [hc]; simp, by rw [hd]; rfl, by rw [hc]; decide +kernel⟩) hn) ⟨_, Heap.get?_push_size _ rfl, rfl, rfl⟩ (Nat.le_refl _) (fun b o e => Heap.get?_push_of_some _ e) (by rw [Heap.size_push]; omega) rfl rfl (Nat.le_refl _)

theorem it_list {i : Nat} {l : List PV} (hn : lv.hn = true) (hi : σ.hp i = some (.list l)) : Iterable C lv env (.ref i) l (fun σ' => σ'.hp i = some (.list l)) σ := by
  intro A f s v Q E hA R hv h
  cases hv with
  | ref hlt =>
    obtain ⟨_, vs, k, hget, hvs⟩ := R.objs i _ hi
    have hL : s.heap.IsList (f i) vs.toArray := ⟨_, hget, rfl, _, rfl⟩
    have hne : f i ≠ s.heap.objs.size := Nat.ne_of_lt (Heap.lt_size hget)
    refine wpAny_pyIter_list hL ?_
    refine h s.heap.objs.size (fun k h => h.IsListIter s.heap.objs.size (f i) k) _ ?_ ⟨_, Heap.get?_push_size _ rfl, rfl, rfl⟩ (Nat.le_refl _) (fun b o e => Heap.get?_push_of_some _ e) (by rw [Heap.size_push]; omega) rfl rfl (Nat.le_refl _)
    refine ⟨fun k h h' x hk => x.at hk, fun k h ⟨o, e, hc, hd⟩ => ⟨o, e, by rw [hc]; simp, by rw [hd]; rfl, by rw [hc]; decide +kernel⟩, fun A s k Q E hA st hq => wpAny_pyIter_listiter st hq, ?_, ?_⟩
    · intro env' A' f' σ' s' k p Q' E' hA' R' hag st hok hp hq
      obtain ⟨_, vs', k', hget', hvs'⟩ := R'.objs i _ hok
      obtain ⟨w, hw, hrep⟩ := hvs'.get hp
      rw [(hag i hlt).2] at hget'
      refine wp_grow (wpAny_pyNext_list_item st ⟨_, hget', rfl, _, rfl⟩ (x := w) (by simpa using hw) fun h' st' hsb hs ht => ?_)
      refine hq w _ st' (hrep.mono (fun _ _ => rfl) (Nat.le_refl _) fun a ws ⟨o₁, e₁, c₁, r₁⟩ => ⟨o₁, (hsb.2 a fun q => ?_).trans e₁, c₁, r₁⟩) (fun b o hb e => (hsb.2 b hb).trans e) hs rfl rfl ht
      obtain ⟨oI, eI, cI, _⟩ := st
      rw [q, eI] at e₁; cases e₁; rw [cI] at c₁; simp at c₁
    · intro env' A' f' σ' s' Q' E' hA' _ R' hag st hok hq
      obtain ⟨_, vs', k', hget', hvs'⟩ := R'.objs i _ hok
      rw [(hag i hlt).2] at hget'
      refine wp_grow (wpAny_pyNext_list_end (hA'.handled hn) st ⟨_, hget', rfl, _, rfl⟩ (by simp [hvs'.length]) fun h' hext hs ht => ?_)
      exact hq _ (fun b o hb e => hext b o hb e) hs rfl rfl ht
end
end Mine

open PySem PySem.W PyProof.Rows PySem.Calls
set_option Elab.async false
set_option maxRecDepth 100000
set_option linter.unusedVariables false
namespace Mine

section
variable {C : Cx} {lv : Lv} {env : Env} {σ : St} {X : String → List PV → St → Prop}

/-! ## ints -/
theorem o_add_int {a b : Int} {Q : PV → St → Prop} (h : Q (.int (a + b)) σ) : Op2 C lv env Rep (binaryOp .Add) (.int a) (.int b) σ Q X := by
  intro A f s v w hA R hv hw; cases hv; cases hw
  exact P.add_int (Post.here R h (.int _ _) (Nat.le_succ _))
theorem o_iadd_int {a b : Int} {Q : PV → St → Prop} (h : Q (.int (a + b)) σ) : Op2 C lv env Rep (inplaceOp .Add) (.int a) (.int b) σ Q X := by
  intro A f s v w hA R hv hw; cases hv; cases hw
  exact P.iadd_int (Post.here R h (.int _ _) (Nat.le_succ _))
theorem o_sub_int {a b : Int} {Q : PV → St → Prop} (h : Q (.int (a - b)) σ) : Op2 C lv env Rep (binaryOp .Sub) (.int a) (.int b) σ Q X := by
  intro A f s v w hA R hv hw; cases hv; cases hw
  exact P.sub_int (Post.here R h (.int _ _) (Nat.le_succ _))
theorem o_mod_int {a b : Int} {Q : PV → St → Prop} (hb : b ≠ 0) (h : Q (.int (a.fmod b)) σ) : Op2 C lv env Rep (binaryOp .Mod) (.int a) (.int b) σ Q X := by
  intro A f s v w hA R hv hw; cases hv; cases hw
  exact mod_int' hb (Post.here R h (.int _ _) (Nat.le_succ _))
theorem o_div_int {a b : Int} {Q : PV → St → Prop} (hb : b ≠ 0) (hs : b.natAbs < 1073741824) (h : Q (.int (a.fdiv b)) σ) : Op2 C lv env Rep (binaryOp .FloorDiv) (.int a) (.int b) σ Q X := by
  intro A f s v w hA R hv hw; cases hv; cases hw
  exact floordiv_int hb (Post.here R h (.int _ _) (Nat.le_succ _)) (Or.inl (PyProof.noPylong_small hs))
theorem o_neg_int {a : Int} {Q : PV → St → Prop} (h : Q (.int (-a)) σ) : Op1 C lv env Rep (unaryOp .USub) (.int a) σ Q X := by
  intro A f s v hA R hv; cases hv
  exact P.neg_int (Post.here R h (.int _ _) (Nat.le_succ _))
theorem o_eq_int {a b : Int} {Q : PV → St → Prop} (h : Q (.bool (a == b)) σ) : Op2 C lv env Rep (compareOp .Eq) (.int a) (.int b) σ Q X := by
  intro A f s v w hA R hv hw; cases hv; cases hw
  exact P.eq_int (Post.now R h (.bool _))
theorem o_ne_int {a b : Int} {Q : PV → St → Prop} (h : Q (.bool (a != b)) σ) : Op2 C lv env Rep (compareOp .NotEq) (.int a) (.int b) σ Q X := by
  intro A f s v w hA R hv hw; cases hv; cases hw
  exact P.ne_int (Post.now R h (.bool _))
theorem o_lt_int {a b : Int} {Q : PV → St → Prop} (h : Q (.bool (decide (a < b))) σ) : Op2 C lv env Rep (compareOp .Lt) (.int a) (.int b) σ Q X := by
  intro A f s v w hA R hv hw; cases hv; cases hw
  exact P.lt_int (Post.now R h (.bool _))
theorem o_le_int {a b : Int} {Q : PV → St → Prop} (h : Q (.bool (decide (a ≤ b))) σ) : Op2 C lv env Rep (compareOp .LtE) (.int a) (.int b) σ Q X := by
  intro A f s v w hA R hv hw; cases hv; cases hw
  exact P.le_int (Post.now R h (.bool _))
theorem o_gt_int {a b : Int} {Q : PV → St → Prop} (h : Q (.bool (decide (a > b))) σ) : Op2 C lv env Rep (compareOp .Gt) (.int a) (.int b) σ Q X := by
  intro A f s v w hA R hv hw; cases hv; cases hw
  exact P.gt_int (Post.now R h (.bool _))
theorem o_ge_int {a b : Int} {Q : PV → St → Prop} (h : Q (.bool (decide (a ≥ b))) σ) : Op2 C lv env Rep (compareOp .GtE) (.int a) (.int b) σ Q X := by
  intro A f s v w hA R hv hw; cases hv; cases hw
  exact P.ge_int (Post.now R h (.bool _))

/-! ## truth -/
theorem tr_bool {b : Bool} {Q : Bool → St → Prop} (h : Q b σ) : Op1 C lv env repB truthy (.bool b) σ Q X := by
  intro A f s v hA R hv; cases hv
  exact wpAny_truthy_bool (Post.now R h rfl)
theorem tr_none {Q : Bool → St → Prop} (h : Q false σ) : Op1 C lv env repB truthy .none σ Q X := by
  intro A f s v hA R hv; cases hv
  exact truthy_none (Post.now R h rfl)
theorem tr_int {a : Int} {Q : Bool → St → Prop} (h : Q (a != 0) σ) : Op1 C lv env repB truthy (.int a) σ Q X := by
  intro A f s v hA R hv; cases hv
  exact P.truthy_int (Post.now R h rfl)
theorem tr_str {x : Str} {Q : Bool → St → Prop} (hx : x.length ≤ 16777216) (h : Q ((x.length : Int) != 0) σ) : Op1 C lv env repB truthy (.str x) σ Q X := by
  intro A f s v hA R hv; cases hv
  exact P.truthy_str (by omega) (Post.here R h rfl (by omega))
theorem tr_list {i : Nat} {l : List PV} {Q : Bool → St → Prop} (hi : σ.hp i = some (.list l)) (hl : l.length ≤ 16777216) (h : Q (!l.isEmpty) σ) : Op1 C lv env repB truthy (.ref i) σ Q X := by
  intro A f s v hA R hv
  cases hv with
  | ref hlt =>
    obtain ⟨_, vs, k, hget, hvs⟩ := R.objs i _ hi
    have e : (!vs.toArray.isEmpty) = !l.isEmpty := by
      have := hvs.length
      cases vs <;> cases l <;> simp_all
    refine wpAny_truthy_list ⟨_, hget, rfl, _, rfl⟩ (by rw [List.size_toArray, hvs.length]; omega) ?_
    rw [e]; exact Post.here R h rfl (by omega)

/-! ## None, identity -/
def PV.isNone : PV → Bool
  | .none => true
  | _ => false
theorem rep_none {f : Nat → Addr} {n : Nat} {h : Heap} {v : Value} {p : PV} (r : Rep f n h v p) (hp : ∀ w, p ≠ .obj w) : (v == .none) = p.isNone := by
  cases r <;> first | rfl | exact absurd rfl (hp _)
theorem o_is_none {p : PV} {Q : PV → St → Prop} (hp : ∀ w, p ≠ .obj w) (h : Q (.bool p.isNone) σ) : Op2 C lv env Rep (compareOp .Is) p .none σ Q X := by
  intro A f s v w hA R hv hw; cases hw
  refine is_none ?_
  rw [rep_none hv hp]; exact Post.now R h (.bool _)
theorem o_isnot_none {p : PV} {Q : PV → St → Prop} (hp : ∀ w, p ≠ .obj w) (h : Q (.bool (!p.isNone)) σ) : Op2 C lv env Rep (compareOp .IsNot) p .none σ Q X := by
  intro A f s v w hA R hv hw; cases hw
  refine isNot_none ?_
  rw [rep_none hv hp]; exact Post.now R h (.bool _)

/-! ## texts -/
theorem o_eq_str {x y : Str} {Q : PV → St → Prop} (h : Q (.bool (x == y)) σ) : Op2 C lv env Rep (compareOp .Eq) (.str x) (.str y) σ Q X := by
  intro A f s v w hA R hv hw; cases hv; cases hw
  exact eq_str (Post.now R h (.bool _))
theorem o_ne_str {x y : Str} {Q : PV → St → Prop} (h : Q (.bool (x != y)) σ) : Op2 C lv env Rep (compareOp .NotEq) (.str x) (.str y) σ Q X := by
  intro A f s v w hA R hv hw; cases hv; cases hw
  exact ne_str (Post.now R h (.bool _))
theorem o_add_str {x y : Str} {Q : PV → St → Prop} (hl : x.length + y.length ≤ 16777216) (h : Q (.str (x ++ y)) σ) : Op2 C lv env Rep (binaryOp .Add) (.str x) (.str y) σ Q X := by
  intro A f s v w hA R hv hw; cases hv; cases hw
  exact wp_toks (add_str (fun t' tk ht => Post.here R h (.str _ _) ht) (by rw [sizeLine_eq]; exact hl))
theorem o_iadd_str {x y : Str} {Q : PV → St → Prop} (hl : x.length + y.length ≤ 16777216) (h : Q (.str (x ++ y)) σ) : Op2 C lv env Rep (inplaceOp .Add) (.str x) (.str y) σ Q X := by
  intro A f s v w hA R hv hw; cases hv; cases hw
  exact wp_toks (iadd_str (fun t' tk ht => Post.here R h (.str _ _) ht) (by rw [sizeLine_eq]; exact hl))
theorem o_in_str {x : Str} {c : Nat} {Q : PV → St → Prop} (h : Q (.bool (decide (c ∈ x.cps.toList))) σ) : Op2 C lv env Rep (compareOp .In) (.str ⟨#[c]⟩) (.str x) σ Q X := by
  intro A f s v w hA R hv hw; cases hv; cases hw
  refine in_str ?_
  rw [StrLaws.found_one]; exact Post.now R h (.bool _)
theorem o_notin_str {x : Str} {c : Nat} {Q : PV → St → Prop} (h : Q (.bool (!decide (c ∈ x.cps.toList))) σ) : Op2 C lv env Rep (compareOp .NotIn) (.str ⟨#[c]⟩) (.str x) σ Q X := by
  intro A f s v w hA R hv hw; cases hv; cases hw
  refine notIn_str ?_
  rw [StrLaws.found_one]; exact Post.now R h (.bool _)

/-! ## calls of built-ins -/
theorem c_len_str {x : Str} {Q : PV → St → Prop} (hx : x.length ≤ 16777216) (h : Q (.int x.length) σ) : ACall C lv env (.builtin "len") [.str x] [] σ Q X := by
  intro A f s vs ks hA R hv hk
  cases hk
  cases hv with | cons hv hr => cases hr; cases hv; exact len_str (by omega) (Post.here R h (.int _ _) (by omega))
theorem c_len_list {i : Nat} {l : List PV} {Q : PV → St → Prop} (hi : σ.hp i = some (.list l)) (hl : l.length ≤ 16777216) (h : Q (.int l.length) σ) : ACall C lv env (.builtin "len") [.ref i] [] σ Q X := by
  intro A f s vs ks hA R hv hk
  cases hk
  cases hv with
  | cons hv hr =>
    cases hr
    cases hv with
    | ref hlt =>
      obtain ⟨_, vs, k, hget, hvs⟩ := R.objs i _ hi
      refine len_list ⟨_, hget, rfl, _, rfl⟩ (by rw [List.size_toArray, hvs.length]; omega) ?_
      rw [List.size_toArray, hvs.length]
      exact Post.here R h (.int _ _) (by omega)
theorem c_chr {a : Int} {Q : PV → St → Prop} (h0 : 0 ≤ a) (h1 : a ≤ 1114111) (h : Q (.str ⟨#[a.toNat]⟩) σ) : ACall C lv env (.builtin "chr") [.int a] [] σ Q X := by
  intro A f s vs ks hA R hv hk
  cases hk
  cases hv with | cons hv hr => cases hr; cases hv; exact chr_of_range h0 h1 (Post.here R h (.str _ _) (by omega))
theorem c_ord {c : Nat} {Q : PV → St → Prop} (h : Q (.int c) σ) : ACall C lv env (.builtin "ord") [.str ⟨#[c]⟩] [] σ Q X := by
  intro A f s vs ks hA R hv hk
  cases hk
  cases hv with | cons hv hr => cases hr; cases hv; exact P.ord_of_char (Post.here R h (.int _ _) (by omega))
theorem c_range1 {a : Int} {Q : PV → St → Prop} (h : Q (.ref σ.n) (σ.alloc (.range 0 a))) : ACall C lv env (.type "range") [.int a] [] σ Q X := by
  intro A f s vs ks hA R hv hk
  cases hk
  cases hv with
  | cons hv hr =>
    cases hr; cases hv
    refine call_range_1 ?_
    obtain ⟨R', E'⟩ := R.alloc (s' := { s with heap := s.heap.push { cls := .type "range", data := .fields #[.int 0 s.toks, .int a _, .int 1 (s.toks + 1)] }, toks := s.toks + 1 + 1 }) (ao := .range 0 a) (fun b o e => Heap.get?_push_of_some _ e) (by show _ ≤ (s.heap.push _).objs.size; rw [Heap.size_push]; omega) (Nat.le_refl _) (Heap.get?_push_size _ rfl) (by simp) rfl rfl (by show s.toks ≤ s.toks + 1 + 1; omega)
      ⟨_, _, _, Heap.get?_push_size _ rfl⟩
    refine ⟨_, _, _, h, ?_, R', E'⟩
    have : (fun i => if i = σ.n then s.heap.objs.size else f i) σ.n = s.heap.objs.size := if_pos rfl
    rw [show Value.ref s.heap.objs.size = Value.ref ((fun i => if i = σ.n then s.heap.objs.size else f i) σ.n) from by rw [this]]
    exact .ref (Nat.lt_succ_self _)

/-- the ints from a on, n of them -/
def intsFrom (a : Int) (n : Nat) : List PV := (List.range n).map fun i : Nat => .int (a + (i : Int))
theorem it_range {i : Nat} {a b : Int} (hn : lv.hn = true) (hi : σ.hp i = some (.range a b)) (hs : Builtin.Range.small a b 1 = true) (hab : a ≤ b) : Iterable C lv env (.ref i) (intsFrom a (b - a).toNat) (fun _ => True) σ := by
  intro A f s v Q E hA R hv h
  cases hv with
  | ref hlt =>
    obtain ⟨_, t, u, w, hr⟩ := R.objs i _ hi
    refine wpAny_pyIter_range hr hs ?_
    have hsz : Builtin.Range.rangeSize a b 1 = (((b - a).toNat : Nat) : Int) := by
      unfold Builtin.Range.rangeSize
      rw [if_pos (by decide)]
      split
      · rw [Int.ediv_one]; omega
      · omega
    have hlen : (intsFrom a (b - a).toNat).length = (b - a).toNat := by simp [intsFrom]
    refine h s.heap.objs.size (fun i h => IsRangeIter h s.heap.objs.size (a + (i : Nat) * 1) (((b - a).toNat : Int) - (i : Nat)) 1) _ (IterSpec.walks (fun A hA => by rw [hlen]; exact Walks.range hA _ a 1 _) ?_ (fun k h e => ⟨_, e, by simp, rfl, show plainIter (.type "range_iterator") = true from by decide +kernel⟩) hn) ?_ (Nat.le_refl _) (fun b o e => Heap.get?_push_of_some _ e) (by rw [Heap.size_push]; omega) rfl rfl (Nat.le_refl _)
    · rintro i v p ⟨t', rfl⟩ hp f n h
      simp only [intsFrom, List.getElem?_map] at hp
      cases hq : (List.range (b - a).toNat)[i]? with
      | none => rw [hq] at hp; cases hp
      | some j =>
        rw [hq] at hp
        have : j = i := by
          obtain ⟨hlt, e⟩ := List.getElem?_eq_some_iff.mp hq
          simp at e; exact e.symm
        subst this
        cases hp
        rw [show a + (j : Int) * 1 = a + (j : Int) from by omega]
        exact .int _ _
    · show IsRangeIter _ _ _ _ _
      rw [hsz]
      simp only [Int.natCast_zero, Int.zero_mul, Int.add_zero, Int.sub_zero]
      exact Heap.get?_push_size _ rfl
end
end Mine

open PySem PySem.W PyProof.Rows PySem.Calls
set_option Elab.async false
set_option maxRecDepth 100000
set_option linter.unusedVariables false
namespace Mine

section
variable {C : Cx} {lv : Lv} {env : Env} {σ : St} {X : String → List PV → St → Prop}

theorem rep_new {f : Nat → Addr} {n : Nat} {h : Heap} {a : Addr} : Rep (fun i => if i = n then a else f i) (n + 1) h (.ref a) (.ref n) := by
  have h2 := Rep.ref (f := fun i => if i = n then a else f i) (n := n + 1) (h := h) (i := n) (Nat.lt_succ_self _)
  simp only [if_true] at h2; exact h2

/-- a new list of the program's own -/
theorem new_list {fs : List Env} {f : Nat → Addr} {s : Shared} {vs : List Value} {ps : List PV} {Q : PV → St → Prop} (R : Rel C fs env f σ s) (hvs : RepL f σ.n s.heap vs ps) (h : Q (.ref σ.n) (σ.alloc (.list ps))) :
    Post C fs env Rep Q f σ s (.ref s.heap.objs.size) { s with heap := s.heap.push { cls := .type "list", data := .seq vs.toArray } } := by
  have hf : ∀ i, i < σ.n → (fun i => if i = σ.n then s.heap.objs.size else f i) i = f i := fun i hi => if_neg (Nat.ne_of_lt hi)
  have ht : ∀ a ws, s.heap.IsTuple a ws → (s.heap.push { cls := .type "list", data := .seq vs.toArray }).IsTuple a ws := fun a ws ⟨o, e, r⟩ => ⟨o, Heap.get?_push_of_some _ e, r⟩
  obtain ⟨R', E'⟩ := R.alloc (s' := { s with heap := s.heap.push { cls := .type "list", data := .seq vs.toArray } }) (ao := .list ps) (fun b o e => Heap.get?_push_of_some _ e) (by show _ ≤ (s.heap.push _).objs.size; rw [Heap.size_push]; omega) (Nat.le_refl _) (Heap.get?_push_size _ rfl) (by simp) rfl rfl (Nat.le_refl _)
    ⟨vs, 0, Heap.get?_push_size _ rfl, hvs.mono hf (Nat.le_succ _) ht⟩
  exact ⟨_, _, _, h, rep_new, R', E'⟩

theorem e_list {elts : List Expr} {pos : Pos} {Q : PV → St → Prop} (h : AL C lv env elts pos σ (fun ps σ₁ => ps.length ≤ 16777216 ∧ Q (.ref σ₁.n) (σ₁.alloc (.list ps))) X) : AE C lv env (.List elts pos) σ Q X :=
  fun A f s hA R => wpAny_List (h.use hA R (fun vs ps σ₁ f₁ s₁ h₁ hvs R₁ E₁ => ⟨by rw [hvs.length, sizeLine_eq]; exact h₁.1, Post.trans E₁ (new_list R₁ hvs h₁.2)⟩) fun _ _ x => x)
theorem e_tuple {elts : List Expr} {k : Nat} {pos : Pos} {Q : PV → St → Prop} (h : AL C lv env elts pos σ (fun ps σ₁ => ps.length ≤ 16777216 ∧ Q (.tup ps) σ₁) X) : AE C lv env (.Tuple elts k pos) σ Q X :=
  fun A f s hA R => wpAny_Tuple (h.use hA R (fun vs ps σ₁ f₁ s₁ h₁ hvs R₁ E₁ => ⟨by rw [hvs.length, sizeLine_eq]; exact h₁.1, Post.trans E₁ (Post.grown R₁ (fun b o e => Heap.get?_push_of_some _ e) (by show _ ≤ (s₁.heap.push _).objs.size; rw [Heap.size_push]; omega) rfl rfl (Nat.le_refl _) h₁.2
    (.tup (vs := vs) ⟨_, Heap.get?_push_size _ rfl, rfl, _, rfl⟩ (hvs.mono (fun _ _ => rfl) (Nat.le_refl _) fun a ws ⟨o, e, r⟩ => ⟨o, Heap.get?_push_of_some _ e, r⟩)))⟩) fun _ _ x => x)

/-! ## subscripts -/
theorem e_sub {value slice : Expr} {pos : Pos} {Q : PV → St → Prop} (h : AE C lv env value σ (fun a σ₁ => AE C lv env slice σ₁ (fun b σ₂ => Op2 C lv env Rep (subscriptTail value slice) a b σ₂ Q X) X) X) : AE C lv env (.Subscript value slice pos) σ Q X :=
  fun A f s hA R => Subscript_ (h.use hA R (fun va a σ₁ f₁ s₁ h₁ ra R₁ E₁ => h₁.use hA R₁ (fun vb b σ₂ f₂ s₂ h₂ rb R₂ E₂ =>
    wpAny_mono (h₂ A f₂ s₂ va vb hA R₂ (ra.ext R₁ E₂) rb) (fun _ _ x => Post.trans (E₁.trans E₂) x) fun _ _ x => PostX.trans (E₁.trans E₂) x) fun _ _ x => PostX.trans E₁ x) fun _ _ x => x)

theorem o_sub_str {value slice : Expr} {x : Str} {i : Int} {c : Nat} {Q : PV → St → Prop} (h0 : 0 ≤ i) (h1 : i < 16777216) (hc : x.cps[i.toNat]? = some c) (h : Q (.str ⟨#[c]⟩) σ)
    (hs : ∀ o i, subscripted slice false o i = operate [o, i] (getItem o i) := by intro _ _; rfl) : Op2 C lv env Rep (subscriptTail value slice) (.str x) (.int i) σ Q X := by
  intro A f s v w hA R hv hw; cases hv; cases hw
  have hlt : i < x.length := by
    have := (Array.getElem?_eq_some_iff.mp hc).1
    show i < (x.cps.size : Int); omega
  refine tail_any (typeIs_str _ _ _) slot_str_getitem.lookup (getItem_str (c := c) (by simp; omega) (by rw [seqIndex_of h0 hlt]; exact hc) (Post.here R h (.str _ _) (Nat.le_succ _))) (hs _ _)
theorem o_sub_list {value slice : Expr} {j : Nat} {l : List PV} {i : Int} {p : PV} {Q : PV → St → Prop} (hj : σ.hp j = some (.list l)) (h0 : 0 ≤ i) (h1 : i < 16777216) (hp : l[i.toNat]? = some p) (h : Q p σ)
    (hs : ∀ o i, subscripted slice false o i = operate [o, i] (getItem o i) := by intro _ _; rfl) : Op2 C lv env Rep (subscriptTail value slice) (.ref j) (.int i) σ Q X := by
  intro A f s v w hA R hv hw; cases hw
  cases hv with
  | ref hlt =>
    obtain ⟨_, vs, k, hget, hvs⟩ := R.objs j _ hj
    obtain ⟨w, hw, hr⟩ := hvs.get hp
    have hL : s.heap.IsList (f j) vs.toArray := ⟨_, hget, rfl, _, rfl⟩
    exact tail_any hL.typeIs slot_list_getitem.lookup (wpAny_getItem_list (x := w) hL h0 (by omega) (by simpa using hw) (Post.now R h hr)) (hs _ _)
theorem o_sub_list_neg {value slice : Expr} {j : Nat} {l : List PV} {i : Int} {p : PV} {Q : PV → St → Prop} (hj : σ.hp j = some (.list l)) (h0 : i < 0) (h1 : -(l.length : Int) ≤ i) (hb : l.length ≤ 16777216) (hp : l[(i + l.length).toNat]? = some p) (h : Q p σ)
    (hs : ∀ o i, subscripted slice false o i = operate [o, i] (getItem o i) := by intro _ _; rfl) : Op2 C lv env Rep (subscriptTail value slice) (.ref j) (.int i) σ Q X := by
  intro A f s v w hA R hv hw; cases hw
  cases hv with
  | ref hlt =>
    obtain ⟨_, vs, k, hget, hvs⟩ := R.objs j _ hj
    obtain ⟨w, hw, hr⟩ := hvs.get hp
    have hL : s.heap.IsList (f j) vs.toArray := ⟨_, hget, rfl, _, rfl⟩
    have hl := hvs.length
    have h2 : -(2 ^ 63 : Int) ≤ i := by have : (2 : Int) ^ 63 = 9223372036854775808 := by decide
                                        rw [this]; omega
    exact tail_any hL.typeIs slot_list_getitem.lookup (wpAny_getItem_list_neg (x := w) hL h0 (by rw [List.size_toArray, hl]; omega) h2 (by rw [List.size_toArray, hl]; simpa using hw) (Post.now R h hr)) (hs _ _)
theorem o_sub_tup {value slice : Expr} {l : List PV} {i : Int} {p : PV} {Q : PV → St → Prop} (h0 : 0 ≤ i) (h1 : i < 16777216) (hp : l[i.toNat]? = some p) (h : Q p σ)
    (hs : ∀ o i, subscripted slice false o i = operate [o, i] (getItem o i) := by intro _ _; rfl) : Op2 C lv env Rep (subscriptTail value slice) (.tup l) (.int i) σ Q X := by
  intro A f s v w hA R hv hw; cases hw
  cases hv with
  | tup ht hvs =>
    obtain ⟨w, hw, hr⟩ := hvs.get hp
    have hlt : i < l.length := by have := (List.getElem?_eq_some_iff.mp hp).1; omega
    exact item_tupleT ht (by omega) (by omega) (seqIndex_of h0 (by rw [hvs.length]; exact hlt)) hw (Post.now R h hr) (hs _ _)

/-! ## slices -/
abbrev AP (C : Cx) (lv : Lv) (env : Env) (e : Option Expr) (σ : St) (Q : PV → St → Prop) (X : String → List PV → St → Prop) : Prop := AW C lv env Rep (evalPart e env) σ Q X
theorem ap_none {Q : PV → St → Prop} (h : Q .none σ) : AP C lv env none σ Q X := fun A f s hA R => wpAny_pure (Post.now R h .none)
theorem ap_some {e : Expr} {Q : PV → St → Prop} (h : AE C lv env e σ Q X) : AP C lv env (some e) σ Q X := h

/-- a slice of something that a name, or another expression, gives -/
def ASl (C : Cx) (lv : Lv) (env : Env) (o lo hi : PV) (σ : St) (Q : PV → St → Prop) (X : String → List PV → St → Prop) : Prop :=
  ∀ A f s vo vl vh, OkA lv A → Rel C lv.fs env f σ s → Rep f σ.n s.heap vo o → Rep f σ.n s.heap vl lo → Rep f σ.n s.heap vh hi → (∃ T id, typeLookup (.type T) "__getitem__" = pure (some (.builtin id)) ∧ s.TypeIs vo T) ∧
    wpAny C.M A (getItem vo (.ref s.heap.objs.size)) (Post C lv.fs env Rep Q f σ s) (PostX C lv.fs env X f σ s) { s with heap := s.heap.push { cls := .type "slice", data := .fields #[vl, vh, .none] } }

theorem typeIs_push {s : Shared} {v : Value} {T : String} {o : Obj} (h : s.TypeIs v T) : Shared.TypeIs { s with heap := s.heap.push o } v T := by
  cases v <;> first | exact h | (obtain ⟨o', e, c⟩ := h; exact ⟨o', Heap.get?_push_of_some _ e, c⟩)

theorem e_slice {value : Expr} {lower upper : Option Expr} {p pos : Pos} {Q : PV → St → Prop} (h : AE C lv env value σ (fun o σ₁ => AP C lv env lower σ₁ (fun lo σ₂ => AP C lv env upper σ₂ (fun hi σ₃ => ASl C lv env o lo hi σ₃ Q X) X) X) X) :
    AE C lv env (.Subscript value (.Slice lower upper none p) pos) σ Q X := by
  intro A f s hA R
  refine Subscript_ (h.use hA R (fun vo o σ₁ f₁ s₁ h₁ ro R₁ E₁ => ?_) fun _ _ x => x)
  refine wpAny_Slice (h₁.use hA R₁ (fun vl lo σ₂ f₂ s₂ h₂ rl R₂ E₂ => ?_) fun _ _ x => PostX.trans E₁ x)
  refine h₂.use hA R₂ (fun vh hi σ₃ f₃ s₃ h₃ rh R₃ E₃ => ?_) fun _ _ x => PostX.trans (E₁.trans E₂) x
  rw [evalPart_none]
  refine wpAny_pure ?_
  obtain ⟨⟨T, id, hl, hT⟩, hg⟩ := h₃ A f₃ s₃ vo vl vh hA R₃ ((ro.ext R₁ E₂).ext R₂ E₃) (rl.ext R₂ E₃) rh
  exact tail_any (ops := [.ref s₃.heap.objs.size, vo]) (typeIs_push hT) hl (wpAny_mono hg (fun _ _ x => Post.trans ((E₁.trans E₂).trans E₃) x) fun _ _ x => PostX.trans ((E₁.trans E₂).trans E₃) x) rfl

/-- a bound of a slice: an int, or none -/
inductive Bnd : PV → Option Int → Prop
  | none : Bnd .none none
  | int (i : Int) : Bnd (.int i) (some i)
def cut {α : Type} (l : List α) (lo hi : Option Int) : List α := (l.drop (lo.elim 0 (clipAt l.length))).take (hi.elim l.length (clipAt l.length) - lo.elim 0 (clipAt l.length))

theorem sl_list {j : Nat} {l : List PV} {lo hi : PV} {a b : Option Int} {Q : PV → St → Prop} (hj : σ.hp j = some (.list l)) (ha : Bnd lo a) (hb : Bnd hi b) (hl : l.length ≤ 16777216) (h : Q (.ref σ.n) (σ.alloc (.list (cut l a b)))) : ASl C lv env (.ref j) lo hi σ Q X := by
  intro A f s vo vl vh hA R ro rl rh
  cases ro with
  | ref hlt =>
    obtain ⟨_, vs, k, hget, hvs⟩ := R.objs j _ hj
    have hL : s.heap.IsList (f j) vs.toArray := ⟨_, hget, rfl, _, rfl⟩
    refine ⟨⟨"list", _, list_getitem_lookup, hL.typeIs⟩, ?_⟩
    have hpl : IsPart vl a := by cases ha <;> cases rl <;> constructor
    have hph : IsPart vh b := by cases hb <;> cases rh <;> constructor
    have hk : ∀ b o, s.heap.get? b = some o → (s.heap.push { cls := .type "slice", data := .fields #[vl, vh, .none] }).get? b = some o := fun b o e => Heap.get?_push_of_some _ e
    have R' := R.keeps (s' := { s with heap := s.heap.push { cls := .type "slice", data := .fields #[vl, vh, .none] } }) hk rfl rfl (Nat.le_refl _)
    have E' : Ext env f σ s f σ { s with heap := s.heap.push { cls := .type "slice", data := .fields #[vl, vh, .none] } } := .keeps hk (by show _ ≤ (s.heap.push _).objs.size; rw [Heap.size_push]; omega)
    refine wpAny_getItem_list_slice (hL.push _) (Heap.IsSliceOf.new ..) hpl hph .none (by simp) ?_ (by rw [List.size_toArray, hvs.length, sizeLine_eq]; exact hl)
    rw [slicePick_plain]
    have hc : RepL f σ.n s.heap ((vs.toArray.toList.drop (a.elim 0 (clipAt vs.toArray.size))).take (b.elim vs.toArray.size (clipAt vs.toArray.size) - a.elim 0 (clipAt vs.toArray.size))) (cut l a b) := by
      have e : vs.toArray.size = l.length := by simp [hvs.length]
      rw [e]
      exact (hvs.drop _).take _
    exact Post.trans E' (new_list R' (hc.mono (fun _ _ => rfl) (Nat.le_refl _) fun a ws ⟨o, e, r⟩ => ⟨o, hk _ _ e, r⟩) h)

theorem Bnd.rep {f : Nat → Addr} {n : Nat} {h : Heap} {v : Value} {p : PV} {a : Option Int} (b : Bnd p a) (r : Rep f n h v p) : ∃ l, v = partValue l ∧ l.map (·.1) = a := by
  cases b with
  | none => cases r; exact ⟨Option.none, rfl, rfl⟩
  | int i => cases r with | int _ t => exact ⟨Option.some (i, t), rfl, rfl⟩

theorem sl_str {x : Str} {lo hi : PV} {a b : Option Int} {Q : PV → St → Prop} (ha : Bnd lo a) (hb : Bnd hi b) (hl : x.length ≤ 16777216) (h : Q (.str (Txt.slice x a b)) σ) : ASl C lv env (.str x) lo hi σ Q X := by
  intro A f s vo vl vh hA R ro rl rh
  cases ro
  obtain ⟨l, rfl, hla⟩ := ha.rep rl
  obtain ⟨u, rfl, hub⟩ := hb.rep rh
  refine ⟨⟨"str", _, F.slot_str_getitem.lookup, typeIs_str _ _ _⟩, ?_⟩
  have hk : ∀ b o, s.heap.get? b = some o → (s.heap.push { cls := .type "slice", data := .fields #[partValue l, partValue u, .none] }).get? b = some o := fun b o e => Heap.get?_push_of_some _ e
  subst hla hub
  have key : ∀ t' k, s.toks ≤ k → Post C lv.fs env Rep Q f σ s (.str (Txt.slice x (l.map (·.1)) (u.map (·.1))) t') { s with heap := s.heap.push { cls := .type "slice", data := .fields #[partValue l, partValue u, .none] }, toks := k } := fun t' k ht =>
    Post.grown R hk (by show _ ≤ (s.heap.push _).objs.size; rw [Heap.size_push]; omega) rfl rfl ht h (.str _ _)
  refine wp_toks (wpAny_getItem_str_slice (l := l) (u := u) (st := none) ⟨_, Heap.get?_push_size _ rfl, rfl, rfl⟩ rfl ?_)
  refine post_val_or_str (Q := fun a s' => s.toks ≤ s'.toks → Post C lv.fs env Rep Q f σ s a s') ⟨Nat.le_trans (Txt.slice_le x _ _) (by rw [sizeLine_eq]; exact hl), fun t' k ht => key t' k ht⟩
end
end Mine

open PySem PySem.W PyProof.Rows PySem.Calls
set_option Elab.async false
set_option maxRecDepth 100000
set_option linter.unusedVariables false
namespace Mine
theorem pa_pat : PlainAttrs "re.Pattern" := ⟨⟨"object.__getattribute__", by rw [typeLookup_type, builtinLookup_eq_fast]; kernel_rfl, by decide +kernel⟩, by rw [typeLookup_type, builtinLookup_eq_fast]; kernel_rfl⟩
theorem slot_search : Slot "re.Pattern" "search" "re.Pattern.search" :=
  .of (owner := "re.Pattern") (n := "search") (by rw [typeLookup_type, builtinLookup_eq_fast]; kernel_rfl) (by decide +kernel) (by decide +kernel) (by decide +kernel)
    (by first | exact .inl (by decide +kernel) | exact .inr (by decide +kernel)) (by rw [isSubtype_type]; kernel_rfl)
theorem type_search : typeOf (.builtin "re.Pattern.search") = pure (.type "method_descriptor") := by show builtinType _ = _; rw [builtinType_eq_fast]; kernel_rfl
theorem entry_search : entryFor table "re.Pattern.search" = some Builtin.«re.Pattern.search» := entryFor_of_tree (by kernel_rfl)
theorem owner_pat : Manifest.owners.lookup (String.ofList ['n','r','e','t','t','a','P','.','e','r'].reverse) = some Manifest.sig_re_Pattern := by kernel_rfl
theorem args_search (a b : Value) : argsOk "re.Pattern.search" ⟨[a, b], []⟩ := by
  unfold argsOk
  rw [signature?_of (id := "re.Pattern.search") (n := ['h','c','r','a','e','s']) (o := ['n','r','e','t','t','a','P','.','e','r']) (by kernel_rfl) owner_pat]
  kernel_rfl
end Mine

open PySem PySem.W PyProof.Rows PySem.Calls
set_option Elab.async false
set_option maxRecDepth 100000
set_option linter.unusedVariables false
namespace Mine
open PySem.Sre PySem.Builtin.Re

/-- the code of a pattern that is one set -/
structure SetCode (code : Array Nat) (test : Nat → Bool) : Prop where
  hdr : ∃ b, header code = (1, b) ∧ b ≠ 0 ∧ ops[code.getD b 0]? = some .IN ∧ b < code.size ∧ b + itemWidth code b < code.size ∧ ops[code.getD (b + itemWidth code b) 0]? = some .SUCCESS
    ∧ ∀ c seen, ∃ seen', accepts code b c seen = .ok (test c, seen')
  info : ops[code.getD 0 0]? = some .INFO
  four : code.getD 2 0 = 4
  set : ∀ c seen, ∃ seen', inSet code c code.size 5 true seen = .ok (test c, seen')

theorem admitted_none {code : Array Nat} {test : Nat → Bool} (S : SetCode code test) (m : M) (hm : m.code = code) : ∀ fuel s seen, m.lim ≤ m.text.size → (∀ i, s ≤ i → i < m.lim → test (m.text.getD i 0) = false) →
    ∃ seen', M.admitted m fuel s seen = .ok (none, seen')
  | 0, s, seen, _, _ => ⟨_, rfl⟩
  | fuel + 1, s, seen, hl, h => by
    unfold M.admitted
    by_cases hs : s ≥ m.lim
    · rw [if_pos hs]; exact ⟨_, rfl⟩
    · rw [if_neg hs, hm]
      obtain ⟨seen', h'⟩ := S.set (m.text.getD s 0) seen
      rw [h', h s (Nat.le_refl _) (by omega)]
      exact admitted_none S m hm fuel (s + 1) seen' hl fun i h1 h2 => h i (by omega) h2

theorem admitted_some {code : Array Nat} {test : Nat → Bool} (S : SetCode code test) (m : M) (hm : m.code = code) : ∀ fuel s seen, m.lim + 1 ≤ s + fuel → (∃ i, s ≤ i ∧ i < m.lim ∧ test (m.text.getD i 0) = true) →
    ∃ k seen', M.admitted m fuel s seen = .ok (some k, seen') ∧ k < m.lim ∧ test (m.text.getD k 0) = true
  | 0, s, seen, hl, ⟨i, h1, h2, _⟩ => by omega
  | fuel + 1, s, seen, hl, ⟨i, h1, h2, h3⟩ => by
    unfold M.admitted
    rw [if_neg (by omega), hm]
    obtain ⟨seen', h'⟩ := S.set (m.text.getD s 0) seen
    rw [h']
    cases ht : test (m.text.getD s 0)
    · have : s ≠ i := fun e => by subst e; rw [ht] at h3; cases h3
      exact admitted_some S m hm fuel (s + 1) seen' (by omega) ⟨i, by omega, h2, h3⟩
    · exact ⟨s, seen', rfl, by omega, ht⟩

theorem no_run {m : M} (h1 : m.outcome = none) (h2 : m.frames = []) : ((m.say false).runFor 4).outcome = some .failed := by
  have hs : (m.say false).step = { m.say false with outcome := some .failed } := by
    unfold M.step
    rw [if_neg (by show ¬ (m.outcome.isSome = true); rw [h1]; decide)]
    show (match some false, m.frames with | some yes, [] => _ | some yes, f :: rest => _ | none, _ => _) = _
    rw [h2]; rfl
  show (if (m.say false).outcome.isSome then m.say false else M.runFor 3 (m.say false).step).outcome = _
  rw [if_neg (by show ¬ (m.outcome.isSome = true); rw [h1]; decide), hs]
  rfl
theorem first_set {code : Array Nat} {test : Nat → Bool} (S : SetCode code test) {m : M} (hc : m.code = code) : ¬ ((!m.hasFirstSet) = true) := by
  unfold M.hasFirstSet; rw [hc, S.info, S.four]; decide
theorem from_none {code : Array Nat} {test : Nat → Bool} (S : SetCode code test) {m : M} (hc : m.code = code) (hl : m.lim = m.text.size) (h1 : m.outcome = none) (h2 : m.frames = [])
    (h : ∀ i, i < m.text.size → test (m.text.getD i 0) = false) : ((m.attemptFrom 0 true).runFor 4).outcome = some .failed := by
  unfold M.attemptFrom
  rw [if_neg (first_set S hc)]
  obtain ⟨seen', h'⟩ := admitted_none S m hc (m.lim + 1 - 0) 0 m.seen (by omega) fun i _ hi => h i (by omega)
  rw [h']
  exact no_run (m := { m with seen := seen' }) h1 h2
theorem search_none {code : Array Nat} {test : Nat → Bool} (S : SetCode code test) (text : Array Nat) (h : ∀ i, i < text.size → test (text.getD i 0) = false) :
    ((forSearch code text 0 0 text.size false).runFor 4).outcome = some .failed := by
  obtain ⟨b, hb, hb0, _⟩ := S.hdr
  unfold forSearch
  rw [hb]
  by_cases hl : 0 > text.size ∨ text.size - 0 < 1
  · simp only [gt_iff_lt] at hl ⊢
    rw [if_pos (by simpa using hl)]
    exact no_run rfl rfl
  · rw [if_neg (by simpa using hl)]
    exact from_none S rfl rfl rfl rfl h

theorem step_exec {m : M} (h1 : m.outcome = none) (h2 : m.answer = none) (h3 : m.pc < m.code.size) : m.step = m.exec := by
  unfold M.step
  rw [if_neg (by rw [h1]; decide), h2]
  show (if m.pc < m.code.size then m.exec else _) = _
  rw [if_pos h3]
theorem runFor_succ {m : M} {n : Nat} (h1 : m.outcome = none) : m.runFor (n + 1) = m.step.runFor n := by
  show (if m.outcome.isSome then m else M.runFor n m.step) = _
  rw [if_neg (by rw [h1]; decide)]
theorem exec_in {m : M} {seen' : Sre.Seen} (ho : ops[m.word 0]? = some .IN) (hp : m.pos < m.lim) (ha : accepts m.code m.pc (m.text.getD m.pos 0) (m.seen.add (m.word 0)) = .ok (true, seen')) :
    m.exec = { m with seen := seen', pc := m.pc + itemWidth m.code m.pc, pos := m.pos + 1 } := by
  unfold M.exec
  rw [ho]
  show (if m.pos ≥ m.lim then _ else match accepts m.code m.pc (m.text.getD m.pos 0) (m.seen.add (m.word 0)) with | .error why => _ | .ok (false, seen) => _ | .ok (true, seen) => _) = _
  rw [if_neg (by omega), ha]
theorem exec_success {m : M} (ho : ops[m.word 0]? = some .SUCCESS) (hw : m.wholeText = false) (hm : m.mustAdvance = false) : m.exec = { m with seen := m.seen.add (m.word 0), handed := m.pos, answer := some true } := by
  unfold M.exec
  rw [ho]
  show (if (m.outermost && ((m.wholeText && m.pos != m.lim) || (m.mustAdvance && m.pos == m.start))) = true then _ else _) = _
  rw [hw, hm, if_neg (by simp)]
  rfl
theorem from_some {code : Array Nat} {test : Nat → Bool} (S : SetCode code test) {m : M} (hc : m.code = code) (hl : m.lim = m.text.size) (h1 : m.outcome = none) (h2 : m.frames = []) (ha : m.answer = none)
    (hw : m.weight = 0) (hpc : m.pc = (header code).2) (hwt : m.wholeText = false)
    (h : ∃ i, i < m.text.size ∧ test (m.text.getD i 0) = true) : ((m.attemptFrom 0 true).runFor 4).outcome = some .matched := by
  obtain ⟨b, hb, hb0, hin, hlt, hlt2, hsu, hacc⟩ := S.hdr
  unfold M.attemptFrom
  rw [if_neg (first_set S hc)]
  obtain ⟨i, hi, ht⟩ := h
  obtain ⟨k, seen', h', hk, hkt⟩ := admitted_some S m hc (m.lim + 1 - 0) 0 m.seen (by omega) ⟨i, Nat.zero_le _, by omega, ht⟩
  rw [h']
  have e0 : ({ m with mustAdvance := false, seen := seen' }.attemptAt k true : M) = { m with mustAdvance := false, seen := seen', start := k, lastmark := -1, lastindex := -1, frames := [{ wait := .nextStart, pc := b, pos := k, outermost := true }], weight := 1, pc := b, pos := k, handed := k, outermost := true } := by
    unfold M.attemptAt M.attempt
    rw [if_neg (by show ¬ (m.weight + 1 + 0 > 16777216); omega)]
    show ({ m with mustAdvance := false, seen := seen', start := k, lastmark := -1, lastindex := -1, frames := _ :: m.frames, weight := m.weight + 1 + 0, pc := m.pc, pos := k, handed := k, outermost := true } : M) = _
    rw [h2, hw, hpc, hb]
  show (M.runFor 4 ({ m with mustAdvance := false, seen := seen' }.attemptAt k true)).outcome = _
  rw [e0]
  obtain ⟨seen₂, hacc⟩ := hacc (m.text.getD k 0) (seen'.add (code.getD (b + 0) 0))
  rw [hkt] at hacc
  subst hc
  rw [runFor_succ (by exact h1), step_exec (by exact h1) (by exact ha) (by exact hlt), exec_in (seen' := seen₂) (by exact hin) (by exact hk) (by exact hacc)]
  rw [runFor_succ (by exact h1), step_exec (by exact h1) (by exact ha) (by exact hlt2), exec_success (by exact hsu) (by exact hwt) rfl]
  rw [runFor_succ (by exact h1)]
  have e3 : ∀ x : M, x.outcome = none → x.answer = some true → x.frames = [{ wait := .nextStart, pc := b, pos := k, outermost := true }] → (x.step.runFor 1).outcome = some .matched := by
    intro x q1 q2 q3
    have hx : x.step = M.resume { x with answer := none, frames := [], weight := x.weight - (1 + 0), pc := b, pos := k, outermost := true } { wait := .nextStart, pc := b, pos := k, outermost := true } true := by
      unfold M.step
      rw [if_neg (by rw [q1]; decide), q2, q3]
      rfl
    rw [hx]
    have hy : ∀ y : M, M.resume y { wait := .nextStart, pc := b, pos := k, outermost := true } true = y.say true := fun y => rfl
    rw [hy, runFor_succ (by exact q1)]
    unfold M.step
    rw [if_neg (by show ¬ (x.outcome.isSome = true); rw [q1]; decide)]
    rfl
  exact e3 _ h1 rfl rfl
theorem search_some {code : Array Nat} {test : Nat → Bool} (S : SetCode code test) (text : Array Nat) (h : ∃ i, i < text.size ∧ test (text.getD i 0) = true) :
    ((forSearch code text 0 0 text.size false).runFor 4).outcome = some .matched := by
  obtain ⟨b, hb, hb0, _⟩ := S.hdr
  unfold forSearch
  obtain ⟨i, hi, ht⟩ := h
  have hn : ∀ q : Nat × Nat, q.1 = 1 → ¬ ((decide (0 > text.size) || decide (text.size - 0 < q.1)) = true) := by
    intro q hq hh
    rw [hq, Bool.or_eq_true, decide_eq_true_eq, decide_eq_true_eq] at hh
    omega
  rw [if_neg (hn _ (by rw [hb]))]
  exact from_some S rfl rfl rfl rfl rfl rfl rfl rfl ⟨i, hi, ht⟩

def codeT : Array Nat := #[14, 14, 4, 1, 1, 9, 0, 4227896069, 939524097, 0, 0, 0, 0, 0, 0, 13, 11, 9, 0, 4227896069, 939524097, 0, 0, 0, 0, 0, 0, 1]
def codeN : Array Nat := #[14, 10, 4, 1, 1, 22, 0, 31, 16, 127, 0, 13, 7, 22, 0, 31, 16, 127, 0, 1]
def codeV : Array Nat := #[14, 14, 4, 1, 1, 9, 4294966783, 0, 0, 2147483648, 0, 0, 0, 0, 0, 13, 11, 9, 4294966783, 0, 0, 2147483648, 0, 0, 0, 0, 0, 1]
def testT (c : Nat) : Bool := [32, 40, 41, 60, 62, 64, 44, 59, 58, 92, 34, 47, 91, 93, 63, 61].contains c
def testN (c : Nat) : Bool := decide (c ≤ 31) || c == 127
def testV (c : Nat) : Bool := decide (c ≤ 8) || (decide (10 ≤ c) && decide (c ≤ 31)) || c == 127

theorem set9 {code : Array Nat} {test : Nat → Bool} {i : Nat} {fuel : Nat} (hw : code.getD i 0 = 9) (h0 : code.getD (i + 9) 0 = 0) (ht : ∀ c, (decide (c < 256) && (code.getD (i + (1 + c / 32)) 0).testBit (c % 32)) = test c) (c : Nat) (seen : Sre.Seen) :
    ∃ seen', inSet code c (fuel + 2) i true seen = .ok (test c, seen') := by
  unfold inSet
  simp only [Nat.add_zero]
  rw [hw]
  show ∃ seen', (if (decide (c < 256) && (code.getD (i + (1 + c / 32)) 0).testBit (c % 32)) = true then _ else _) = _
  rw [ht c]
  cases test c
  · rw [if_neg (by decide)]
    unfold inSet
    simp only [Nat.add_zero]
    rw [h0]
    exact ⟨_, rfl⟩
  · exact ⟨_, rfl⟩
theorem big_of {code : Array Nat} {test : Nat → Bool} {i : Nat} (h1 : ∀ c, c < 256 → (decide (c < 256) && (code.getD (i + (1 + c / 32)) 0).testBit (c % 32)) = test c) (h2 : ∀ c, 256 ≤ c → test c = false) :
    ∀ c, (decide (c < 256) && (code.getD (i + (1 + c / 32)) 0).testBit (c % 32)) = test c := by
  intro c
  by_cases h : c < 256
  · exact h1 c h
  · rw [h2 c (by omega), decide_eq_false h]; rfl
theorem bigT : ∀ c, 256 ≤ c → testT c = false := by
  intro c h; unfold testT; simp; omega
theorem bigV : ∀ c, 256 ≤ c → testV c = false := by
  intro c h; unfold testV; simp; omega
theorem setT : SetCode codeT testT where
  hdr := ⟨15, by decide +kernel, by decide, by kernel_rfl, by decide +kernel, by decide +kernel, by kernel_rfl, fun c seen => set9 (code := codeT) (fuel := 26) (i := 17) (by decide +kernel) (by decide +kernel) (big_of (by decide +kernel) bigT) c seen⟩
  info := by kernel_rfl
  four := by decide +kernel
  set := fun c seen => set9 (fuel := 26) (i := 5) (by decide +kernel) (by decide +kernel) (big_of (by decide +kernel) bigT) c seen
theorem setV : SetCode codeV testV where
  hdr := ⟨15, by decide +kernel, by decide, by kernel_rfl, by decide +kernel, by decide +kernel, by kernel_rfl, fun c seen => set9 (code := codeV) (fuel := 26) (i := 17) (by decide +kernel) (by decide +kernel) (big_of (by decide +kernel) bigV) c seen⟩
  info := by kernel_rfl
  four := by decide +kernel
  set := fun c seen => set9 (fuel := 26) (i := 5) (by decide +kernel) (by decide +kernel) (big_of (by decide +kernel) bigV) c seen
theorem set22 {i : Nat} {fuel : Nat} (hi : i = 5 ∨ i = 13) (c : Nat) (seen : Sre.Seen) : ∃ seen', inSet codeN c (fuel + 3) i true seen = .ok (testN c, seen') := by
  have h0 : codeN.getD i 0 = 22 := by rcases hi with rfl | rfl <;> decide +kernel
  have h1 : codeN.getD (i + 1) 0 = 0 := by rcases hi with rfl | rfl <;> decide +kernel
  have h2 : codeN.getD (i + 2) 0 = 31 := by rcases hi with rfl | rfl <;> decide +kernel
  have h3 : codeN.getD (i + 3) 0 = 16 := by rcases hi with rfl | rfl <;> decide +kernel
  have h4 : codeN.getD (i + 3 + 1) 0 = 127 := by rcases hi with rfl | rfl <;> decide +kernel
  have h5 : codeN.getD (i + 3 + 2) 0 = 0 := by rcases hi with rfl | rfl <;> decide +kernel
  unfold inSet
  simp only [Nat.add_zero]
  rw [h0]
  show ∃ seen', (if (decide (codeN.getD (i + 1) 0 ≤ c) && decide (c ≤ codeN.getD (i + 2) 0)) = true then _ else _) = _
  rw [h1, h2]
  by_cases hc : c ≤ 31
  · rw [if_pos (by simpa using hc), show testN c = true from by unfold testN; simp [hc]]
    exact ⟨_, rfl⟩
  rw [if_neg (by simpa using hc)]
  unfold inSet
  simp only [Nat.add_zero]
  rw [h3]
  show ∃ seen', (if (c == codeN.getD (i + 3 + 1) 0) = true then _ else _) = _
  rw [h4]
  by_cases hc' : c = 127
  · rw [if_pos (by simpa using hc'), show testN c = true from by unfold testN; simp [hc']]
    exact ⟨_, rfl⟩
  rw [if_neg (by simpa using hc'), show testN c = false from by unfold testN; simp [hc']; omega]
  unfold inSet
  simp only [Nat.add_zero]
  rw [h5]
  exact ⟨_, rfl⟩
theorem setN : SetCode codeN testN where
  hdr := ⟨11, by decide +kernel, by decide, by kernel_rfl, by decide +kernel, by decide +kernel, by kernel_rfl, fun c seen => set22 (fuel := 17) (i := 13) (.inr rfl) c seen⟩
  info := by kernel_rfl
  four := by decide +kernel
  set := fun c seen => set22 (fuel := 17) (i := 5) (.inl rfl) c seen
end Mine

open PySem PySem.W PyProof.Rows PySem.Calls
set_option Elab.async false
set_option maxRecDepth 100000
set_option linter.unusedVariables false
namespace Mine
open PySem.Sre PySem.Builtin.Re
section
variable {C : Cx} {lv : Lv} {env : Env} {σ : St} {X : String → List PV → St → Prop}

/-- a pattern of the program's own written heap -/
structure PatAt (C : Cx) (pat : Addr) (code : Array Nat) : Prop where
  at_ : ∃ o, C.K.lookup pat = some o ∧ o.cls = .type "re.Pattern" ∧ o.dict = none
  reads : ∀ x t, peek C.K ⟨C.prog, C.w.params⟩ (reTarget "re.Pattern.search" "search" ⟨[.ref pat, .str x t], []⟩) =
    some { pattern := .ref pat, string := .str x t, code := code, text := x.cps, kind := 0, groups := 0, pos := min 0 x.cps.size, lim := min ((2 ^ 63 - 1 : Int)).toNat x.cps.size }

theorem m_search {pat : Addr} {code : Array Nat} (P : PatAt C pat code) : Meth C lv env (.obj (.ref pat)) "search" (.builtin "re.Pattern.search") σ := by
  intro A f s v pl Q E hA R hv h
  cases hv
  obtain ⟨o, ho, hc, hd⟩ := P.at_
  have hg := R.K _ _ ho
  exact getMethod_builtin ⟨o, hg, hc⟩ pa_pat slot_search type_search (fun a e => by cases e; exact ⟨o, hg, hd⟩) (h s.toks (Nat.le_refl _))

theorem wp_rules {M : Model} {A : Around} {E : Value → Shared → Prop} {s : Shared} {Q : Unit → Shared → Prop} (p : Nat → Bool) (g : Nat → String) (h : Q () s) : ∀ l : List Nat,
    wpAny M A (forIn l PUnit.unit (fun i _ => (if p i = true then (rule (g i) >>= fun _ => pure (ForInStep.yield PUnit.unit)) else pure (ForInStep.yield PUnit.unit) : Sem (ForInStep PUnit)))) (fun _ => Q ()) E s
  | [] => wpAny_pure h
  | i :: l => by
    rw [List.forIn_cons]
    refine wpAny_bind ?_
    cases p i
    · exact wpAny_pure (wp_rules p g h l)
    · exact wpAny_bind (wpAny_rule (wpAny_pure (wp_rules p g h l)))

theorem run_failed {M : Model} {A : Around} {E : Value → Shared → Prop} {s : Shared} {Q : Option Sre.M → Shared → Prop} {m : Sre.M} (hm : (m.runFor 4).outcome = some .failed) (h : Q none s) : wpAny M A (reRunToEnd m) Q E s := by
  unfold reRunToEnd
  refine wpAny_bind (m := reDrive (2 ^ 64) m) ?_
  rw [show (2 ^ 64 : Nat) = (2 ^ 64 - 1) + 1 from rfl]
  unfold reDrive
  show wpAny M A (if (m.runFor 4).outcome.isSome = true then pure (m.runFor 4) else _) _ _ _
  rw [if_pos (by rw [hm]; rfl)]
  refine wpAny_pure ?_
  refine wpAny_bind (wp_rules (Q := fun _ s' => wpAny _ _ (match (m.runFor 4).outcome with | some .matched => pure (some (m.runFor 4)) | some .failed => pure none | some (.stuck why) => unsupported s!"_sre:{why}" | none => unsupported "internal:sre:no-outcome") _ _ s') _ _ ?_ _)
  rw [hm]
  exact wpAny_pure h
theorem run_matched {M : Model} {A : Around} {E : Value → Shared → Prop} {s : Shared} {Q : Option Sre.M → Shared → Prop} {m : Sre.M} (hm : (m.runFor 4).outcome = some .matched) (h : Q (some (m.runFor 4)) s) : wpAny M A (reRunToEnd m) Q E s := by
  unfold reRunToEnd
  refine wpAny_bind (m := reDrive (2 ^ 64) m) ?_
  rw [show (2 ^ 64 : Nat) = (2 ^ 64 - 1) + 1 from rfl]
  unfold reDrive
  show wpAny M A (if (m.runFor 4).outcome.isSome = true then pure (m.runFor 4) else _) _ _ _
  rw [if_pos (by rw [hm]; rfl)]
  refine wpAny_pure ?_
  refine wpAny_bind (wp_rules (Q := fun _ s' => wpAny _ _ (match (m.runFor 4).outcome with | some .matched => pure (some (m.runFor 4)) | some .failed => pure none | some (.stuck why) => unsupported s!"_sre:{why}" | none => unsupported "internal:sre:no-outcome") _ _ s') _ _ ?_ _)
  rw [hm]
  exact wpAny_pure h

theorem post_thing2 {fs : List Env} {f : Nat → Addr} {s : Shared} {o₁ o₂ : Obj} {T : String} {Q : PV → St → Prop} (R : Rel C fs env f σ s) (hT : o₂.cls = .type T) (hfr : o₂.isFreed = false) (hn : T ≠ "tuple") (h : Q (.ref σ.n) (σ.alloc (.thing T))) :
    Post C fs env Rep Q f σ s (.ref (s.heap.push o₁).objs.size) { s with heap := (s.heap.push o₁).push o₂ } := by
  obtain ⟨R', E'⟩ := R.alloc (s' := { s with heap := (s.heap.push o₁).push o₂ }) (a := (s.heap.push o₁).objs.size) (ao := .thing T) (fun b o' e => Heap.get?_push_of_some _ (Heap.get?_push_of_some _ e))
    (by show _ ≤ ((s.heap.push _ : Heap).push _).objs.size; rw [Heap.size_push, Heap.size_push]; omega) (by rw [Heap.size_push]; omega) (Heap.get?_push_size _ hfr) (by rw [hT]; intro e; exact hn (by injection e)) rfl rfl (Nat.le_refl _) ⟨_, Heap.get?_push_size _ hfr, hT⟩
  exact ⟨_, _, _, h, rep_new, R', E'⟩
theorem c_search {pat : Addr} {code : Array Nat} {test : Nat → Bool} (P : PatAt C pat code) (S : SetCode code test) {x : Str} {Q : PV → St → Prop} (hx : x.length ≤ 16777216)
    (h0 : x.cps.toList.any test = false → Q .none σ) (h1 : x.cps.toList.any test = true → Q (.ref σ.n) (σ.alloc (.thing "re.Match"))) : ACall C lv env (.builtin "re.Pattern.search") [.obj (.ref pat), .str x] [] σ Q X := by
  intro A f s vs ks hA R hv hk
  cases hk
  cases hv with
  | cons hv hr =>
  cases hv
  cases hr with
  | cons hv hr =>
  cases hr
  cases hv with
  | str x t =>
  obtain ⟨o, ho, hc, hd⟩ := P.at_
  have hg := R.K _ _ ho
  have hx' : x.cps.size ≤ 16777216 := hx
  refine wpAny_call (codeAny_call_builtin slot_search.plain entry_search (slot_search.check _ _ _ _ _ _ _ _ ⟨o, hg, hc⟩ (args_search _ _) ?_))
  unfold Builtin.«re.Pattern.search»
  refine wpAny_bind ((Looks.of_peek R.K (P.reads x t)).here ?_)
  unfold reAnswer
  rw [show min (2 ^ 63 - 1 : Int).toNat x.cps.size = x.cps.size from by
    rw [show (2 ^ 63 - 1 : Int).toNat = 2 ^ 63 - 1 from by decide]; exact Nat.min_eq_right (by omega), Nat.zero_min]
  cases ha : x.cps.toList.any test
  · have hn := search_none S x.cps (fun i hi => by
      have := List.any_eq_false.mp ha (x.cps.getD i 0) (by
        rw [Array.getD, dif_pos hi]; exact Array.getElem_mem_toList _)
      simpa using this)
    refine wpAny_bind (run_failed hn ?_)
    exact wpAny_pure (Post.now R (h0 ha) .none)
  · obtain ⟨c, hc1, hc2⟩ := List.any_eq_true.mp ha
    obtain ⟨i, hi, e⟩ := List.getElem_of_mem hc1
    rw [Array.length_toList] at hi
    have hs := search_some S x.cps ⟨i, hi, by rw [Array.getD, dif_pos hi]; rw [Array.getElem_toList] at e; simp only [Array.getInternal_eq_getElem]; rw [e]; exact hc2⟩
    refine wpAny_bind (run_matched hs ?_)
    refine wpAny_bind (m := reNewMatch _ _ _ _ _ _) ?_
    unfold reNewMatch
    show wpAny _ _ (newTuple [_, _] >>= fun t => newFields "re.Match" _) _ _ _
    refine wpAny_bind (wpAny_newTuple ?_)
    refine wpAny_newObj_type ?_
    refine wpAny_pure ?_
    exact post_thing2 R rfl rfl (by decide) (h1 ha)

theorem tr_match {i : Nat} {Q : Bool → St → Prop} (hi : σ.hp i = some (.thing "re.Match")) (h : Q true σ) : Op1 C lv env repB truthy (.ref i) σ Q X := by
  intro A f s v hA R hv
  cases hv with
  | ref hlt =>
    obtain ⟨_, o, hg, hc⟩ := R.objs i _ hi
    have hT : s.TypeIs (.ref (f i)) "re.Match" := ⟨o, hg, hc⟩
    unfold truthy
    refine wpAny_bind (m := callSpecial? (.ref (f i)) (Str.ofString "__bool__")) (wpAny_callSpecial?_none hT (by rw [typeLookup_type, builtinLookup_eq_fast]; kernel_rfl) ?_)
    refine wpAny_bind (wpAny_specialOf hT (r := none) (by rw [typeLookup_type, builtinLookup_eq_fast]; kernel_rfl) ?_)
    exact wpAny_pure (Post.now R h rfl)
end
end Mine

open PySem PySem.W PyProof.Rows PySem.Calls
set_option Elab.async false
set_option maxRecDepth 100000
set_option linter.unusedVariables false
namespace Mine
section
variable {C : Cx} {lv : Lv} {env : Env} {σ : St} {X : String → List PV → St → Prop}

theorem m_join {x : Str} : Meth C lv env (.str x) "join" (.builtin "str.join") σ := by
  intro A f s v pl Q E hA R hv h; cases hv; exact GM.join (h s.toks (Nat.le_refl _))
theorem m_lower {x : Str} : Meth C lv env (.str x) "lower" (.builtin "str.lower") σ := by
  intro A f s v pl Q E hA R hv h; cases hv; exact GM.lower (h s.toks (Nat.le_refl _))

theorem strs_of {f : Nat → Addr} {n : Nat} {h : Heap} : ∀ {texts : List Str} {vs : List Value}, RepL f n h vs (texts.map .str) → ∃ l : List (Str × Tok), vs = strValues l ∧ l.map (·.1) = texts
  | [], vs, x => by cases x; exact ⟨[], rfl, rfl⟩
  | t :: ts, vs, x => by
    cases x with
    | cons hv hr =>
      cases hv with
      | str _ tk =>
        obtain ⟨l, rfl, e⟩ := strs_of hr
        exact ⟨(t, tk) :: l, rfl, by simp [e]⟩

theorem c_join {x : Str} {i : Nat} {texts : List Str} {Q : PV → St → Prop} (hi : σ.hp i = some (.list (texts.map .str))) (hb : (texts.map (·.length)).sum + texts.length * x.length ≤ 16777216) (h : Q (.str (Txt.join x texts)) σ) :
    ACall C lv env (.builtin "str.join") [.str x, .ref i] [] σ Q X := by
  intro A f s vs ks hA R hv hk
  cases hk
  cases hv with
  | cons hv hr =>
  cases hv
  cases hr with
  | cons hv hr =>
  cases hr
  cases hv with
  | ref hlt =>
    obtain ⟨_, vs, k, hget, hvs⟩ := R.objs i _ hi
    obtain ⟨l, rfl, e⟩ := strs_of hvs
    refine wp_grow ?_
    exact SC.join ⟨_, hget, rfl, _, rfl⟩ e (joinOk_of hb) fun t' k' _ hk' => Post.here R h (.str _ _) hk'

theorem e_replace {o : Expr} {y z : Str} {k₁ k₂ : Nat} {p₁ p₂ apos pos : Pos} {Q : PV → St → Prop}
    (h : AE C lv env o σ (fun po σ₁ => ∃ x, po = .str x ∧ x.length + (x.length + 1) * z.length ≤ 16777216 ∧ Q (.str (Txt.replace x y z)) σ₁) X) (hyz : (y == z) = false) {pl : Sem Bool}
    (he : eval (.Call (.Attribute o "replace" apos) [.Constant (.str y) k₁ p₁, .Constant (.str z) k₂ p₂] [] pos) env = (do
      let ov ← eval o env
      standAt apos.atName
      let (f, first) ← holding [ov] (getMethod ov "replace" pl)
      callWith pos f first (backTo pos (starEach [.Constant (.str y) k₁ p₁, .Constant (.str z) k₂ p₂] env)) (backToKw pos (keywordEach [] env))) := by rfl) :
    AE C lv env (.Call (.Attribute o "replace" apos) [.Constant (.str y) k₁ p₁, .Constant (.str z) k₂ p₂] [] pos) σ Q X := by
  intro A f s hA R
  refine methodCall_KW (pl := pl) (h.use hA R (fun va a σ₁ f₁ s₁ h₁ ra R₁ E₁ => ?_) fun _ _ x => x) he
  obtain ⟨x, rfl, hb, hq⟩ := h₁
  cases ra with
  | str _ t =>
  refine GM.replace ?_
  refine callWith_of (P := C.K.In) rfl KeepV.builtin ?_
  refine evalArgs_any rfl rfl ?_
  refine wpAny_items_cons (wpAny_Constant_str ?_) rfl
  refine wpAny_items_cons (wpAny_Constant_str ?_) rfl
  refine wpAny_items_nil ?_
  refine kwAll_nil ?_
  refine ⟨R₁.K, ?_⟩
  have ht := R₁.tok
  refine wp_grow ?_
  refine SC.replace (by show s₁.toks ≠ 0; omega) (by show s₁.toks + 1 ≠ 0; omega) (by show s₁.toks ≠ s₁.toks + 1; omega) hyz hb fun t' k' _ hk' => ?_
  have hk'' : s₁.toks ≤ k' := by
    have : s₁.toks + 1 + 1 ≤ k' := hk'
    omega
  exact Post.trans E₁ (Post.here R₁ hq (.str _ _) hk'')

/-! joined texts -/
def AJ (C : Cx) (lv : Lv) (env : Env) (X : String → List PV → St → Prop) : List Expr → Str → St → (Str → St → Prop) → Prop
  | [], acc, σ, Q => Q acc σ
  | e :: es, acc, σ, Q => AE C lv env e σ (fun p σ₁ => ∃ y, p = .str y ∧ (acc ++ y).length ≤ 16777216 ∧ AJ C lv env X es (acc ++ y) σ₁ Q) X

theorem AJ.joins {A : Around} {Q : Str → St → Prop} {f₀ : Nat → Addr} {σ₀ : St} {s₀ : Shared} (hA : OkA lv A) : ∀ {es : List Expr} {acc : Str} {σ : St} {f : Nat → Addr} {s : Shared}, Rel C lv.fs env f σ s → Ext env f₀ σ₀ s₀ f σ s → AJ C lv env X es acc σ Q →
    Joins C.M A (PostX C lv.fs env X f₀ σ₀ s₀) (evalEach es env) acc (fun out s₁ => ∃ σ₁ f₁, Q out σ₁ ∧ Rel C lv.fs env f₁ σ₁ s₁ ∧ Ext env f₀ σ₀ s₀ f₁ σ₁ s₁) s
  | [], acc, σ, f, s, R, E, h => ⟨σ, f, h, R, E⟩
  | e :: es, acc, σ, f, s, R, E, h => by
    refine h.use hA R (fun va a σ₁ f₁ s₁ h₁ ra R₁ E₁ => ?_) fun _ _ x => PostX.trans E x
    obtain ⟨y, rfl, hl, h₂⟩ := h₁
    cases ra with
    | str _ t => exact ⟨y, t, rfl, by rw [sizeLine_eq]; exact hl, AJ.joins hA R₁ (E.trans E₁) h₂⟩

theorem Joins.mono {M : Model} {A : Around} {E : Value → Shared → Prop} {Q Q' : Str → Shared → Prop} (hq : ∀ o s, Q o s → Q' o s) : ∀ {ps : List (Sem Value)} {acc : Str} {s : Shared}, Joins M A E ps acc Q s → Joins M A E ps acc Q' s
  | [], _, _, h => hq _ _ h
  | _ :: _, _, _, h => wpAny_mono h (fun v s₁ ⟨y, t, e, hl, h'⟩ => ⟨y, t, e, hl, Joins.mono hq h'⟩) fun _ _ x => x

theorem e_joined {v₁ v₂ : Expr} {rest : List Expr} {pos : Pos} {Q : PV → St → Prop} (h : AJ C lv env X (v₁ :: v₂ :: rest) Str.empty σ (fun out σ₁ => out.length ≤ 16777216 ∧ Q (.str out) σ₁)) :
    AE C lv env (.JoinedStr (v₁ :: v₂ :: rest) pos) σ Q X := by
  intro A f s hA R
  refine wpAny_JoinedStr (Joins.mono ?_ (AJ.joins hA R .refl h))
  intro out s₁ ⟨σ₁, f₁, ⟨hl, hq⟩, R₁, E₁⟩
  exact ⟨by rw [sizeLine_eq]; exact hl, Post.trans E₁ (Post.here R₁ hq (.str _ _) (Nat.le_succ _))⟩

theorem e_fmt {value : Expr} {pos : Pos} {Q : PV → St → Prop} (h : AE C lv env value σ (fun p σ₁ => ∃ x, p = .str x ∧ x.length ≤ 16777216 ∧ Q (.str x) σ₁) X) : AE C lv env (.FormattedValue value 115 none pos) σ Q X := by
  intro A f s hA R
  rw [arm_eval_FormattedValue]
  refine wpAny_bind (h.use hA R (fun va a σ₁ f₁ s₁ h₁ ra R₁ E₁ => ?_) fun _ _ x => x)
  obtain ⟨x, rfl, hl, hq⟩ := h₁
  have hl' : x.length ≤ sizeLine := by rw [sizeLine_eq]; exact hl
  cases ra with
  | str _ t =>
  refine wpAny_bind (wpAny_standAt ?_)
  refine wpAny_bind (wpAny_holding ?_)
  have key : ∀ t' k, s₁.toks ≤ k → wpAny C.M A (formatField (.str x t') Str.empty) (Post C lv.fs env Rep Q f σ s) (PostX C lv.fs env X f σ s) { s₁ with toks := k } := fun t' k hk =>
    wpAny_formatField_str (Post.trans E₁ (Post.here R₁ hq (.str _ _) hk)) (Post.trans E₁ (Post.here R₁ hq (.str _ _) (Nat.le_succ_of_le hk))) hl'
  exact wpAny_habitSame_str (key t s₁.toks (Nat.le_refl _)) (key _ _ (Nat.le_succ _)) hl'

/-! equality of plain data -/
mutual
inductive ADat (hp : Nat → Option AO) : PV → PyData → Prop
  | none : ADat hp .none .none
  | bool (b : Bool) : ADat hp (.bool b) (.bool b)
  | int (i : Int) : ADat hp (.int i) (.int i)
  | str (x : Str) : ADat hp (.str x) (.str x)
  | tup {l : List PV} {ds : List PyData} : ADatL hp l ds → ADat hp (.tup l) (.tuple ds)
  | list {i : Nat} {l : List PV} {ds : List PyData} : hp i = some (.list l) → ADatL hp l ds → ADat hp (.ref i) (.list ds)
inductive ADatL (hp : Nat → Option AO) : List PV → List PyData → Prop
  | nil : ADatL hp [] []
  | cons {p : PV} {l : List PV} {d : PyData} {ds : List PyData} : ADat hp p d → ADatL hp l ds → ADatL hp (p :: l) (d :: ds)
end
mutual
theorem ADat.reads {fs : List Env} {f : Nat → Addr} {s : Shared} (R : Rel C fs env f σ s) : ∀ {p : PV} {d : PyData} {v : Value}, ADat σ.hp p d → Rep f σ.n s.heap v p → ∃ as, Reads s.heap v d as
  | _, _, _, .none, hv => by cases hv; exact ⟨_, .none⟩
  | _, _, _, .bool b, hv => by cases hv; exact ⟨_, .bool b⟩
  | _, _, _, .int i, hv => by cases hv; exact ⟨_, .int i _⟩
  | _, _, _, .str x, hv => by cases hv; exact ⟨_, .str x _⟩
  | _, _, _, .tup hl, hv => by
    cases hv with
    | tup ht hvs =>
      obtain ⟨o, e, c, k, hd⟩ := ht
      obtain ⟨as, hr⟩ := ADatL.reads R hl hvs
      exact ⟨_, .tuple e c hd hr⟩
  | _, _, _, .list hi hl, hv => by
    cases hv with
    | ref hlt =>
      obtain ⟨_, vs, k, hget, hvs⟩ := R.objs _ _ hi
      obtain ⟨as, hr⟩ := ADatL.reads R hl hvs
      exact ⟨_, .list hget rfl rfl hr⟩
theorem ADatL.reads {fs : List Env} {f : Nat → Addr} {s : Shared} (R : Rel C fs env f σ s) : ∀ {l : List PV} {ds : List PyData} {vs : List Value}, ADatL σ.hp l ds → RepL f σ.n s.heap vs l → ∃ as, ReadsAll s.heap vs ds as
  | _, _, _, .nil, hv => by cases hv; exact ⟨_, .nil⟩
  | _, _, _, .cons hp hl, hv => by
    cases hv with
    | cons hv hr =>
      obtain ⟨as, h1⟩ := ADat.reads R hp hv
      obtain ⟨bs, h2⟩ := ADatL.reads R hl hr
      exact ⟨_, .cons h1 h2⟩
end
theorem o_eq {p q : PV} {d d' : PyData} {Q : PV → St → Prop} (hp : ADat σ.hp p d) (hq : ADat σ.hp q d') (h1 : SeqAt.shaped d = true) (h2 : SeqAt.shaped d' = true) (h : Q (.bool (PyData.eqv d d')) σ) : Op2 C lv env Rep (compareOp .Eq) p q σ Q X := by
  intro A f s v w hA R hv hw
  obtain ⟨as, ra⟩ := hp.reads R hv
  obtain ⟨bs, rb⟩ := hq.reads R hw
  have hu : A.units + 64 < cLine := by have := hA.units; have := hA.small; show _ < 9900; omega
  exact SeqAt.compareEq_shaped ra rb h1 h2 hu (Post.now R h (.bool _))
theorem o_ne {p q : PV} {d d' : PyData} {Q : PV → St → Prop} (hp : ADat σ.hp p d) (hq : ADat σ.hp q d') (h1 : SeqAt.shaped d = true) (h2 : SeqAt.shaped d' = true) (h : Q (.bool (!PyData.eqv d d')) σ) : Op2 C lv env Rep (compareOp .NotEq) p q σ Q X := by
  intro A f s v w hA R hv hw
  obtain ⟨as, ra⟩ := hp.reads R hv
  obtain ⟨bs, rb⟩ := hq.reads R hw
  have hu : A.units + 64 < cLine := by have := hA.units; have := hA.small; show _ < 9900; omega
  exact SeqAt.compareNe_shaped ra rb h1 h2 hu (Post.now R h (.bool _))

/-! list.append -/
theorem m_append {i : Nat} {l : List PV} (hi : σ.hp i = some (.list l)) : Meth C lv env (.ref i) "append" (.builtin "list.append") σ := by
  intro A f s v pl Q E hA R hv h
  cases hv with
  | ref hlt =>
    obtain ⟨_, vs, k, hget, hvs⟩ := R.objs _ _ hi
    exact getMethod_list_append hget rfl rfl (h s.toks (Nat.le_refl _))
theorem c_append {i : Nat} {l : List PV} {p : PV} {Q : PV → St → Prop} (hi : σ.hp i = some (.list l)) (h0 : 0 < i) (hl : l.length ≤ 16777216) (h : Q .none (σ.upd i (.list (l ++ [p])))) : ACall C lv env (.builtin "list.append") [.ref i, p] [] σ Q X := by
  intro A f s vs ks hA R hv hk
  cases hk
  cases hv with
  | cons hv hr =>
  cases hv with
  | ref hlt =>
  cases hr with
  | cons hv hr =>
  cases hr
  rename_i v
  obtain ⟨_, vs, k, hget, hvs⟩ := R.objs _ _ hi
  refine append_at hget (fun h' hs ho' => ?_) (by rw [List.size_toArray, hvs.length, sizeLine_eq]; exact hl)
  have hto : ∀ a ws, s.heap.IsTuple a ws → h'.IsTuple a ws := fun a ws ⟨o, e, c, r⟩ => ⟨o, (hs.2 a (fun q => by rw [q, hget] at e; cases e; simp at c)).trans e, c, r⟩
  have ho'' : h'.get? (f i) = some { cls := .type "list", data := .seq (vs ++ [v]).toArray (k + 1) } := by rw [ho']; simp
  obtain ⟨R', E'⟩ := R.upd (s' := { s with heap := h' }) (ao' := .list (l ++ [p])) hi h0 hget ho'' rfl rfl hs rfl rfl (Nat.le_refl _)
    ⟨vs ++ [v], k + 1, ho'', RepL.append (hvs.mono (fun _ _ => rfl) (Nat.le_refl _) hto) (.cons (hv.mono (fun _ _ => rfl) (Nat.le_refl _) hto) .nil)⟩
  exact ⟨_, _, _, h, .none, R', E'⟩
end
end Mine

open PySem PySem.W PyProof.Rows PySem.Calls
set_option Elab.async false
set_option maxRecDepth 100000
set_option linter.unusedVariables false
namespace Mine

/-- the law's own call -/
theorem top_fn {C : Cx} {a : Addr} {fd : FuncData} {body : List Stmt} (F : FnAt C a fd body) {s : Shared} (hbase : C.base = s.heap) (hos : C.os = s.os) (hg : C.gens = s.gens) (htk : 0 < s.toks) {L : Addr} {vs : List Value} {k : Nat} {ps : List PV} {x : Str}
    (hl : s.heap.get? L = some { cls := .type "list", data := .seq vs.toArray k }) (hvs : RepL (fun _ => L) 1 s.heap vs ps) (hb : BindsTo s fd ⟨[.ref L], []⟩ [(x, .ref L)]) (hx : fd.scope.names.lookup x = some .local ∨ fd.scope.names.lookup x = some .cell)
    (h : ∀ env' : Env, env'.scope = fd.scope → EnvOk env' → env'.frame = some env'.locals → ASs C ⟨1, true, [env']⟩ env' body ⟨1, fun i => if i = 0 then some (.list ps) else none, locOf [(x, .ref 0)] fun _ => none⟩ (fun fl _ => fl = .ret (.bool true)) (fun _ _ _ => False))
    {Q : Value → Shared → Prop} {E : Value → Shared → Prop} (hQ : ∀ s' : Shared, (∀ b o, s.heap.get? b = some o → s'.heap.get? b = some o) → s'.os = s.os → s'.gens = s.gens → Q (.bool true) s') : wpAny C.M callerA (call (.ref a) [.ref L]) Q E s := by
  obtain ⟨oc, od, osl, hK⟩ := F.at_
  have hKs : C.K.In s.heap := hbase ▸ C.hK
  refine wpAny_call (codeAny_call_function (by show (1 + claimMargin) < 1000; decide) (hKs _ _ hK) rfl F.co F.gen F.body (codeRec_of hKs F.code) (hb _ _ _ _ ?_))
  rw [F.clo, F.glob, F.bi]
  refine wp_toks (wpAny_newFunctionEnv_cells F.kind (fun y hy => ?_) fun env' he s₁ hc htk' => ?_)
  · simp only [List.mem_singleton] at hy
    subst hy
    rcases hx with h1 | h1
    · exact .inl h1
    · exact .inr ⟨h1, F.cells _ (.inl h1) _⟩
  have hL : env'.locals = s.heap.objs.size := by rw [he]; rfl
  have hcl : env'.cells = cellsFrom (s.heap.objs.size + 1) fd.scope.names [] := by rw [he]; rfl
  have hsc : env'.scope = fd.scope := by rw [he]; rfl
  have hfr : env'.frame = some env'.locals := by rw [he]; rfl
  have hok : EnvOk env' := ⟨by rw [hsc]; exact F.kind, by rw [he]; rfl, by rw [he]; rfl⟩
  obtain ⟨⟨⟨h₁, tk, hs₁⟩, hns, hkeep, hfresh⟩, hcell, hapart, habove⟩ := hc
  have hL' : s.heap.objs.size ≤ env'.locals := by rw [hL]; exact Nat.le_refl _
  have hcn : ∀ x c, env'.cells.lookup x = some c → s.heap.objs.size ≤ c := fun x c hx => Nat.le_trans hL' (Nat.le_of_lt (habove x c (mem_of_lookup hx)))
  have hnb : ∀ b, s.heap.objs.size ≤ b → C.base.get? b = none := fun b hb => by
    rw [hbase]
    cases hq : s.heap.get? b with
    | none => rfl
    | some o => exact absurd (Heap.lt_size hq) (Nat.not_lt.mpr hb)
  have ht : ∀ a vs, s.heap.IsTuple a vs → s₁.heap.IsTuple a vs := fun a vs ⟨o, ho, r⟩ => ⟨o, hkeep _ _ ho, r⟩
  have hrf : ∀ h, RepK (fun _ => L) 1 h [(x, .ref L)] [(x, .ref 0)] := fun h => .cons (Rep.ref (f := fun _ => L) (i := 0) Nat.zero_lt_one) .nil
  have hlt : L < s.heap.objs.size := Heap.lt_size hl
  have R₁ : Rel C [env'] env' (fun _ => L) ⟨1, fun i => if i = 0 then some (.list ps) else none, locOf [(x, .ref 0)] fun _ => none⟩ s₁ := by
    refine ⟨fun b o e => hkeep _ _ (hbase ▸ e), fun i j (hi : i < 1) (hj : j < 1) _ => by omega, fun i hi => ⟨_, hkeep _ _ hl, by simp⟩, fun i h0 (hi : i < 1) => by omega, fun i o e => ?_, ⟨_, hns, fun y hy => ?_⟩, fun y hy => ?_, ?_, ?_, hnb _ hL', fun x c hc => hnb _ (hcn x c hc), ?_, ?_, ?_, ?_, ?_, Nat.lt_of_lt_of_le htk htk'⟩
    · by_cases h0 : i = 0
      · subst h0
        simp only [if_true] at e
        cases e
        exact ⟨Nat.zero_lt_one, vs, k, hkeep _ _ hl, hvs.mono (fun _ _ => rfl) (Nat.le_refl _) ht⟩
      · simp only [if_neg h0] at e; cases e
    · exact bindL_rep (m := fun _ => none) (p := fun _ => none) (hrf _) (fun _ _ => trivial) y hy
    · have hy' : fd.scope.names.lookup y = some .cell ∨ fd.scope.names.lookup y = some .free := by
        have e : env'.kindOf y = fd.scope.names.lookup y := by show env'.scope.names.lookup y = _; rw [hsc]
        rw [e] at hy; exact hy
      obtain ⟨c, hc⟩ := Option.isSome_iff_exists.mp (F.cells y hy' (s.heap.objs.size + 1))
      rw [← hcl] at hc
      refine ⟨c, _, hc, hcell y c hc, ?_⟩
      refine bindC_rep (m := fun _ => none) (p := fun _ => none) (hrf _) (fun _ _ => trivial) y (fun q => ?_)
      rw [q] at hy; rcases hy with hy | hy <;> cases hy
    · intro x c hc; exact ⟨_, hcell x c hc⟩
    · intro x y c h1 h2; exact name_of_addr hapart (mem_of_lookup h1) (mem_of_lookup h2)
    · intro i hi; exact Nat.ne_of_lt (Nat.lt_of_lt_of_le hlt hL')
    · intro i hi x c hc; exact Nat.ne_of_lt (Nat.lt_of_lt_of_le hlt (hcn x c hc))
    · exact .cons (by rw [hok.kind]; decide) hfr hns (hnb _ hL') trivial
    · rw [hs₁]; exact hos.symm
    · rw [hs₁]; exact hg.symm
  refine ⟨C.nolimit.keeps fun b o e => hkeep _ _ (hbase ▸ e), codeAny_func ?_⟩
  have hA' : OkA ⟨1, true, [env']⟩ (callerA.deeper env') := by
    refine ⟨?_, ?_, Around.frames_deeper rfl, rfl, fun _ => rfl, by show (1 : Nat) ≤ 30; decide⟩
    · show (1 + claimMargin) + 1 ≤ 400 + 4 * 1; decide
    · show 4 + 3 ≤ 100 + 20 * 1; decide
  refine (h env' hsc hok hfr).use hA' R₁ (fun fl pfl σ' f' s' hq hr R' E' => ?_) fun e s' ⟨c, as, σ', f', hx, hfl, R', E'⟩ => hx.elim
  subst hq
  cases hr with
  | ret hv =>
    cases hv
    exact hQ s' (fun b o e => R'.base b o (hbase ▸ e)) (R'.os.trans hos) (R'.gens.trans hg)

theorem good_true {c : ClaimW} {cl : Str → Option Addr} {mean : ExcName → Option Value} {args : List WData} {s₁ s' : Shared} (hk : ∀ b o, s₁.heap.get? b = some o → s'.heap.get? b = some o) (hos : s'.os = s₁.os) (hg : s'.gens = #[])
    (hr : ∀ cls, c.raises args cls = false) (hp : c.post args (.bool true) args = true) : GoodWG c cl mean args s₁ (.ok (.ret (.bool true))) s' :=
  GoodW.toG ⟨.inl ⟨_, _, [], rfl, hr, ReadsW.bool true, hp, fun _ => ⟨List.nodup_nil, fun _ hm => (nomatch hm)⟩⟩, hk, hos, hg⟩
theorem ints_rep {f : Nat → Addr} {n : Nat} {h : Heap} {vs : List Value} {ns : List Int} (x : IntsAre vs ns) : RepL f n h vs (ns.map .int) := by
  induction x with
  | nil => exact .nil
  | cons n t _ ih => exact .cons (.int _ _) ih
end Mine

open PySem PySem.W PyProof.Rows PySem.Calls
set_option Elab.async false
set_option maxRecDepth 100000
set_option linter.unusedVariables false
namespace Mine

theorem oinj (a b : String) : (Str.ofString a = Str.ofString b) = (a = b) := by
  refine propext ⟨fun h => ?_, fun h => h ▸ rfl⟩
  rw [Str.ofString_eq_toList, Str.ofString_eq_toList] at h
  injection h with h
  have h2 : a.toList.map Char.toNat = b.toList.map Char.toNat := by
    have := congrArg Array.toList h; simpa using this
  have h3 : a.toList = b.toList := (List.map_inj_right (f := Char.toNat) (fun x y e => Char.toNat_inj.mp e)).mp h2
  exact String.toList_inj.mp h3

theorem St.set_loc {σ : St} {x y : Str} {v : PV} : (σ.set x v).loc y = if y = x then some v else σ.loc y := rfl
theorem St.set_hp {σ : St} {x : Str} {v : PV} : (σ.set x v).hp = σ.hp := rfl
theorem St.set_n {σ : St} {x : Str} {v : PV} : (σ.set x v).n = σ.n := rfl
theorem St.alloc_loc {σ : St} {o : AO} : (σ.alloc o).loc = σ.loc := rfl
theorem St.alloc_n {σ : St} {o : AO} : (σ.alloc o).n = σ.n + 1 := rfl
theorem St.alloc_hp {σ : St} {o : AO} {i : Nat} : (σ.alloc o).hp i = if i = σ.n then some o else σ.hp i := rfl
theorem St.upd_loc {σ : St} {i : Nat} {o : AO} : (σ.upd i o).loc = σ.loc := rfl
theorem St.upd_n {σ : St} {i : Nat} {o : AO} : (σ.upd i o).n = σ.n := rfl
theorem St.upd_hp {σ : St} {i j : Nat} {o : AO} : (σ.upd i o).hp j = if j = i then some o else σ.hp j := rfl
theorem loc_nil {b : Str → Option PV} {y : Str} : locOf [] b y = b y := rfl
theorem loc_cons {x y : Str} {p : PV} {r : List (Str × PV)} {b : Str → Option PV} : locOf ((x, p) :: r) b y = locOf r (fun z => if z = x then some p else b z) y := rfl
theorem St.mk_loc {n : Nat} {hp : Nat → Option AO} {l : Str → Option PV} {y : Str} : (St.mk n hp l).loc y = l y := rfl
theorem St.mk_hp {n : Nat} {hp : Nat → Option AO} {l : Str → Option PV} {i : Nat} : (St.mk n hp l).hp i = hp i := rfl
theorem St.mk_n {n : Nat} {hp : Nat → Option AO} {l : Str → Option PV} : (St.mk n hp l).n = n := rfl

def isLoc : Option NameKind → Bool
  | some .local => true
  | some .cell => true
  | some .free => true
  | _ => false
def isLoc2 : Option NameKind → Bool
  | some .local => true
  | some .cell => true
  | _ => false

section
variable {C : Cx} {lv : Lv} {env : Env} {σ : St} {X : String → List PV → St → Prop} {names : List (Str × NameKind)}

theorem Sc.kind3 (S : Sc env names) {x : Str} (h : isLoc (names.lookup x) = true) : env.kindOf x = some .local ∨ env.kindOf x = some .cell ∨ env.kindOf x = some .free := by
  cases hq : names.lookup x with
  | none => rw [hq] at h; cases h
  | some k =>
    rw [hq] at h
    cases k <;> first | (cases h; done) | skip
    · exact .inl (S.loc x hq)
    · exact .inr (.inl (S.cel x hq))
    · exact .inr (S.fre x hq)
theorem Sc.kind2 (S : Sc env names) {x : Str} (h : isLoc2 (names.lookup x) = true) : env.kindOf x = some .local ∨ env.kindOf x = some .cell := by
  cases hq : names.lookup x with
  | none => rw [hq] at h; cases h
  | some k =>
    rw [hq] at h
    cases k <;> first | (cases h; done) | skip
    · exact .inl (S.loc x hq)
    · exact .inr (S.cel x hq)

theorem e_nm {x : Str} {pos : Pos} {v : PV} {Q : PV → St → Prop} (S : Sc env names) (h : Q v σ)
    (hv : σ.loc x = some v := by first | assumption | exact rfl | (simp only [St.set_loc, St.alloc_loc, St.upd_loc, St.mk_loc, loc_cons, loc_nil, oinj, reduceIte, String.reduceEq]; first | assumption | exact rfl))
    (hx : isLoc (names.lookup x) = true := by decide +kernel)
    (hd : (x == ("__debug__" : Str)) = false := by decide +kernel) (hc : (x == ("__classdict__" : Str)) = false := by decide +kernel) : AE C lv env (.Name x pos) σ Q X :=
  e_name S.ok (S.kind3 hx) hv h hd hc
theorem e_gl {x : Str} {pos : Pos} {v : Value} {Q : PV → St → Prop} (S : Sc env names) (hv : nsIn C.K mainGlobals x = some (some v)) (h : Q (.obj v) σ) (hx : names.lookup x = some .globalImplicit := by decide +kernel)
    (hd : (x == ("__debug__" : Str)) = false := by decide +kernel) : AE C lv env (.Name x pos) σ Q X := e_global S.ok (S.glo x hx) hv h hd
theorem e_bi {x : Str} {pos : Pos} {v : Value} {Q : PV → St → Prop} (S : Sc env names) (hv : nsIn C.K mainGlobals x = some none) (hb : bootBuiltins x = some v) (h : Q (.obj v) σ) (hx : names.lookup x = some .globalImplicit := by decide +kernel)
    (hn : x ≠ "__name__" := by decide +kernel) (hd : (x == ("__debug__" : Str)) = false := by decide +kernel) : AE C lv env (.Name x pos) σ Q X := e_builtin S.ok (S.glo x hx) hv hb hn h hd
theorem s_as {x : Str} {p₁ : Pos} {value : Expr} {pos : Pos} {Q : PFlow → St → Prop} (S : Sc env names) (h : AE C lv env value σ (fun v σ₁ => Q .next (σ₁.set x v)) X) (hx : isLoc2 (names.lookup x) = true := by decide +kernel)
    (hs : swapsWith value (some (.Name x p₁)) pos.line env = pure false := by rfl) : AS C lv env (.Assign [.Name x p₁] value pos) σ Q X := s_assign S.ok (S.kind2 hx) h hs
theorem s_au {x : Str} {p₁ : Pos} {op : Operator} {value : Expr} {pos : Pos} {Q : PFlow → St → Prop} {old : PV} (S : Sc env names)
    (h : AE C lv env value σ (fun v σ₁ => Op2 C lv env Rep (inplaceOp op) old v σ₁ (fun r σ₂ => Q .next (σ₂.set x r)) X) X)
    (ho : σ.loc x = some old := by first | assumption | exact rfl | (simp only [St.set_loc, St.alloc_loc, St.upd_loc, St.mk_loc, loc_cons, loc_nil, oinj, reduceIte, String.reduceEq]; first | assumption | exact rfl))
    (hx : isLoc2 (names.lookup x) = true := by decide +kernel) : AS C lv env (.AugAssign (.Name x p₁) op value pos) σ Q X := s_aug S.ok (S.kind2 hx) ho h
theorem a_nm {x : Str} {pos : Pos} {p : PV} {Q : St → Prop} (S : Sc env names) (h : Q (σ.set x p)) (hx : isLoc2 (names.lookup x) = true := by decide +kernel) : AAssign C lv env (.Name x pos) p σ Q X := a_name S.ok (S.kind2 hx) h

theorem o_isnot_str {x : Str} {Q : PV → St → Prop} (h : Q (.bool true) σ) : Op2 C lv env Rep (compareOp .IsNot) (.str x) .none σ Q X := o_isnot_none nofun h
theorem o_isnot_no {Q : PV → St → Prop} (h : Q (.bool false) σ) : Op2 C lv env Rep (compareOp .IsNot) .none .none σ Q X := o_isnot_none nofun h
theorem t_mid (M : Bool → St → Prop) {e : Expr} {Q : Bool → St → Prop} (h : AT C lv env e σ M X) (hq : ∀ b σ', M b σ' → Q b σ') : AT C lv env e σ Q X := h.mono hq fun _ _ _ x => x
theorem e_mid (M : PV → St → Prop) {e : Expr} {Q : PV → St → Prop} (h : AE C lv env e σ M X) (hq : ∀ b σ', M b σ' → Q b σ') : AE C lv env e σ Q X := h.mono hq fun _ _ _ x => x
/-- a statement that goes on -/
theorem ss_next {st : Stmt} {rest : List Stmt} {Q : PFlow → St → Prop} (h : AS C lv env st σ (fun fl σ₁ => fl = .next ∧ ASs C lv env rest σ₁ Q X) X) : ASs C lv env (st :: rest) σ Q X :=
  ss_cons (h.mono (fun _ _ h => ⟨fun _ => h.2, fun q => absurd h.1 q⟩) fun _ _ _ x => x)
theorem ss_mid (M : St → Prop) {st : Stmt} {rest : List Stmt} {Q : PFlow → St → Prop} (h1 : AS C lv env st σ (fun fl σ' => fl = .next ∧ M σ') X) (h2 : ∀ σ', M σ' → ASs C lv env rest σ' Q X) : ASs C lv env (st :: rest) σ Q X :=
  ss_cons (h1.mono (fun _ σ' h => ⟨fun _ => h2 σ' h.2, fun q => absurd h.1 q⟩) fun _ _ _ x => x)
/-- a statement that leaves -/
theorem ss_ret {e : Expr} {pos : Pos} {rest : List Stmt} {Q : PFlow → St → Prop} (h : AE C lv env e σ (fun v σ₁ => Q (.ret v) σ₁) X) : ASs C lv env (.Return (some e) pos :: rest) σ Q X :=
  ss_cons (s_return (h.mono (fun _ _ h => ⟨(fun q => nomatch q), fun _ => h⟩) fun _ _ _ x => x))

theorem t_b {e : Expr} {Q : Bool → St → Prop} {b : Bool} (h : AE C lv env e σ (fun a σ₁ => a = .bool b ∧ Q b σ₁) X) (he : isTrue e env (eval e env) = (do let v ← eval e env; standAt e.pos; holding [v] (truthy v)) := by rfl) : AT C lv env e σ Q X :=
  t_val (h.mono (fun a σ₁ h => h.1 ▸ tr_bool h.2) fun _ _ _ x => x) he
end

/-! the functions of a text -/
def stmtAt (p : Program) (i : Nat) : Stmt := p.main.body.getD i (.Pass default)
def bodyOf : Stmt → List Stmt
  | .FunctionDef _ _ b _ _ _ _ _ _ _ => b
  | .ClassDef _ _ _ b _ _ _ _ _ _ _ => b
  | _ => []
def namesOf : Stmt → List (Str × NameKind)
  | .FunctionDef _ _ _ _ _ _ s _ _ _ => s.names
  | _ => []
structure FnG (C : Cx) (name : Str) (st : Stmt) (a : Addr) (fd : FuncData) : Prop where
  glob : nsIn C.K mainGlobals name = some (some (.ref a))
  keep : keepIn C.K (.ref a) = true
  fn : FnAt C a fd (bodyOf st)
  names : fd.scope.names = namesOf st

theorem a_f {C : Cx} {lv : Lv} {env : Env} {σ : St} {X : String → List PV → St → Prop} {name : Str} {st : Stmt} {a : Addr} {fd : FuncData} {ps : List PV} {kw bs : List (Str × PV)} {Q : PV → St → Prop} (G : FnG C name st a fd) (hd : lv.d < 30)
    (hb : Binds C lv env σ fd ps kw bs)
    (h : ∀ env' : Env, Sc env' (namesOf st) → FrameOk ⟨lv.d + 1, lv.hn, env' :: lv.fs⟩ env' → ASs C ⟨lv.d + 1, lv.hn, env' :: lv.fs⟩ env' (bodyOf st) ⟨σ.n, σ.hp, locOf bs fun _ => none⟩
      (fun fl σ' => ∃ hp, (∀ i o, hp i = some o → σ'.hp i = some o) ∧ Q (retOf fl) ⟨σ'.n, hp, σ.loc⟩) NoX)
    (hk : (bs.map (·.1)).all (fun y => isLoc2 ((namesOf st).lookup y)) = true := by kernel_rfl) : ACall C lv env (.ref a) ps kw σ Q X := by
  refine a_fn G.fn hd hb (fun y hy => ?_) fun env' hsc hok hfr => h env' (G.names ▸ Sc.of hsc hok) ⟨hfr, _, rfl⟩
  have h1 := List.all_eq_true.mp hk y.1 (List.mem_map_of_mem hy)
  rw [G.names]
  cases hq : (namesOf st).lookup y.1 with
  | none => rw [hq] at h1; cases h1
  | some k => rw [hq] at h1; cases k <;> first | (cases h1; done) | simp

theorem Binds.of {C : Cx} {lv : Lv} {env : Env} {σ : St} {fd : FuncData} {ps : List PV} {kw bs : List (Str × PV)}
    (h : ∀ (f : Nat → Addr) (n : Nat) (hp : Heap) (vs : List Value) (ks : List (Str × Value)), RepL f n hp vs ps → RepK f n hp ks kw → ∃ binds, (∀ S, peek C.K S (bindArgs fd ⟨vs, ks⟩) = some binds) ∧ RepK f n hp binds bs) : Binds C lv env σ fd ps kw bs := by
  intro f s vs ks R hv hk
  obtain ⟨binds, h1, h2⟩ := h f σ.n s.heap vs ks hv hk
  refine ⟨binds, fun M A E Q hq => ?_, h2⟩
  exact (Looks.of_peek R.K (h1 _)).here hq
end Mine

open PySem PySem.W PyProof.Rows PySem.Calls
set_option Elab.async false
set_option maxRecDepth 100000
set_option linter.unusedVariables false
namespace Mine

def st (l : List Nat) : Str := ⟨l.toArray⟩
theorem st_append (a b : List Nat) : st a ++ st b = st (a ++ b) := by
  have : (st a ++ st b).cps = (st (a ++ b)).cps := by rw [Str.cps_append]; simp [st]
  cases h : st a ++ st b; rw [h] at this; cases this; rfl
theorem st_len (a : List Nat) : (st a).length = a.length := by show (a.toArray).size = _; simp
theorem st_toList (a : List Nat) : (st a).cps.toList = a := by simp [st]
theorem st_inj {a b : List Nat} : st a = st b ↔ a = b := by
  constructor
  · intro h; have := congrArg (fun x : Str => x.cps.toList) h; simpa [st] using this
  · intro h; rw [h]
theorem st_of (x : Str) : x = st x.cps.toList := by cases x; simp [st]

def single (c : Nat) : Str := ⟨#[c]⟩
theorem single_eq (c : Nat) : (⟨#[c]⟩ : Str) = st [c] := rfl

theorem signs_st (l : List Nat) : signs (st l) = l.map fun c => .str (st [c]) := by
  simp [signs, st]

theorem join_st (sep : List Nat) : ∀ ls : List (List Nat), Str.join (st sep) (ls.map st) = st ((ls.intersperse sep).flatten)
  | [] => rfl
  | [a] => by simp [Str.join]
  | a :: b :: r => by
    have ih := join_st sep (b :: r)
    show st a ++ st sep ++ Str.join (st sep) ((b :: r).map st) = _
    rw [ih, st_append, st_append]
    simp

/-- each sign c becomes z -/
def sub1 (c : Nat) (z : List Nat) (l : List Nat) : List Nat := l.flatMap fun d => if d = c then z else [d]
theorem sub1_append (c : Nat) (z a b : List Nat) : sub1 c z (a ++ b) = sub1 c z a ++ sub1 c z b := by simp [sub1]
theorem sub1_free (c : Nat) (z : List Nat) : ∀ l : List Nat, c ∉ l → sub1 c z l = l
  | [], _ => rfl
  | k :: r, h => by
    have h1 : ¬ k = c := fun e => h (e ▸ List.mem_cons_self ..)
    have ih := sub1_free c z r fun m => h (List.mem_cons_of_mem _ m)
    unfold sub1 at ih ⊢
    rw [List.flatMap_cons, if_neg h1, ih]; rfl
theorem sub1_join (c : Nat) (z : Str) : ∀ parts : List Str, (∀ p ∈ parts, c ∉ p.cps.toList) → sub1 c z.cps.toList (Str.join ⟨#[c]⟩ parts).cps.toList = (Str.join z parts).cps.toList
  | [], _ => rfl
  | [p], h => sub1_free c _ _ (h p (List.mem_singleton.mpr rfl))
  | p :: q :: r, h => by
    have ih := sub1_join c z (q :: r) fun a ha => h a (List.mem_cons_of_mem _ ha)
    show sub1 c z.cps.toList (p ++ ⟨#[c]⟩ ++ Str.join ⟨#[c]⟩ (q :: r)).cps.toList = (p ++ z ++ Str.join z (q :: r)).cps.toList
    simp only [Str.cps_append, Array.toList_append]
    rw [sub1_append, sub1_append, ih, sub1_free c _ _ (h p (List.mem_cons_self ..))]
    have : sub1 c z.cps.toList [c] = z.cps.toList := by simp [sub1]
    rw [this]
theorem replace_st (l : List Nat) (c : Nat) (z : List Nat) : Txt.replace (st l) (st [c]) (st z) = st (sub1 c z l) := by
  rw [st_of (Txt.replace (st l) (st [c]) (st z)), st_inj, show st [c] = ⟨#[c]⟩ from rfl, StrLaws.replace_one, ← sub1_join c (st z) _ (StrLaws.split_free (st l) c), StrLaws.join_split, st_toList, st_toList]

/-- a backslash ahead of each quotation mark and backslash -/
def esc (l : List Nat) : List Nat := l.flatMap fun c => if c = 92 ∨ c = 34 then [92, c] else [c]
theorem esc_eq (l : List Nat) : sub1 34 [92, 34] (sub1 92 [92, 92] l) = esc l := by
  induction l with
  | nil => rfl
  | cons c r ih =>
    have e : ∀ (a b : List Nat) (c z), sub1 c z (a ++ b) = sub1 c z a ++ sub1 c z b := fun a b c z => sub1_append c z a b
    have e1 : sub1 92 [92, 92] (c :: r) = sub1 92 [92, 92] [c] ++ sub1 92 [92, 92] r := e [c] r _ _
    rw [e1, e, ih]
    show _ = (if c = 92 ∨ c = 34 then [92, c] else [c]) ++ esc r
    congr 1
    by_cases h1 : c = 92
    · subst h1; decide
    · by_cases h2 : c = 34
      · subst h2; decide
      · simp [sub1, h1, h2]
theorem esc_len (l : List Nat) : (esc l).length ≤ 2 * l.length := by
  induction l with
  | nil => exact Nat.le_refl _
  | cons c r ih =>
    have e : (esc (c :: r)).length = (if c = 92 ∨ c = 34 then [92, c] else [c]).length + (esc r).length := List.length_append
    rw [e, List.length_cons]
    have : (if c = 92 ∨ c = 34 then [92, c] else [c]).length ≤ 2 := by split <;> simp
    omega
theorem sub1_len (c : Nat) (z l : List Nat) : (sub1 c z l).length ≤ l.length * (z.length + 1) := by
  induction l with
  | nil => simp [sub1]
  | cons d r ih =>
    show ((if d = c then z else [d]) ++ sub1 c z r).length ≤ _
    rw [List.length_append, List.length_cons, Nat.add_mul, Nat.one_mul]
    split
    · omega
    · show 1 + _ ≤ _; omega

theorem txt_join (sep : List Nat) (ls : List (List Nat)) : Txt.join (st sep) (ls.map st) = st ((ls.intersperse sep).flatten) := by
  show Builtin.Str.glued _ _ = _
  rw [StrLaws.glued_eq_join, join_st]
/-- a state that has grown -/
structure Grow (σ σ' : St) : Prop where
  n : σ.n ≤ σ'.n
  hp : ∀ i, i < σ.n → σ'.hp i = σ.hp i
theorem Grow.refl {σ : St} : Grow σ σ := ⟨Nat.le_refl _, fun _ _ => rfl⟩
theorem Grow.trans {a b c : St} (x : Grow a b) (y : Grow b c) : Grow a c := ⟨Nat.le_trans x.n y.n, fun i h => (y.hp i (Nat.lt_of_lt_of_le h x.n)).trans (x.hp i h)⟩
theorem Grow.alloc {σ : St} {o : AO} : Grow σ (σ.alloc o) := ⟨Nat.le_succ _, fun i h => if_neg (Nat.ne_of_lt h)⟩
theorem Grow.set {σ σ' : St} {x : Str} {v : PV} (g : Grow σ σ') : Grow σ (σ'.set x v) := ⟨g.n, g.hp⟩
theorem Grow.al {σ σ' : St} {o : AO} (g : Grow σ σ') : Grow σ (σ'.alloc o) := g.trans .alloc
theorem Grow.same {σ : St} {n : Nat} {hp : Nat → Option AO} {l l' : Str → Option PV} (g : Grow σ ⟨n, hp, l⟩) : Grow σ ⟨n, hp, l'⟩ := ⟨g.n, g.hp⟩
theorem Grow.get {σ σ' : St} (g : Grow σ σ') {i : Nat} {o : AO} (hi : i < σ.n) (h : σ.hp i = some o) : σ'.hp i = some o := (g.hp i hi).trans h
end Mine

open PySem PySem.W PyProof.Rows PySem.Calls
set_option Elab.async false
set_option maxRecDepth 100000
set_option linter.unusedVariables false
namespace Mine
section
variable {C : Cx} {lv : Lv} {env : Env} {σ : St} {X : String → List PV → St → Prop} {names : List (Str × NameKind)}

def okIn (names : List (Str × NameKind)) (scope : Scope) (x : Str × NameKind) : Bool :=
  (match x.2 with
   | .cell => false
   | .free => isLoc (names.lookup x.1) && !(match names.lookup x.1 with | some .local => true | _ => false)
   | _ => true) && decide (scope.names.lookup x.1 = some x.2)
def blockChk (names : List (Str × NameKind)) (scope : Scope) : Bool := decide (scope.kind = .function) && scope.names.all (okIn names scope)

theorem BlockOk.of (S : Sc env names) {scope : Scope} (h : blockChk names scope = true) : BlockOk env scope := by
  unfold blockChk at h
  rw [Bool.and_eq_true] at h
  obtain ⟨hk, h⟩ := h
  have h1 : ∀ x ∈ scope.names, okIn names scope x = true := List.all_eq_true.mp h
  have h2 : ∀ x ∈ scope.names, scope.names.lookup x.1 = some x.2 := fun x hx => by
    have := h1 x hx; unfold okIn at this; rw [Bool.and_eq_true] at this; exact of_decide_eq_true this.2
  refine ⟨of_decide_eq_true hk, fun x hx e => ?_, fun x hx => ?_, fun x k hx => h2 _ hx⟩
  · have := h1 x hx; unfold okIn at this; rw [e] at this; simp at this
  · have := h1 _ (mem_of_lookup hx); unfold okIn at this
    rw [Bool.and_eq_true, Bool.and_eq_true] at this
    obtain ⟨⟨q1, q2⟩, _⟩ := this
    cases hq : names.lookup x with
    | none => simp only [hq] at q1; cases q1
    | some k =>
      simp only [hq] at q1 q2
      cases k <;> first | (cases q1; done) | (cases q2; done) | skip
      · exact .inl (S.cel x hq)
      · exact S.fre x hq

theorem swaps_of (S : Sc env names) {elt : Expr} {gs : List Comprehension} {scope : Scope} {pos p₁ : Pos} {x : Str} {line : Nat} (hx : names.lookup x = some .local)
    (hl : (p₁.line == pos.line && !(scope.names.any fun y => y.1 == x && (y.2 == .local || y.2 == .cell))) = true) : swapsWith (.ListComp elt gs scope pos) (some (.Name x p₁)) line env = pure true := by
  show (pure (env.blockKind == .function && env.kindOf x == some .local && p₁.line == pos.line && !(scope.names.any fun (n, k) => n == x && (k == .local || k == .cell))) : Sem Bool) = _
  have hbk : env.blockKind = .function := by unfold Env.blockKind; rw [S.ok.kind]; rfl
  have hl' : (p₁.line == pos.line && !(scope.names.any fun (n, k) => n == x && (k == .local || k == .cell))) = true := hl
  rw [hbk, S.loc x hx, Bool.and_assoc, hl']
  rfl

/-- `x = [.. for .. in ..]` -/
theorem s_comp {elt target iter : Expr} {ifs : List Expr} {scope : Scope} {pos p₁ spos : Pos} {x : Str} {Q : PFlow → St → Prop} (S : Sc env names) (hn : lv.hn = true)
    (h : AE C lv env iter σ (fun p σ₁ => CSpec C lv env scope target elt ifs p σ₁ (fun r σ₂ => Q .next (σ₂.set x r))) X) (hb : blockChk names scope = true := by decide +kernel) (hx : names.lookup x = some .local := by decide +kernel)
    (hl : (p₁.line == pos.line && !(scope.names.any fun y => y.1 == x && (y.2 == .local || y.2 == .cell))) = true := by decide +kernel)
    (hs : ∀ x, foldedSetIterable iter env x = pure x := by intro _; rfl) :
    AS C lv env (.Assign [.Name x p₁] (.ListComp elt [⟨target, iter, ifs, 0⟩] scope pos) spos) σ Q X :=
  s_assign_comp S.ok hn (.of S hb) (S.loc x hx) (swaps_of S hx hl) h hs
theorem e_comp {elt target iter : Expr} {ifs : List Expr} {scope : Scope} {pos : Pos} {Q : PV → St → Prop} (S : Sc env names) (hn : lv.hn = true)
    (h : AE C lv env iter σ (fun p σ₁ => CSpec C lv env scope target elt ifs p σ₁ Q) X) (hb : blockChk names scope = true := by decide +kernel)
    (hs : ∀ x, foldedSetIterable iter env x = pure x := by intro _; rfl) :
    AE C lv env (.ListComp elt [⟨target, iter, ifs, 0⟩] scope pos) σ Q X := e_listcomp S.ok hn (.of S hb) h hs

theorem AAssign.mono {t : Expr} {p : PV} {Q Q' : St → Prop} (h : AAssign C lv env t p σ Q X) (hq : ∀ σ', Q σ' → Q' σ') : AAssign C lv env t p σ Q' X :=
  fun A f s v hA R hv => wpAny_mono (h A f s v hA R hv) (fun _ _ ⟨b, σ', f', h1, h2, h3, h4⟩ => ⟨b, σ', f', hq σ' h1, h2, h3, h4⟩) fun _ _ x => x
theorem noFree {names : List (Str × NameKind)} (h : names.all (fun x => x.2 != .free) = true) (x : Str) (hx : names.lookup x = some .free) : False := by
  have := List.all_eq_true.mp h _ (mem_of_lookup hx)
  simp at this
theorem clip_nat {n k : Nat} (hk : k ≤ n) : clipAt n (k : Int) = k := by
  unfold clipAt
  rw [if_neg (by omega)]
  omega
theorem cut_take {α : Type} (l : List α) {k : Nat} (hk : k ≤ l.length) : cut l none (some (k : Int)) = l.take k := by
  show (l.drop 0).take (clipAt l.length (k : Int) - 0) = _
  rw [clip_nat hk]; simp
theorem cut_drop {α : Type} (l : List α) {k : Nat} (hk : k ≤ l.length) : cut l (some (k : Int)) none = l.drop k := by
  show (l.drop (clipAt l.length (k : Int))).take (l.length - clipAt l.length (k : Int)) = _
  rw [clip_nat hk]; exact List.take_of_length_le (by rw [List.length_drop]; omega)
theorem sum_len_single {L : List Nat} : ((L.map fun c => st [c]).map (·.length)).sum = L.length := by
  induction L with
  | nil => rfl
  | cons a r ih => simp only [List.map_cons, List.sum_cons, ih, List.length_cons]; rw [st_len]; simp; omega
theorem join_single (L : List Nat) : Txt.join (st []) (L.map fun c => st [c]) = st L := by
  have := txt_join [] (L.map fun c => [c])
  rw [List.map_map] at this
  rw [show (L.map fun c => st [c]) = List.map (st ∘ fun c => [c]) L from rfl, this]
  congr 1
  have key : ∀ l : List Nat, ((l.map fun c => [c]).intersperse []).flatten = l := by
    intro l
    induction l with
    | nil => rfl
    | cons a r ih =>
      cases r with
      | nil => rfl
      | cons b r' => simp only [List.map_cons, List.intersperse_cons₂, List.flatten_cons, List.nil_append] at ih ⊢; rw [ih]; rfl
  exact key L
/-- a comprehension that changes nothing -/
theorem comp_pure {elt target : Expr} {ifs : List Expr} {scope : Scope} {p : PV} {l : List PV} {ok : St → Prop} {Q : PV → St → Prop} (g : PV → Option PV) (h0 : 0 < σ.n) (hit : Iterable C lv env p l ok σ) (hok : ∀ τ, Grow σ τ → ok τ) (hl : l.length < 16777216)
    (turn : ∀ cenv, Sc cenv scope.names → ∀ p ∈ l, ∀ τ : St, Grow σ τ → (∀ x, scope.names.lookup x = some .free → τ.loc x = σ.loc x) →
      AAssign C lv cenv target p τ (fun τ₁ => ATests C lv cenv ifs τ₁ (fun b τ₂ => (b = true → AE C lv cenv elt τ₂ (fun e τ₃ => g p = some e ∧ Grow τ τ₃ ∧ ∀ x, scope.names.lookup x = some .free → τ₃.loc x = τ.loc x) NoX) ∧
        (b = false → g p = none ∧ Grow τ τ₂ ∧ ∀ x, scope.names.lookup x = some .free → τ₂.loc x = τ.loc x)) NoX) NoX)
    (done : ∀ τ, Grow σ τ → τ.hp σ.n = some (.list (l.filterMap g)) → σ.n < τ.n → τ.loc = σ.loc → Q (.ref σ.n) τ) : CSpec C lv env scope target elt ifs p σ Q := by
  refine ⟨l, ok, fun k acc τ => acc = (l.take k).filterMap g ∧ Grow σ τ ∧ σ.n < τ.n ∧ τ.hp σ.n = some (.list acc) ∧ ∀ x, scope.names.lookup x = some .free → τ.loc x = σ.loc x, h0, hit, ?_, ?_, ?_, ?_⟩
  · intro loc hloc
    exact ⟨rfl, ⟨Nat.le_succ _, fun i hi => if_neg (Nat.ne_of_lt hi)⟩, Nat.lt_succ_self _, if_pos rfl, hloc⟩
  · intro k acc τ ⟨_, g1, _, _, h5⟩
    exact ⟨hok τ g1, h5⟩
  · intro cenv hsc k acc p τ hp ⟨h1, h2, h3, h4, h5⟩
    have hmem : p ∈ l := List.mem_of_getElem? hp
    have hk : k < l.length := (List.getElem?_eq_some_iff.mp hp).1
    have htake : l.take (k + 1) = l.take k ++ [p] := by rw [List.take_add_one, hp]; rfl
    have hlen : acc.length < 16777216 := by
      rw [h1]
      have a1 := List.length_filterMap_le g (l.take k)
      rw [List.length_take] at a1
      omega
    refine (turn cenv hsc p hmem τ h2 h5).mono fun τ₁ t1 => t1.mono (fun b τ₂ t2 => ⟨fun hb => (t2.1 hb).mono (fun e τ₃ ⟨q1, q2, q3⟩ => ?_) fun _ _ _ x => x, fun hb => ?_⟩) fun _ _ _ x => x
    · refine ⟨(q2.hp _ h3).trans h4, hlen, ?_, ⟨(h2.trans q2).n, fun i hi => (if_neg (Nat.ne_of_lt hi)).trans ((h2.trans q2).hp i hi)⟩, Nat.lt_of_lt_of_le h3 q2.n, if_pos rfl, fun x hx => (q3 x hx).trans (h5 x hx)⟩
      rw [htake, List.filterMap_append, h1]
      simp [q1]
    · obtain ⟨q1, q2, q3⟩ := t2.2 hb
      refine ⟨?_, h2.trans q2, Nat.lt_of_lt_of_le h3 q2.n, (q2.hp _ h3).trans h4, fun x hx => (q3 x hx).trans (h5 x hx)⟩
      rw [htake, List.filterMap_append, h1]
      simp [q1]
  · intro acc τ ⟨h1, h2, h3, h4, h5⟩
    rw [List.take_length] at h1
    exact ⟨τ.hp, fun i o e => e, done _ ⟨h2.n, h2.hp⟩ (by rw [← h1]; exact h4) h3 rfl⟩
end
end Mine

open PySem PySem.W PyProof.Rows PySem.Calls
set_option Elab.async false
set_option maxRecDepth 100000
set_option linter.unusedVariables false
namespace Mine
def gAt (K : Frag) (name : Str) : Addr := match nsIn K mainGlobals name with
  | some (some (.ref a)) => a
  | _ => 0
def oAt (K : Frag) (a : Addr) : Obj := match K.lookup a with
  | some o => o
  | none => { cls := .none, data := .plain }
def noCells (names : List (Str × NameKind)) : Bool := names.all fun x => match x.2 with | .cell => false | .free => false | _ => true
theorem FnAt.of {C : Cx} {a : Addr} {o : Obj} {fd : FuncData} {body : List Stmt} (ho : C.K.lookup a = some o) (hd : o.data = .func fd) (code : codeIn C.K fd.code fd.qualname = true) (clo : fd.closure = []) (glob : fd.globals = mainGlobals) (bi : fd.builtins = builtinsNs)
    (hb : fd.body = .stmts body) (co : fd.scope.isCoroutine = false) (gen : fd.scope.isGenerator = false) (kind : fd.scope.kind = .function) (nc : noCells fd.scope.names = true) : FnAt C a fd body := by
  refine ⟨?_, code, clo, glob, bi, hb, co, gen, kind, fun x hx => ?_⟩
  · obtain ⟨oc, od, da, sl⟩ := o
    cases hd
    exact ⟨_, _, _, ho⟩
  · exfalso
    have h1 := fun k (h : fd.scope.names.lookup x = some k) => List.all_eq_true.mp nc (x, k) (mem_of_lookup h)
    rcases hx with h | h
    · have := h1 _ h; cases this
    · have := h1 _ h; cases this
theorem FnG.of {C : Cx} {name : Str} {st : Stmt} {a : Addr} {o : Obj} {fd : FuncData} (hg : nsIn C.K mainGlobals name = some (some (.ref a))) (hk : keepIn C.K (.ref a) = true) (ho : C.K.lookup a = some o) (hd : o.data = .func fd) (code : codeIn C.K fd.code fd.qualname = true) (clo : fd.closure = []) (glob : fd.globals = mainGlobals) (bi : fd.builtins = builtinsNs)
    (hb : fd.body = .stmts (bodyOf st)) (co : fd.scope.isCoroutine = false) (gen : fd.scope.isGenerator = false) (kind : fd.scope.kind = .function) (nc : noCells fd.scope.names = true) (hn : fd.scope.names = namesOf st) : FnG C name st a fd :=
  ⟨hg, hk, .of ho hd code clo glob bi hb co gen kind nc, hn⟩
end Mine

open PySem PySem.W PyProof.Rows PySem.Calls
set_option Elab.async false
set_option maxRecDepth 100000
set_option linter.unusedVariables false
namespace Mine
section
variable {C : Cx} {lv : Lv} {env : Env} {σ : St} {X : String → List PV → St → Prop} {names : List (Str × NameKind)}

theorem s_while {test : Expr} {body orelse : List Stmt} {pos : Pos} {Q : PFlow → St → Prop} (J : Nat → St → Prop) {n₀ : Nat} (h0 : J n₀ σ)
    (turn : ∀ n σ₁, J n σ₁ → AT C lv env test σ₁ (fun b σ₂ => (b = true → ASs C lv env body σ₂ (fun fl σ₃ => match fl with
      | .next => ∃ m, m < n ∧ J m σ₃ | .cont => ∃ m, m < n ∧ J m σ₃ | .brk => Q .next σ₃ | .ret v => Q (.ret v) σ₃) NoX) ∧ (b = false → ASs C lv env orelse σ₂ Q NoX)) NoX) :
    AS C lv env (.While test body orelse pos) σ Q X := by
  intro A f s hA R
  refine wpAny_While ?_
  have xE : ∀ {R' : Value → Shared → Prop} {f₁ : Nat → Addr} {σ₁ : St} {s₁ : Shared} (e : Value) (s' : Shared), PostX C lv.fs env NoX f₁ σ₁ s₁ e s' → R' e s' := fun e s' ⟨_, _, _, _, hx, _⟩ => hx.elim
  refine codeAny_whileLoop (fun n s₁ => ∃ σ₁ f₁, J n σ₁ ∧ Rel C lv.fs env f₁ σ₁ s₁ ∧ Ext env f σ s f₁ σ₁ s₁) ?_ n₀ ⟨σ, f, h0, R, .refl⟩
  rintro n s₁ ⟨σ₁, f₁, hJ, R₁, E₁⟩
  refine (turn n σ₁ hJ).use hA R₁ (fun b b' σ₂ f₂ s₂ h₂ hb R₂ E₂ => ?_) fun e s' h => xE e s' h
  cases hb
  cases b
  · rw [if_neg Bool.false_ne_true]
    exact (h₂.2 rfl).use hA R₂ (fun fl pfl σ₃ f₃ s₃ h₃ hr R₃ E₃ => ⟨pfl, σ₃, f₃, h₃, hr, R₃, (E₁.trans E₂).trans E₃⟩) fun e s' h => xE e s' h
  · rw [if_pos rfl]
    refine (h₂.1 rfl).use hA R₂ (fun fl pfl σ₃ f₃ s₃ h₃ hr R₃ E₃ => ?_) fun e s' h => xE e s' h
    have E₄ := (E₁.trans E₂).trans E₃
    cases hr with
    | next => obtain ⟨m, hm, hj⟩ := h₃; exact ⟨m, hm, σ₃, f₃, hj, R₃, E₄⟩
    | cont => obtain ⟨m, hm, hj⟩ := h₃; exact ⟨m, hm, σ₃, f₃, hj, R₃, E₄⟩
    | brk => exact ⟨.next, σ₃, f₃, h₃, .next, R₃, E₄⟩
    | ret hv => exact ⟨_, σ₃, f₃, h₃, .ret hv, R₃, E₄⟩

theorem s_expr {e : Expr} {pos : Pos} {Q : PFlow → St → Prop} (hk : EnvOk env) (h : AE C lv env e σ (fun _ σ₁ => Q .next σ₁) X) (hs : swapsWith e none pos.line env = pure false := by rfl) : AS C lv env (.Expr e pos) σ Q X := by
  intro A f s hA R
  refine wpAny_Expr_any (h.use hA R (fun va a σ₁ f₁ s₁ h₁ ra R₁ E₁ => ⟨.next, σ₁, f₁, h₁, .next, R₁, E₁⟩) fun _ _ x => x) ?_ hs
  unfold interactive
  rw [hk.kind]
  rfl

theorem o_mul_str {x : Str} {n : Int} {Q : PV → St → Prop} (hx : x.length * n.toNat ≤ 16777216) (hn : n < 16777216) (hn' : -16777216 < n) (h : Q (.str (Txt.mul x n)) σ) : Op2 C lv env Rep (binaryOp .Mult) (.str x) (.int n) σ Q X := by
  intro A f s v w hA R hv hw; cases hv; cases hw
  refine wp_grow (SB.mul ⟨?_, fun h1 h2 => ?_, fun h1 h2 => ?_⟩ fun t' k _ hk => Post.here R h (.str _ _) hk)
  · rw [Bool.or_eq_false_iff]; exact ⟨decide_eq_false (by omega), decide_eq_false (by omega)⟩
  · have : x.length ≤ 16777216 := by
      have : 1 ≤ n.toNat := by omega
      exact Nat.le_trans (Nat.le_mul_of_pos_right _ this) hx
    have h3 : (16777216 : Int) ≤ (2 ^ 63 - 1) / n := by
      rw [Int.le_ediv_iff_mul_le (by omega)]
      omega
    omega
  · unfold Builtin.Str.tooLong
    rw [sizeLine_eq]
    exact decide_eq_false (by omega)

theorem RepL.set {f : Nat → Addr} {n : Nat} {h : Heap} {v : Value} {p : PV} (hv : Rep f n h v p) : ∀ {vs : List Value} {ps : List PV} {k : Nat}, RepL f n h vs ps → RepL f n h (vs.set k v) (ps.set k p)
  | _, _, _, .nil => .nil
  | _, _, 0, .cons _ r => .cons hv r
  | _, _, _ + 1, .cons a r => .cons a (RepL.set hv r)

theorem mapSeq_plain {its its' : Array Value} {n n' : Nat} {g : Array Value → Array Value} (h : (Obj.mapSeq g { cls := .type "list", data := .seq its n }).data = .seq its' n') : Obj.mapSeq g { cls := .type "list", data := .seq its n } = { cls := .type "list", data := .seq its' n' } := by
  unfold Obj.mapSeq at h ⊢
  simp only at h ⊢
  rw [h]
theorem set_at {M : Program} {w : World} {A : Around} {E : Value → Shared → Prop} {s : Shared} {D : Addr} {its : Array Value} {n : Nat} {k : Int} {t : Tok} {v : Value} {Q : Unit → Shared → Prop} (ho : s.heap.get? D = some { cls := .type "list", data := .seq its n }) (h0 : 0 ≤ k) (hfit : k < 16777216) (hn : k < its.size)
    (h : ∀ h' n', Heap.SameBut D s.heap h' → h'.get? D = some { cls := .type "list", data := .seq (its.setIfInBounds k.toNat v) n' } → Q () { s with heap := h' }) : wpAny (model M w) A (setItem (.ref D) (.int k t) v) Q E s := by
  have hl : s.heap.IsList D its := ⟨_, ho, rfl, _, rfl⟩
  unfold setItem
  try with_reducible refine wpAny_holding ?_
  first | refine wpAny_bind (wpAny_pure ?_) | skip
  refine wpAny_bind (wpAny_sequenceKey hl.typeIs (by decide) ?_)
  refine wpAny_bind (wpAny_callSpecial?_slot (name := Str.ofString "__setitem__") hl.typeIs slot_list_setitem
    (wpAny_call_entry slot_list_setitem hl.typeIs entry_list_setitem ?_ (args_list_setitem _ _ _)))
  show wpAny _ _ (Builtin.List.listSubscript? (.int k t) >>= _) _ _ s
  refine wpAny_bind (wpAny_listSubscript_int (fitsIndex_of h0 (by omega)) ?_)
  obtain ⟨j, rfl⟩ := Int.eq_ofNat_of_zero_le h0
  have hj : j < its.size := by omega
  have hx' : its[j]? = some its[j] := Array.getElem?_eq_getElem hj
  show wpAny _ _ ((seqItemAt D j >>= fun r => pure (r.map (j, ·))) >>= _) _ _ s
  refine wpAny_bind (wpAny_bind (wpAny_seqItemAt ho rfl (wpAny_pure ?_)))
  rw [hx']
  show wpAny _ _ (setSeqItemAt D j v >>= _) _ _ s
  have fin : Q () { s with heap := s.heap.update D (Obj.mapSeq (·.setIfInBounds j v)) } := by
    obtain ⟨n', hd'⟩ := Obj.data_mapSeq (o := { cls := .type "list", data := .seq its n }) rfl (·.setIfInBounds j v)
    refine h _ n' (Heap.SameBut.update ..) ?_
    rw [Heap.get?_update_self _ ho (Obj.isFreed_of_seq hd')]
    exact congrArg some (mapSeq_plain hd')
  refine wpAny_bind (wpAny_setSeqItemAt ho rfl ?_)
  first
    | exact wpAny_bind (wpAny_pure (wpAny_pure ⟨.none, rfl, wpAny_pure fin⟩))
    | exact wpAny_pure ⟨.none, rfl, wpAny_pure fin⟩

/-- o[i] op= value, for a list -/
theorem s_augsub {o i : Expr} {spos pos : Pos} {op : Operator} {value : Expr} {Q : PFlow → St → Prop}
    (h : AE C lv env o σ (fun po σ₁ => AE C lv env i σ₁ (fun pi σ₂ => ∃ j l k p, po = .ref j ∧ 0 < j ∧ pi = .int k ∧ σ₂.hp j = some (.list l) ∧ 0 ≤ k ∧ k < 16777216 ∧ l[k.toNat]? = some p ∧ l.length ≤ 16777216 ∧
      AE C lv env value σ₂ (fun v σ₃ => Op2 C lv env Rep (inplaceOp op) p v σ₃ (fun r σ₄ => ∃ l', σ₄.hp j = some (.list l') ∧ l'.length = l.length ∧ Q .next (σ₄.upd j (.list (l'.set k.toNat r)))) X) X) X) X)
    (he : ∀ ov iv new, augStore i ov iv new = (do holding [new, ov, iv] (setItem ov iv new); release [new, ov, iv] []; pure .next) := by intro _ _ _; rfl) : AS C lv env (.AugAssign (.Subscript o i spos) op value pos) σ Q X := by
  intro A f s hA R
  show wpAny C.M A (exec (.AugAssign (.Subscript o i spos) op value pos) env) _ _ s
  rw [arm_exec_AugAssign_3]
  refine wpAny_bind (wpAny_standAt (wpAny_bind (h.use hA R (fun vo po σ₁ f₁ s₁ h₁ ro R₁ E₁ => ?_) fun _ _ x => x)))
  refine wpAny_bind (wpAny_holding (h₁.use hA R₁ (fun vi pi σ₂ f₂ s₂ h₂ ri R₂ E₂ => ?_) fun _ _ x => PostX.trans E₁ x))
  obtain ⟨j, l, k, p, rfl, hj0, rfl, hj, hk0, hk1, hp, hl, h₃⟩ := h₂
  cases ri with
  | int _ tk =>
  cases ro with
  | ref hlt =>
  obtain ⟨hlt₂, vs, kk, hget, hvs⟩ := R₂.objs j _ hj
  obtain ⟨w, hw, hr⟩ := hvs.get hp
  have hag : f₁ j = f₂ j := (E₂.agree j hlt).symm
  rw [hag]
  have hL : s₂.heap.IsList (f₂ j) vs.toArray := ⟨_, hget, rfl, _, rfl⟩
  refine wpAny_bind (wpAny_holding (wpAny_bind (wpAny_standAt (wpAny_bind (wpAny_getItem_list (x := w) hL hk0 (by omega) (by simpa using hw) ?_)))))
  refine wpAny_bind (wpAny_holding (h₃.use hA R₂ (fun vv v σ₃ f₃ s₃ h₄ rv R₃ E₃ => ?_) fun _ _ x => PostX.trans (E₁.trans E₂) x))
  refine wpAny_bind (wpAny_standAt (wpAny_operating (wpAny_mono (h₄ A f₃ s₃ w vv hA R₃ (hr.ext R₂ E₃) rv) (fun rr s₄ ⟨r, σ₄, f₄, ⟨l', hj', hl', hq⟩, rrep, R₄, E₄⟩ => ?_) fun _ _ x => PostX.trans ((E₁.trans E₂).trans E₃) x)))
  refine wpAny_bind (wpAny_standAt ?_)
  rw [he]
  have hag₄ : f₂ j = f₄ j := ((E₄.agree j (Nat.lt_of_lt_of_le hlt₂ E₃.le)).trans (E₃.agree j hlt₂)).symm
  rw [hag₄]
  obtain ⟨hlt₄, vs', kk', hget', hvs'⟩ := R₄.objs j _ hj'
  have hklen : k.toNat < l.length := (List.getElem?_eq_some_iff.mp hp).1
  refine wpAny_bind (wpAny_holding (set_at hget' hk0 hk1 (by rw [List.size_toArray, hvs'.length]; omega) fun h' n' hs ho' => ?_))
  refine wpAny_bind (wpAny_release (wpAny_pure ?_))
  have hto : ∀ a ws, s₄.heap.IsTuple a ws → h'.IsTuple a ws := fun a ws ⟨o, e, c, r⟩ => ⟨o, (hs.2 a (fun q => by rw [q, hget'] at e; cases e; simp at c)).trans e, c, r⟩
  have ho'' : h'.get? (f₄ j) = some { cls := .type "list", data := .seq (vs'.set k.toNat rr).toArray n' } := by rw [ho']; simp
  obtain ⟨R', E'⟩ := R₄.upd (s' := { s₄ with heap := h' }) (ao' := .list (l'.set k.toNat r)) hj' hj0 hget' ho'' rfl rfl hs rfl rfl (Nat.le_refl _)
    ⟨vs'.set k.toNat rr, n', ho'', (RepL.set rrep hvs').mono (fun _ _ => rfl) (Nat.le_refl _) hto⟩
  exact ⟨_, _, _, hq, .next, R', ((E₁.trans E₂).trans (E₃.trans E₄)).trans E'⟩
end
end Mine

open PySem PySem.W PyProof.Rows PySem.Calls
set_option Elab.async false
set_option maxRecDepth 100000
set_option linter.unusedVariables false
namespace Mine
section
variable {C : Cx} {lv : Lv} {env : Env} {σ : St} {X : String → List PV → St → Prop} {names : List (Str × NameKind)}

/-- targets filled in their order -/
def AAll (C : Cx) (lv : Lv) (env : Env) (X : String → List PV → St → Prop) : List Expr → List PV → St → (St → Prop) → Prop
  | e :: es, p :: ps, σ, Q => AAssign C lv env e p σ (fun σ' => AAll C lv env X es ps σ' Q) X
  | [], [], σ, Q => Q σ
  | _, _, _, _ => False

theorem AAll.order {A : Around} (hA : OkA lv A) {Q : St → Prop} {f₀ : Nat → Addr} {σ₀ : St} {s₀ : Shared} : ∀ {es : List Expr} {ps : List PV} {vs : List Value} {σ : St} {f : Nat → Addr} {s : Shared}, AAll C lv env X es ps σ Q → RepL f σ.n s.heap vs ps →
    Rel C lv.fs env f σ s → Ext env f₀ σ₀ s₀ f σ s → wpAny C.M A (assignInOrder (es.map fun e => assign e env) vs) (Post C lv.fs env repU (fun _ σ' => Q σ') f₀ σ₀ s₀) (PostX C lv.fs env X f₀ σ₀ s₀) s
  | [], [], vs, σ, f, s, h, hv, R, E => by cases hv; exact wpAny_pure ⟨(), σ, f, h, trivial, R, E⟩
  | [], _ :: _, _, _, _, _, h, _, _, _ => h.elim
  | _ :: _, [], _, _, _, _, h, _, _, _ => h.elim
  | e :: es, p :: ps, _, σ, f, s, h, hv, R, E => by
    cases hv with
    | cons hv hr =>
      show wpAny C.M A (holding _ (assign e env _) >>= fun _ => assignInOrder (es.map fun e => assign e env) _) _ _ s
      refine wpAny_bind (wpAny_holding (wpAny_mono (h A f s _ hA R hv) (fun _ s₁ ⟨_, σ₁, f₁, h₁, _, R₁, E₁⟩ => ?_) fun _ _ x => PostX.trans E x))
      exact AAll.order hA h₁ (hr.ext R E₁) R₁ (E.trans E₁)

theorem a_tup {elts : List Expr} {k : Nat} {pos : Pos} {ps : List PV} {Q : St → Prop} (hn : lv.hn = true) (hl : elts.length = ps.length) (h : AAll C lv env X elts ps σ Q)
    (he : assignEach elts env = elts.map fun e => (false, assign e env) := by rfl) : AAssign C lv env (.Tuple elts k pos) (.tup ps) σ Q X := by
  intro A f s v hA R hv
  cases hv with
  | tup ht hvs =>
    rename_i t vs
    show wpAny C.M A (assign (.Tuple elts k pos) env _) _ _ s
    rw [arm_assign_Tuple]
    refine wpAny_bind (wpAny_standAt ?_)
    unfold unpack
    have hlen : (assignEach elts env).length = vs.toArray.size := by rw [he, List.length_map, List.size_toArray, hvs.length, hl]
    have hst : (assignEach elts env).findIdx? (·.1) = none := by rw [he]; simp [List.findIdx?_eq_none_iff]
    have e : (assignEach elts env).map (·.2) = elts.map fun e => assign e env := by rw [he, List.map_map]; rfl
    rw [hst, e, hlen]
    refine wpAny_bind (wpAny_holding (wp_grow (wpAny_unpackItems_tuple (hA.handled hn) ht fun h' hext hsz htk => ?_)))
    have hk : ∀ b o, s.heap.get? b = some o → h'.get? b = some o := fun b o e => hext b o (Nat.ne_of_lt (Heap.lt_size e)) e
    have R' := R.keeps (s' := { s with heap := h' }) hk rfl rfl (Nat.le_refl _)
    exact AAll.order hA h (hvs.mono (fun _ _ => rfl) (Nat.le_refl _) fun a ws ⟨o, e, r⟩ => ⟨o, hk _ _ e, r⟩) R' (.keeps hk hsz)

/-- drawing all items of an iterator -/
theorem draw_go {A : Around} {I : Addr} {l : List PV} {ok : St → Prop} {at_ : Nat → Heap → Prop} {f f₁ : Nat → Addr} {n₁ : Nat} (hA : OkA lv A) (W : IterSpec C lv f₁ n₁ I l ok at_) (hok : ok σ) (hag : ∀ j, j < n₁ → j < σ.n ∧ f j = f₁ j) (hIb : C.base.get? I = none) (hIf : ∀ i, i < σ.n → f i ≠ I)
    {Q : List Value → Shared → Prop} {E : Value → Shared → Prop} : ∀ (n k : Nat) (s : Shared), k + n = l.length → Rel C lv.fs env f σ s → at_ k s.heap →
    (∀ vs s', RepL f σ.n s'.heap vs (l.drop k) → Rel C lv.fs env f σ s' → at_ l.length s'.heap → (∀ b o, b ≠ I → s.heap.get? b = some o → s'.heap.get? b = some o) → s.heap.objs.size ≤ s'.heap.objs.size → Q vs s') → wpAny C.M A (draw (.ref I) n) Q E s
  | 0, k, s, hk, R, hat, h => by
    refine wpAny_pure (h [] s ?_ R (by rw [← hk]; exact hat) (fun _ _ _ e => e) (Nat.le_refl _))
    rw [show k = l.length from by omega, List.drop_length]; exact .nil
  | n + 1, k, s, hk, R, hat, h => by
    obtain ⟨p, hp⟩ : ∃ p, l[k]? = some p := ⟨l[k]'(by omega), List.getElem?_eq_getElem (by omega)⟩
    obtain ⟨oI, hoI, hcI, hFI, _⟩ := W.obj k _ hat
    have hDI : isD oI.data = false := by cases h : oI.data <;> rw [h] at hFI <;> first | rfl | cases hFI
    have hCI : ∀ v, oI.data ≠ .cell v := fun v q => by rw [q] at hFI; cases hFI
    show wpAny C.M A (pyNext (.ref I) >>= fun r => match r with | none => pure [] | some v => do return v :: (← holding [v] (draw (.ref I) n))) Q E s
    refine wpAny_bind (W.next env A f σ s k p _ _ hA R hag hat hok hp fun v s' hat' hv hkp hsz hos hgs htk => ?_)
    have R' := R.other (s' := s') hoI hcI hDI hCI hFI hIb hIf hkp hos hgs htk
    refine wpAny_bind (wpAny_holding (draw_go hA W hok hag hIb hIf n (k + 1) s' (by omega) R' hat' fun vs s'' hvs R'' hat'' hkp' hsz' => wpAny_pure (h (v :: vs) s'' ?_ R'' hat'' (fun b o hb e => hkp' b o hb (hkp b o hb e)) (Nat.le_trans hsz hsz'))))
    rw [show l.drop k = p :: l.drop (k + 1) from by rw [List.drop_eq_getElem_cons (by omega)]; congr 1; rw [List.getElem?_eq_getElem (by omega)] at hp; exact Option.some.inj hp]
    refine .cons (hv.mono (fun _ _ => rfl) (Nat.le_refl _) fun a ws ⟨o₁, e₁, c₁, r₁⟩ => ⟨o₁, hkp' a o₁ (fun q => ?_) e₁, c₁, r₁⟩) hvs
    obtain ⟨oI', hoI', hcI', _⟩ := W.obj _ _ hat'
    rw [q, hoI'] at e₁; cases e₁; exact hcI' c₁

/-- a list's items fill targets -/
theorem a_unl {elts : List Expr} {k : Nat} {pos : Pos} {i : Nat} {ps : List PV} {Q : St → Prop} (hn : lv.hn = true) (hi : σ.hp i = some (.list ps)) (hl : elts.length = ps.length) (h : AAll C lv env X elts ps σ Q)
    (he : assignEach elts env = elts.map fun e => (false, assign e env) := by rfl) : AAssign C lv env (.Tuple elts k pos) (.ref i) σ Q X := by
  intro A f s v hA R hv
  have hit := it_list (C := C) (lv := lv) (env := env) (σ := σ) hn hi
  have hv' := hv
  cases hv with
  | ref hlt =>
    obtain ⟨_, vs, kk, hget, hvs⟩ := R.objs i _ hi
    have hT : s.TypeIs (.ref (f i)) "list" := ⟨_, hget, rfl⟩
    show wpAny C.M A (assign (.Tuple elts k pos) env _) _ _ s
    rw [arm_assign_Tuple]
    refine wpAny_bind (wpAny_standAt ?_)
    unfold unpack
    have hlen : (assignEach elts env).length = ps.length := by rw [he, List.length_map, hl]
    have hst : (assignEach elts env).findIdx? (·.1) = none := by rw [he]; simp [List.findIdx?_eq_none_iff]
    have e : (assignEach elts env).map (·.2) = elts.map fun e => assign e env := by rw [he, List.map_map]; rfl
    rw [hst, e, hlen]
    refine wpAny_bind (wpAny_holding ?_)
    unfold unpackItems
    refine wpAny_bind ?_
    unfold notIterableAtAll
    refine wpAny_bind (wpAny_specialOf hT slot_list_iter.lookup ?_)
    refine wpAny_pure ?_
    simp only [Bool.false_eq_true, if_false]
    refine wpAny_bind (wpAny_holding (hit A f s _ _ _ hA R hv' fun I at_ s' W hat hI hk hsz hos hgs htk => ?_))
    have R' := R.keeps hk hos hgs htk
    have hIn : ∀ b o, s.heap.get? b = some o → b ≠ I := fun b o e => Nat.ne_of_lt (Nat.lt_of_lt_of_le (Heap.lt_size e) hI)
    have hIf : ∀ j, j < σ.n → f j ≠ I := fun j hj => let ⟨_, e, _⟩ := R.kind j hj; hIn _ _ e
    have hIb : C.base.get? I = none := by
      cases hq : C.base.get? I with
      | none => rfl
      | some o => exact absurd rfl (hIn _ _ (R.base _ _ hq))
    refine wpAny_bind (wpAny_holding (draw_go hA W hi (fun j hj => ⟨hj, rfl⟩) hIb hIf ps.length 0 s' (by omega) R' hat fun ws s'' hws R'' hat'' hkp hsz' => ?_))
    rw [List.drop_zero] at hws
    rw [if_neg (by rw [hws.length]; omega)]
    obtain ⟨oI, hoI, hcI, hFI, _⟩ := W.obj _ _ hat''
    have hDI : isD oI.data = false := by cases h : oI.data <;> rw [h] at hFI <;> first | rfl | cases hFI
    have hCI : ∀ v, oI.data ≠ .cell v := fun v q => by rw [q] at hFI; cases hFI
    refine wpAny_bind (wpAny_holding (W.stop env A f σ s'' _ _ hA hn R'' (fun j hj => ⟨hj, rfl⟩) hat'' hi fun s₃ hkp₃ hsz₃ hos₃ hgs₃ htk₃ => ?_))
    simp only [Option.isSome_none, Bool.false_eq_true, if_false]
    have R₃ := R''.other (s' := s₃) hoI hcI hDI hCI hFI hIb hIf hkp₃ hos₃ hgs₃ htk₃
    refine wpAny_pure (AAll.order hA h (hws.mono (fun _ _ => rfl) (Nat.le_refl _) fun a xs ⟨o₁, e₁, c₁, r₁⟩ => ⟨o₁, hkp₃ a o₁ (fun q => ?_) e₁, c₁, r₁⟩) R₃ (.keeps (fun b o e => hkp₃ b o (hIn b o e) (hkp b o (hIn b o e) (hk b o e))) (Nat.le_trans hsz (Nat.le_trans hsz' hsz₃))))
    rw [q, hoI] at e₁; cases e₁; exact hcI c₁
end
end Mine

open PySem PySem.W PyProof.Rows PySem.Calls
set_option Elab.async false
set_option maxRecDepth 100000
set_option linter.unusedVariables false
namespace Mine
open PySem.Builtin.Str in
theorem sliceIdx_min (len p q : Nat) : strSliceIndices (some (p : Int)) (some (q : Int)) 1 len = strSliceIndices (some ((min p len : Nat) : Int)) (some ((min q len : Nat) : Int)) 1 len := by
  have a1 : ¬ ((p : Int) < 0) := by omega
  have a2 : ¬ ((q : Int) < 0) := by omega
  have a3 : ¬ (((min p len : Nat) : Int) < 0) := by omega
  have a4 : ¬ (((min q len : Nat) : Int) < 0) := by omega
  have e1 : max (0 : Int) (min (p : Int) (len : Int)) = max 0 (min ((min p len : Nat) : Int) (len : Int)) := by omega
  have e2 : max (0 : Int) (min (q : Int) (len : Int)) = max 0 (min ((min q len : Nat) : Int) (len : Int)) := by omega
  simp only [strSliceIndices, if_neg a1, if_neg a2, if_neg a3, if_neg a4, e1, e2, show ((1 : Int) > 0) = True from by simp, if_true]
theorem slice_st (T : List Nat) {p q : Nat} (hp : p ≤ q) : Txt.slice (st T) (some (p : Int)) (some (q : Int)) = st ((T.drop p).take (q - p)) := by
  have e : Txt.slice (st T) (some (p : Int)) (some (q : Int)) = Txt.slice (st T) (some ((min p T.length : Nat) : Int)) (some ((min q T.length : Nat) : Int)) := by
    unfold Txt.slice
    rw [sliceIdx_min, st_len]
  rw [e]
  have e2 : Txt.slice (st T) (some ((min p T.length : Nat) : Int)) (some ((min q T.length : Nat) : Int)) = _ := StrLaws.sliceText_nat (st T) (a := min p T.length) (b := min q T.length) (by omega) (by rw [st_len]; omega)
  rw [e2, st_toList]
  show st _ = st _
  rw [st_inj]
  rcases Nat.lt_or_ge p T.length with h | h
  · rw [Nat.min_eq_left (Nat.le_of_lt h)]
    rcases Nat.lt_or_ge q T.length with h2 | h2
    · rw [Nat.min_eq_left (Nat.le_of_lt h2)]
    · rw [Nat.min_eq_right h2, List.take_of_length_le (by rw [List.length_drop]; omega), List.take_of_length_le (by rw [List.length_drop]; omega)]
  · rw [Nat.min_eq_right h, Nat.min_eq_right (Nat.le_trans h hp), List.drop_of_length_le (Nat.le_refl _), List.drop_of_length_le h]; simp
end Mine

open PySem PySem.W PyProof.Rows PySem.Calls
set_option Elab.async false
set_option maxRecDepth 100000
set_option maxHeartbeats 1000000
set_option linter.unusedVariables false
namespace Mine
namespace L02
abbrev prog := PySem.Challenge.pw_dn0260_02
abbrev B1 (C : Cx) (fd : FuncData) (x : Str) : Prop := ∀ lv env σ p, Binds C lv env σ fd [p] [] [(x, p)]

structure F (C : Cx) where
  aS : Addr
  fdS : FuncData
  sign : FnG C "_law_sign" (stmtAt prog 5) aS fdS
  signB : B1 C fdS "x"
  aR : Addr
  fdR : FuncData
  rows : FnG C "_law_rows" (stmtAt prog 6) aR fdR
  rowsB : B1 C fdR "script"
  aD : Addr
  fdD : FuncData
  read : FnG C "_law_read" (stmtAt prog 7) aD fdD
  readB : B1 C fdD "text"
  aF : Addr
  fdF : FuncData
  fmt : FnG C "_formatparam" (stmtAt prog 3) aF fdF
  fmtB3 : ∀ lv env σ p q r, Binds C lv env σ fdF [p, q, r] [] [("param", p), ("value", q), ("quote", r)]
  pat : Addr
  ts : nsIn C.K mainGlobals "tspecials" = some (some (.ref pat))
  tsP : PatAt C pat codeT
  len : nsIn C.K mainGlobals "len" = some none
  chr : nsIn C.K mainGlobals "chr" = some none

def specials : List Nat := [32, 40, 41, 60, 62, 64, 44, 59, 58, 92, 34, 47, 91, 93, 63, 61]
def signCp (x : Int) : Nat :=
  if x.fmod 2 = 0 then specials.getD (((x.fdiv 2).fmod 16).toNat) 0
  else (if (x.fdiv 2).fmod 1112064 < 55296 then (x.fdiv 2).fmod 1112064 else (x.fdiv 2).fmod 1112064 + 2048).toNat

section
variable {C : Cx} {lv : Lv} {env : Env} {σ : St} {X : String → List PV → St → Prop}

theorem fmod_nonneg' (a : Int) {b : Int} (h : 0 < b) : 0 ≤ a.fmod b := Int.fmod_nonneg_of_pos a h
theorem fmod_lt' (a : Int) {b : Int} (h : 0 < b) : a.fmod b < b := Int.fmod_lt_of_pos a h

theorem sign_spec (F : F C) {x : Int} {Q : PV → St → Prop} (hd : lv.d < 30) (h : ∀ hp, hp = σ.hp → Q (.str ⟨#[signCp x]⟩) ⟨σ.n, hp, σ.loc⟩) : ACall C lv env (.ref F.aS) [.int x] [] σ Q X := by
  refine a_f F.sign hd (F.signB _ _ _ _) ?_
  intro env' S hF
  refine ss_cons (s_if (t_cmp (e_bin (e_nm S (e_int (o_mod_int (by decide) (e_int (o_eq_int (tr_bool ?_)))))))))
  refine ⟨fun hc => ?_, fun hc => ?_⟩
  · have hx : x.fmod 2 = 0 := by simpa using hc
    have h0 := fmod_nonneg' (x.fdiv 2) (b := 16) (by decide)
    have h1 := fmod_lt' (x.fdiv 2) (b := 16) (by decide)
    refine ss_ret (e_sub (e_str (e_bin (e_bin (e_nm S (e_int (o_div_int (by decide) (by decide) (e_int (o_mod_int (by decide) (o_sub_str (c := signCp x) h0 (by omega) ?_ ?_))))))))))
    · have e : signCp x = specials.getD ((x.fdiv 2).fmod 16).toNat 0 := by unfold signCp; rw [if_pos hx]
      rw [e]
      generalize hk : ((x.fdiv 2).fmod 16).toNat = k
      have hk' : k < 16 := by omega
      clear hk e
      revert k
      decide +kernel
    · exact ⟨nofun, fun _ => ⟨_, fun i o e => e, h _ rfl⟩⟩
  · have hx : ¬ x.fmod 2 = 0 := by simpa using hc
    have h0 := fmod_nonneg' (x.fdiv 2) (b := 1112064) (by decide)
    have h1 := fmod_lt' (x.fdiv 2) (b := 1112064) (by decide)
    refine ss_nil ⟨fun _ => ?_, fun q => absurd rfl q⟩
    refine ss_next (s_as S (e_bin (e_bin (e_nm S (e_int (o_div_int (by decide) (by decide) (e_int (o_mod_int (by decide) ⟨rfl, ?_⟩))))))))
    refine ss_ret (e_call (e_bi S F.chr (v := .builtin "chr") (by kernel_rfl) ⟨_, rfl, .builtin, al_cons (e_if (t_cmp (e_nm S (e_int (o_lt_int (tr_bool ?_)))))) ⟩))
    refine ⟨fun hc => ?_, fun hc => ?_⟩
    · have hc' := of_decide_eq_true hc
      refine e_nm S (al_nil (ak_nil (c_chr h0 (by omega) ⟨_, fun i o e => e, ?_⟩)))
      have e : signCp x = ((x.fdiv 2).fmod 1112064).toNat := by unfold signCp; rw [if_neg hx, if_pos hc']
      rw [← e]; exact h _ rfl
    · have hc' := of_decide_eq_false hc
      refine e_bin (e_nm (v := .int ((x.fdiv 2).fmod 1112064)) S (e_int (o_add_int (al_nil (ak_nil (c_chr (by omega) (by omega) ⟨_, fun i o e => e, ?_⟩))))))
      have e : signCp x = ((x.fdiv 2).fmod 1112064 + 2048).toNat := by unfold signCp; rw [if_neg hx, if_neg hc']
      rw [← e]; exact h _ rfl

def fmtOf (nm l : List Nat) (q : Bool) : List Nat := if l = [] then nm else if (q || l.any testT) = true then nm ++ [61, 34] ++ esc l ++ [34] else nm ++ [61] ++ l

theorem fmt_none (F : F C) {nm : Str} {r : PV} {ps : List PV} {kw : List (Str × PV)} {Q : PV → St → Prop} (hd : lv.d < 30)
    (hb : Binds C lv env σ F.fdF ps kw [("param", .str nm), ("value", .none), ("quote", r)]) (h : Q (.str nm) σ) : ACall C lv env (.ref F.aF) ps kw σ Q X := by
  refine a_f F.fmt hd hb ?_
  intro env' S hF
  refine ss_cons (s_if (t_and (t_cmp (e_nm S (e_none (o_isnot_no (tr_bool ⟨nofun, fun _ => ⟨nofun, fun _ => ?_⟩⟩)))))))
  exact ss_ret (e_nm S ⟨nofun, fun _ => ⟨_, fun i o e => e, h⟩⟩)

theorem fmt_str (F : F C) {nm l : List Nat} {r : PV} {q : Bool} {ps : List PV} {kw : List (Str × PV)} {Q : PV → St → Prop} (hd : lv.d < 30) (hn : nm.length ≤ 1000) (hl : l.length ≤ 1000)
    (hb : Binds C lv env σ F.fdF ps kw [("param", .str (st nm)), ("value", .str (st l)), ("quote", r)])
    (htr : ∀ lv env σ' Q X, σ'.hp = σ.hp → Q q σ' → Op1 C lv env repB truthy r σ' Q X)
    (h : ∀ σ', Grow σ σ' → σ'.loc = σ.loc → Q (.str (st (fmtOf nm l q))) σ') : ACall C lv env (.ref F.aF) ps kw σ Q X := by
  refine a_f F.fmt hd hb ?_
  intro env' S hF
  have hesc := esc_len l
  refine ss_cons (s_if (t_and (t_cmp (e_nm S (e_none (o_isnot_str (tr_bool ⟨fun _ => ?_, nofun⟩)))))))
  refine t_and (t_cmp (e_call (e_bi S F.len (v := .builtin "len") (by kernel_rfl) ⟨_, rfl, .builtin, al_cons (e_nm S (al_nil (ak_nil (c_len_str ?_ (e_int (o_gt_int (tr_bool ⟨fun hc => t_and_nil ⟨fun _ => ?_, nofun⟩, fun hc => ⟨nofun, fun _ => ?_⟩⟩)))))))⟩)))
  · rw [st_len]; omega
  · have hne : l ≠ [] := by
      have := of_decide_eq_true hc
      rw [st_len] at this
      intro e; subst e; simp at this
    refine ss_cons (s_if (t_mid (fun b σ' => b = (q || l.any testT) ∧ Grow σ σ' ∧ σ'.loc = locOf [("param", .str (st nm)), ("value", .str (st l)), ("quote", r)] fun _ => none) ?_ ?_))
    · refine t_or (t_val (e_nm S (htr _ _ _ _ _ rfl ⟨fun hq => ⟨by rw [hq]; rfl, ⟨Nat.le_refl _, fun _ _ => rfl⟩, rfl⟩, fun hq => ?_⟩)))
      subst hq
      refine t_or (t_val (e_mcall (e_gl S F.ts ⟨_, m_search F.tsP, .builtin, al_cons (e_nm S (al_nil (ak_nil (c_search F.tsP setT ?_ (fun ha => tr_none ⟨nofun, fun _ => t_or_nil ⟨?_, ⟨Nat.le_refl _, fun _ _ => rfl⟩, rfl⟩⟩) (fun ha => tr_match (if_pos rfl) ⟨fun _ => ⟨?_, ⟨Nat.le_succ _, fun i h => if_neg (Nat.ne_of_lt h)⟩, rfl⟩, nofun⟩)))))⟩)))
      · rw [st_len]; omega
      · rw [st_toList] at ha; rw [ha]; rfl
      · rw [st_toList] at ha; rw [ha]; rfl
    · intro b σ' ⟨hb', hg, hloc⟩
      have l1 : σ'.loc "param" = some (.str (st nm)) := by rw [hloc]; rfl
      have l2 : σ'.loc "value" = some (.str (st l)) := by rw [hloc]; rfl
      refine ⟨fun hb1 => ?_, fun hb1 => ?_⟩
      · have hval : fmtOf nm l q = nm ++ [61, 34] ++ esc l ++ [34] := by unfold fmtOf; rw [if_neg hne, if_pos (by rw [← hb']; exact hb1)]
        refine ss_next (s_as S (e_replace (e_replace (e_nm S ⟨st l, rfl, ?_, ⟨st (sub1 92 [92, 92] l), ?_, ?_, ⟨rfl, ?_⟩⟩⟩) (by decide +kernel)) (by decide +kernel)))
        · rw [st_len]; show _ + _ * 2 ≤ _; omega
        · rw [show ("\\" : Str) = st [92] from by decide +kernel, show ("\\\\" : Str) = st [92, 92] from by decide +kernel, replace_st]
        · rw [st_len]; have := sub1_len 92 [92, 92] l; show _ + _ * 2 ≤ _; simp at this; omega
        rw [show ("\"" : Str) = st [34] from by decide +kernel, show ("\\\"" : Str) = st [92, 34] from by decide +kernel, replace_st, esc_eq]
        refine ss_ret (e_joined ?_)
        refine e_fmt (e_nm S ⟨_, rfl, ?_, _, rfl, ?_, ?_⟩)
        · rw [st_len]; omega
        · rw [show Str.empty = st [] from rfl, st_append, st_len]; simp; omega
        rw [show Str.empty = st [] from rfl, st_append, List.nil_append]
        refine e_str ⟨_, rfl, ?_, ?_⟩
        · rw [show ("=\"" : Str) = st [61, 34] from by decide +kernel, st_append, st_len]; simp; omega
        rw [show ("=\"" : Str) = st [61, 34] from by decide +kernel, st_append]
        refine e_fmt (e_nm S ⟨_, rfl, ?_, _, rfl, ?_, ?_⟩)
        · rw [st_len]; omega
        · rw [st_append, st_len]; simp; omega
        rw [st_append]
        refine e_str ⟨_, rfl, ?_, ?_⟩
        · rw [st_append, st_len]; simp; omega
        rw [st_append]
        refine ⟨?_, nofun, fun _ => ⟨nofun, fun _ => ⟨_, fun i o e => e, ?_⟩⟩⟩
        · rw [st_len]; simp; omega
        · rw [← hval]; exact h _ ⟨hg.n, hg.hp⟩ rfl
      · have hval : fmtOf nm l q = nm ++ [61] ++ l := by unfold fmtOf; rw [if_neg hne, if_neg (by rw [← hb', hb1]; decide)]
        refine ss_ret (e_joined ?_)
        refine e_fmt (e_nm S ⟨_, rfl, ?_, _, rfl, ?_, ?_⟩)
        · rw [st_len]; omega
        · rw [show Str.empty = st [] from rfl, st_append, st_len]; simp; omega
        rw [show Str.empty = st [] from rfl, st_append, List.nil_append]
        refine e_str ⟨_, rfl, ?_, ?_⟩
        · rw [show ("=" : Str) = st [61] from by decide +kernel, st_append, st_len]; simp; omega
        rw [show ("=" : Str) = st [61] from by decide +kernel, st_append]
        refine e_fmt (e_nm S ⟨_, rfl, ?_, _, rfl, ?_, ?_⟩)
        · rw [st_len]; omega
        · rw [st_append, st_len]; simp; omega
        rw [st_append]
        refine ⟨?_, nofun, fun _ => ⟨nofun, fun _ => ⟨_, fun i o e => e, ?_⟩⟩⟩
        · rw [st_len]; simp; omega
        · rw [← hval]; exact h _ ⟨hg.n, hg.hp⟩ rfl
  · have hne : l = [] := by
      have := of_decide_eq_false hc
      rw [st_len] at this
      cases l with
      | nil => rfl
      | cons a r => simp at this
    refine ss_ret (e_nm S ⟨nofun, fun _ => ⟨_, fun i o e => e, ?_⟩⟩)
    have := h σ .refl rfl
    rw [show fmtOf nm l q = nm from by unfold fmtOf; rw [if_pos hne]] at this
    exact this


abbrev Row := List Nat × Int × List Nat
def rowPV (r : Row) : List PV := [.str (st r.1), .int r.2.1, .str (st r.2.2)]
def nameOf (x : Int) : List Nat := (97 + (((-x).fdiv 2).fmod 26)).toNat :: List.replicate ((((-x).fdiv 2).fdiv 26).fmod 3).toNat 45
def rowStep (rs : List Row) (x : Int) : List Row :=
  if x < 0 then rs ++ [(nameOf x, x.fmod 2, [])]
  else rs.dropLast ++ [((rs.getLastD ([], 0, [])).1, (rs.getLastD ([], 0, [])).2.1, (rs.getLastD ([], 0, [])).2.2 ++ [signCp x])]
def rowsOf (ns : List Int) : List Row := ns.foldl rowStep [([111], 0, [])]

structure RS (σ : St) (r : Nat) (is : List Nat) (rs : List Row) : Prop where
  hr : σ.hp r = some (.list (is.map PV.ref))
  r0 : 0 < r
  rn : r < σ.n
  len : is.length = rs.length
  at_ : ∀ (k i : Nat) (row : Row), is[k]? = some i → rs[k]? = some row → 0 < i ∧ i < σ.n ∧ i ≠ r ∧ σ.hp i = some (.list (rowPV row))
  nd : is.Nodup

theorem RS.grow {σ σ' : St} {r : Nat} {is : List Nat} {rs : List Row} (x : RS σ r is rs) (g : Grow σ σ') : RS σ' r is rs :=
  ⟨g.get x.rn x.hr, x.r0, Nat.lt_of_lt_of_le x.rn g.n, x.len, fun k i row h1 h2 => let ⟨a, b, c, d⟩ := x.at_ k i row h1 h2; ⟨a, Nat.lt_of_lt_of_le b g.n, c, g.get b d⟩, x.nd⟩
theorem RS.set {σ : St} {r : Nat} {is : List Nat} {rs : List Row} (x : RS σ r is rs) {y : Str} {v : PV} : RS (σ.set y v) r is rs := ⟨x.hr, x.r0, x.rn, x.len, x.at_, x.nd⟩
theorem RS.push {σ : St} {r : Nat} {is : List Nat} {rs : List Row} (x : RS σ r is rs) (row : Row) : RS ((σ.alloc (.list (rowPV row))).upd r (.list ((is ++ [σ.n]).map PV.ref))) r (is ++ [σ.n]) (rs ++ [row]) := by
  have hlt : ∀ i ∈ is, i < σ.n ∧ i ≠ r := by
    intro i hi
    obtain ⟨k, hk⟩ := List.mem_iff_getElem?.mp hi
    have hk' : k < rs.length := by rw [← x.len]; exact (List.getElem?_eq_some_iff.mp hk).1
    obtain ⟨_, a, b, _⟩ := x.at_ k i _ hk (List.getElem?_eq_getElem hk')
    exact ⟨a, b⟩
  refine ⟨if_pos rfl, x.r0, Nat.lt_succ_of_lt x.rn, by simp [x.len], fun k i row' h1 h2 => ?_, ?_⟩
  · rcases Nat.lt_or_ge k is.length with hk | hk
    · rw [List.getElem?_append_left hk] at h1
      rw [List.getElem?_append_left (by rw [← x.len]; exact hk)] at h2
      obtain ⟨a, b, c, d⟩ := x.at_ k i row' h1 h2
      refine ⟨a, Nat.lt_succ_of_lt b, c, ?_⟩
      show (if i = r then _ else if i = σ.n then _ else σ.hp i) = _
      rw [if_neg c, if_neg (Nat.ne_of_lt b)]; exact d
    · rw [List.getElem?_append_right hk] at h1
      rw [List.getElem?_append_right (by rw [← x.len]; exact hk), ← x.len] at h2
      have hk0 : k - is.length = 0 := by
        have := (List.getElem?_eq_some_iff.mp h1).1
        simp at this; omega
      rw [hk0] at h1 h2
      simp at h1 h2
      subst h1 h2
      have hrn : σ.n ≠ r := Nat.ne_of_gt x.rn
      refine ⟨Nat.lt_of_le_of_lt (Nat.zero_le _) (Nat.lt_of_lt_of_le x.r0 (Nat.le_of_lt x.rn)), Nat.lt_succ_self _, hrn, ?_⟩
      show (if σ.n = r then _ else if σ.n = σ.n then _ else σ.hp σ.n) = _
      rw [if_neg hrn, if_pos rfl]
  · rw [List.nodup_append]
    refine ⟨x.nd, by simp, ?_⟩
    intro a ha b hb
    simp at hb
    rw [hb]
    exact Nat.ne_of_lt (hlt a ha).1

theorem RS.last {σ : St} {r : Nat} {is : List Nat} {rs : List Row} {i : Nat} {row row' : Row} (x : RS σ r (is ++ [i]) (rs ++ [row])) : RS (σ.upd i (.list (rowPV row'))) r (is ++ [i]) (rs ++ [row']) := by
  have hl : is.length = rs.length := by have := x.len; simp at this; exact this
  obtain ⟨a, b, c, d⟩ := x.at_ is.length i row (by simp) (by rw [hl]; simp)
  refine ⟨(if_neg c.symm).trans x.hr, x.r0, x.rn, by simp [hl], fun k j row₂ h1 h2 => ?_, x.nd⟩
  rcases Nat.lt_or_ge k is.length with hk | hk
  · have h2' : (rs ++ [row])[k]? = some row₂ := by
      rw [List.getElem?_append_left (by omega)] at h2 ⊢; exact h2
    obtain ⟨a', b', c', d'⟩ := x.at_ k j row₂ h1 h2'
    refine ⟨a', b', c', ?_⟩
    have hne : j ≠ i := by
      intro e
      subst e
      rw [List.getElem?_append_left hk] at h1
      have := (List.nodup_append.mp x.nd).2.2 j (List.mem_of_getElem? h1) j (by simp)
      exact this rfl
    exact (if_neg hne).trans d'
  · rw [List.getElem?_append_right hk] at h1
    rw [List.getElem?_append_right (by omega), ← hl] at h2
    have hk0 : k - is.length = 0 := by
      have := (List.getElem?_eq_some_iff.mp h1).1
      simp at this; omega
    rw [hk0] at h1 h2
    simp at h1 h2
    subst h1 h2
    exact ⟨a, b, c, if_pos rfl⟩

structure JR (σ : St) (r i : Nat) (ns : List Int) (k : Nat) (σ' : St) : Prop where
  ex : ∃ is rs, rs = (ns.take k).foldl rowStep [([111], 0, [])] ∧ rs ≠ [] ∧ RS σ' r is rs ∧ (∀ i ∈ is, σ.n ≤ i) ∧ rs.length ≤ k + 1 ∧ ∀ row ∈ rs, row.2.2.length ≤ k
  g : Grow σ σ'
  lr : σ'.loc "rows" = some (.ref r)
  ls : σ'.loc "script" = some (.ref i)

theorem mul_dash (n : Int) (h0 : 0 ≤ n) (h1 : n < 3) : Txt.mul "-" n = st (List.replicate n.toNat 45) := by
  have h : n = 0 ∨ n = 1 ∨ n = 2 := by omega
  rcases h with rfl | rfl | rfl <;> decide +kernel

theorem rows_spec (F : F C) {ns : List Int} {i : Nat} {Q : PV → St → Prop} (hd : lv.d < 20) (hn : lv.hn = true) (hlen : ns.length ≤ 63) (hi : σ.hp i = some (.list (ns.map PV.int))) (hin : i < σ.n) (h0 : 0 < σ.n)
    (h : ∀ σ' r is, Grow σ σ' → σ'.loc = σ.loc → RS σ' r is (rowsOf ns) → Q (.ref r) σ') : ACall C lv env (.ref F.aR) [.ref i] [] σ Q X := by
  refine a_f F.rows (by omega) (F.rowsB _ _ _ _) ?_
  intro env' S hF
  refine ss_mid (JR σ (σ.n + 1) i ns 0) (s_as S (e_list (al_cons (e_list ?_)))) ?_
  · refine al_cons (e_str (al_cons (e_int (al_cons (e_str (al_nil ⟨show 3 ≤ 16777216 from by decide, al_nil ⟨show 1 ≤ 16777216 from by decide, rfl, ?_⟩⟩))))))
    refine ⟨⟨[σ.n], _, rfl, by simp, ?_, by simp, by simp, by simp⟩, ⟨by show _ ≤ σ.n + 1 + 1; omega, fun j hj => ?_⟩, rfl, rfl⟩
    · refine ⟨if_pos rfl, Nat.succ_pos _, Nat.lt_succ_self _, rfl, fun k i row h1 h2 => ?_, by simp⟩
      cases k with
      | zero =>
        simp at h1 h2
        subst h1 h2
        refine ⟨h0, by show _ < σ.n + 1 + 1; omega, by omega, ?_⟩
        show (if σ.n = σ.n + 1 then _ else if σ.n = σ.n then _ else _) = _
        rw [if_neg (by omega), if_pos rfl]
        rfl
      | succ k => simp at h1
    · show (if j = σ.n + 1 then _ else if j = σ.n then _ else σ.hp j) = _
      rw [if_neg (by omega), if_neg (by omega)]
  intro σ₁ j0
  have js := j0.ls
  refine ss_cons (s_for hn hF (e_nm S ⟨_, _, fun k σ' => JR σ (σ.n + 1) i ns k σ', it_list hn (j0.g.get hin hi), j0, fun _ _ x => x.g.get hin hi, ?_, ?_⟩))
  · intro k p σ₂ hp jk
    rw [List.getElem?_map] at hp
    obtain ⟨x, hx, rfl⟩ := Option.map_eq_some_iff.mp hp
    have hk : k < ns.length := (List.getElem?_eq_some_iff.mp hx).1
    have htake : ns.take (k + 1) = ns.take k ++ [x] := by rw [List.take_add_one, hx]; rfl
    obtain ⟨⟨is, rs, hrs, hne, rS, hge, hl, hvl⟩, g, lr, ls⟩ := jk
    have hfold : (ns.take (k + 1)).foldl rowStep [([111], 0, [])] = rowStep rs x := by rw [htake, List.foldl_append, ← hrs]; rfl
    refine a_nm S ?_
    refine ss_cons (s_if (t_cmp (e_nm S (e_int (o_lt_int (tr_bool ⟨fun hc => ?_, fun hc => ?_⟩))))))
    · have hx0 : x < 0 := of_decide_eq_true hc
      have hst : rowStep rs x = rs ++ [(nameOf x, x.fmod 2, [])] := by unfold rowStep; rw [if_pos hx0]
      have m1 := fmod_nonneg' ((-x).fdiv 2) (b := 26) (by decide)
      have m2 := fmod_lt' ((-x).fdiv 2) (b := 26) (by decide)
      have m3 := fmod_nonneg' (((-x).fdiv 2).fdiv 26) (b := 3) (by decide)
      have m4 := fmod_lt' (((-x).fdiv 2).fdiv 26) (b := 3) (by decide)
      refine ss_next (s_as S (e_bin (e_unary (e_nm S (o_neg_int (e_int (o_div_int (by decide) (by decide) ⟨rfl, ?_⟩)))))))
      refine ss_next (s_expr S.ok ?_)
      refine e_mcall ?_
      refine e_nm S ⟨_, m_append rS.hr, .builtin, ?_⟩
      refine al_cons (e_list (al_cons (e_bin ?_)))
      refine e_call ?_
      refine e_bi S F.chr (v := .builtin "chr") (by kernel_rfl) ⟨_, rfl, .builtin, ?_⟩
      refine al_cons (e_bin (e_int (e_bin (e_nm (v := .int ((-x).fdiv 2)) S (e_int (o_mod_int (by decide) (o_add_int (al_nil (ak_nil (c_chr (by omega) (by omega) ?_))))))))))
      refine e_bin (e_str (e_bin (e_bin (e_nm (v := .int ((-x).fdiv 2)) S (e_int (o_div_int (by decide) (by decide) (e_int (o_mod_int (by decide) (o_mul_str ?_ (by omega) (by omega) ?_)))))))))
      · show 1 * _ ≤ _; omega
      rw [mul_dash _ m3 m4]
      refine o_add_str ?_ ?_
      · rw [st_len, List.length_replicate]; show 1 + _ ≤ _; omega
      refine al_cons (e_bin (e_nm S (e_int (o_mod_int (by decide) (al_cons (e_str (al_nil ⟨show 3 ≤ 16777216 from by decide, al_nil (ak_nil (c_append (rS.set.set.grow .alloc).hr (Nat.succ_pos _) ?_ ⟨rfl, ?_⟩))⟩)))))))
      · rw [List.length_map, rS.len]; omega
      refine ss_nil ⟨fun _ => ss_nil ?_, fun q => absurd rfl q⟩
      have hrow : [PV.str ((⟨#[(97 + ((-x).fdiv 2).fmod 26).toNat]⟩ : Str) ++ st (List.replicate ((((-x).fdiv 2).fdiv 26).fmod 3).toNat 45)), PV.int (x.fmod 2), PV.str ""] = rowPV (nameOf x, x.fmod 2, []) := by
        rw [single_eq, st_append]
        rfl
      rw [hrow]
      have hgn : ∀ j, j < σ.n → j ≠ σ.n + 1 := fun j hj => by omega
      refine ⟨⟨is ++ [σ₂.n], _, hfold.symm, by rw [hst]; simp, ?_, ?_, by rw [hst]; simp; omega, ?_⟩, ⟨Nat.le_succ_of_le g.n, fun j hj => ?_⟩, lr, ls⟩
      · rw [hst]
        have := (rS.set (y := "x") (v := PV.int x)).set (y := "size") (v := PV.int ((-x).fdiv 2)) |>.push (nameOf x, x.fmod 2, [])
        rw [List.map_append] at this
        exact this
      · intro j hj
        rcases List.mem_append.mp hj with hj | hj
        · exact hge j hj
        · simp at hj; rw [hj]; exact g.n
      · intro row hrow
        rw [hst] at hrow
        rcases List.mem_append.mp hrow with hr | hr
        · exact Nat.le_succ_of_le (hvl row hr)
        · simp at hr; rw [hr]; exact Nat.zero_le _
      · have hlt : j < σ₂.n := Nat.lt_of_lt_of_le hj g.n
        show (if j = σ.n + 1 then _ else if j = σ₂.n then _ else σ₂.hp j) = _
        rw [if_neg (hgn j hj), if_neg (Nat.ne_of_lt hlt)]
        exact g.hp j hj
    · have hx0 : ¬ x < 0 := of_decide_eq_false hc
      obtain ⟨rs', last, rfl⟩ : ∃ rs' last, rs = rs' ++ [last] := ⟨_, _, (List.dropLast_concat_getLast hne).symm⟩
      have hil : is ≠ [] := by intro e; rw [e] at rS; have := rS.len; simp at this
      obtain ⟨is', il, rfl⟩ : ∃ is' il, is = is' ++ [il] := ⟨_, _, (List.dropLast_concat_getLast hil).symm⟩
      have hst : rowStep (rs' ++ [last]) x = rs' ++ [(last.1, last.2.1, last.2.2 ++ [signCp x])] := by unfold rowStep; rw [if_neg hx0]; simp
      have hlen' : is'.length = rs'.length := by have := rS.len; simp at this; exact this
      obtain ⟨a1, a2, a3, a4⟩ := rS.at_ is'.length il last (by simp) (by rw [hlen']; simp)
      have hvlast := hvl last (by simp)
      refine ss_next (s_augsub ?_)
      refine e_sub (e_nm S (e_unary (e_int (o_neg_int (o_sub_list_neg (l := (is' ++ [il]).map PV.ref) (p := .ref il) rS.hr (by decide) ?_ ?_ ?_ ?_)))))
      · rw [List.length_map, List.length_append]; simp; omega
      · rw [List.length_map, List.length_append, hlen']; simp at hl; simp; omega
      · rw [List.length_map, List.length_append]
        rw [show ((-1 : Int) + ((is'.length + [il].length : Nat) : Int)).toNat = is'.length from by show ((-1 : Int) + ((is'.length + 1 : Nat) : Int)).toNat = _; omega]
        simp
      refine e_int ⟨il, rowPV last, 2, .str (st last.2.2), rfl, a1, rfl, a4, by decide, by decide, rfl, by show 3 ≤ 16777216; decide, ?_⟩
      refine e_call ?_
      refine e_gl S F.sign.glob ⟨_, rfl, .ref F.sign.keep, ?_⟩
      refine al_cons (e_nm S (al_nil (ak_nil (sign_spec F ?_ fun hp e => ?_))))
      · show lv.d + 1 < 30; omega
      subst e
      refine o_iadd_str ?_ ⟨rowPV last, a4, rfl, rfl, ?_⟩
      · rw [st_len]; show _ + 1 ≤ _; omega
      refine ss_nil ⟨fun _ => ss_nil ?_, fun q => absurd rfl q⟩
      have hrow : (rowPV last).set (Int.toNat 2) (PV.str (st last.2.2 ++ ⟨#[signCp x]⟩)) = rowPV (last.1, last.2.1, last.2.2 ++ [signCp x]) := by
        rw [single_eq, st_append]
        rfl
      rw [hrow]
      refine ⟨⟨is' ++ [il], _, hfold.symm, by rw [hst]; simp, ?_, hge, by rw [hst]; simp at hl ⊢; omega, ?_⟩, ⟨g.n, fun j hj => ?_⟩, lr, ls⟩
      · rw [hst]
        exact (rS.set (y := "x") (v := PV.int x)).last
      · intro row hrow
        rw [hst] at hrow
        rcases List.mem_append.mp hrow with hr | hr
        · exact Nat.le_succ_of_le (hvl row (List.mem_append_left _ hr))
        · simp at hr; rw [hr]; simp; exact hvlast
      · have hne' : j ≠ il := by have := hge il (by simp); omega
        show (if j = il then _ else σ₂.hp j) = _
        rw [if_neg hne']
        exact g.hp j hj
  · intro σ₂ jk
    obtain ⟨⟨is, rs, hrs, hne, rS, hge, hl, hvl⟩, g, lr, ls⟩ := jk
    refine ss_nil ⟨fun _ => ss_ret (e_nm S ⟨_, fun _ _ e => e, ?_⟩), fun q => absurd rfl q⟩
    rw [List.length_map, List.take_length] at hrs
    refine h ⟨σ₂.n, σ₂.hp, σ.loc⟩ _ is ⟨g.n, g.hp⟩ rfl ?_
    show RS _ _ _ (rowsOf ns)
    rw [show rowsOf ns = rs from hrs.symm]
    exact ⟨rS.hr, rS.r0, rS.rn, rS.len, rS.at_, rS.nd⟩
end
end L02
end Mine

open PySem PySem.W PyProof.Rows PySem.Calls
set_option Elab.async false
set_option maxRecDepth 100000
set_option maxHeartbeats 1000000
set_option linter.unusedVariables false
namespace Mine
namespace L02
def whBody : Stmt → List Stmt
  | .While _ b _ _ => b
  | _ => []
def ifBody : Stmt → List Stmt
  | .If _ b _ _ => b
  | _ => []
def ifElse : Stmt → List Stmt
  | .If _ _ b _ => b
  | _ => []
def nth (l : List Stmt) (i : Nat) : Stmt := l.getD i (.Pass default)
abbrev readBody : List Stmt := whBody (nth (bodyOf (stmtAt prog 7)) 2)

/-- but for two names nothing has changed -/
structure KeepBut (a b : Str) (σ σ' : St) : Prop where
  n : σ'.n = σ.n
  hp : σ'.hp = σ.hp
  loc : ∀ y, y ≠ a → y ≠ b → σ'.loc y = σ.loc y

theorem at_char {T L : List Nat} {p k c : Nat} (hT : T.drop p = L) (hk : L[k]? = some c) : (st T).cps[((p + k : Nat) : Int).toNat]? = some c := by
  rw [← hT, List.getElem?_drop] at hk
  rw [Int.toNat_natCast]
  simpa [st] using hk
theorem len_drop {T L : List Nat} {p : Nat} (hp : p ≤ T.length) (hT : T.drop p = L) : T.length = p + L.length := by rw [← hT, List.length_drop]; omega

section
variable {C : Cx} {lv : Lv} {env : Env} {σ : St} {X : String → List PV → St → Prop}

theorem loop_name (F : F C) {T nm tl : List Nat} {p : Nat} (S : Sc env (namesOf (stmtAt prog 7))) (hp : p ≤ T.length) (hb : T.length ≤ 100000) (hT : T.drop p = nm ++ tl) (hnm : ∀ c ∈ nm, c ≠ 61 ∧ c ≠ 59) (htl : ∀ c r, tl = c :: r → c = 61 ∨ c = 59)
    (l1 : σ.loc "text" = some (.str (st T))) (l2 : σ.loc "at" = some (.int p)) (l3 : σ.loc "name" = some (.str (st []))) :
    AS C lv env (nth readBody 2) σ (fun fl σ' => fl = .next ∧ KeepBut "name" "at" σ σ' ∧ σ'.loc "at" = some (.int ((p + nm.length : Nat) : Int)) ∧ σ'.loc "name" = some (.str (st nm))) NoX := by
  have hlen := len_drop hp hT
  rw [List.length_append] at hlen
  refine s_while (fun m σ' => ∃ k, k ≤ nm.length ∧ m = nm.length - k ∧ KeepBut "name" "at" σ σ' ∧ σ'.loc "at" = some (.int ((p + k : Nat) : Int)) ∧ σ'.loc "name" = some (.str (st (nm.take k)))) (n₀ := nm.length) ⟨0, Nat.zero_le _, rfl, ⟨rfl, rfl, fun _ _ _ => rfl⟩, l2, l3⟩ ?_
  rintro m σ' ⟨k, hk, rfl, kb, m1, m2⟩
  have l1' : σ'.loc "text" = some (.str (st T)) := by rw [kb.loc _ (by decide +kernel) (by decide +kernel)]; exact l1
  refine t_and (t_cmp (e_nm S ?_))
  refine e_call ?_
  refine e_bi S F.len (v := .builtin "len") (by kernel_rfl) ⟨_, rfl, .builtin, ?_⟩
  refine al_cons (e_nm S (al_nil (ak_nil (c_len_str ?_ (o_lt_int (tr_bool ⟨fun hc => ?_, fun hc => ⟨nofun, fun _ => ?_⟩⟩))))))
  · rw [st_len]; omega
  · have hlt := of_decide_eq_true hc
    rw [st_len] at hlt
    obtain ⟨c, hcc⟩ : ∃ c, (nm ++ tl)[k]? = some c := ⟨(nm ++ tl)[k]'(by rw [List.length_append]; omega), List.getElem?_eq_getElem _⟩
    refine t_and (t_cmp (e_sub (e_nm S (e_nm S (o_sub_str (c := c) (by omega) (by omega) (at_char hT hcc) (e_str (o_notin_str (tr_bool ⟨fun hc2 => t_and_nil ⟨fun _ => ?_, nofun⟩, fun hc2 => ⟨nofun, fun _ => ?_⟩⟩))))))))
    · have hcn : ¬ (c = 61 ∨ c = 59) := by
        have : ¬ c ∈ (Str.ofString "=;").cps.toList := by simpa using hc2
        rw [show (Str.ofString "=;").cps.toList = [61, 59] from by decide +kernel] at this
        simpa using this
      have hkl : k < nm.length := by
        rcases Nat.lt_or_ge k nm.length with h | h
        · exact h
        · exfalso
          rw [List.getElem?_append_right h] at hcc
          have hk0 : k - nm.length = 0 := by omega
          rw [hk0] at hcc
          cases htl' : tl with
          | nil => rw [htl'] at hcc; cases hcc
          | cons a r => rw [htl'] at hcc; cases hcc; exact hcn (htl _ _ htl')
      have hck : nm[k]? = some c := by rw [List.getElem?_append_left hkl] at hcc; exact hcc
      have htk : nm.take (k + 1) = nm.take k ++ [c] := by rw [List.take_add_one, hck]; rfl
      refine ss_next (s_au S (e_sub (e_nm S (e_nm S (o_sub_str (c := c) (by omega) (by omega) (at_char hT hcc) (o_iadd_str ?_ ⟨rfl, ?_⟩))))))
      · rw [st_len, List.length_take]; show _ + 1 ≤ _; omega
      refine ss_next (s_au S (e_int (o_iadd_int ⟨rfl, ss_nil ⟨nm.length - (k + 1), by omega, k + 1, hkl, rfl, ⟨kb.n, kb.hp, fun y h1 h2 => ?_⟩, ?_, ?_⟩⟩)))
      · show (if y = "at" then _ else if y = "name" then _ else σ'.loc y) = _
        rw [if_neg h2, if_neg h1]; exact kb.loc y h1 h2
      · rfl
      · rw [single_eq, st_append, ← htk]; rfl
    · have hcn : c = 61 ∨ c = 59 := by
        have : c ∈ (Str.ofString "=;").cps.toList := by simpa using hc2
        rw [show (Str.ofString "=;").cps.toList = [61, 59] from by decide +kernel] at this
        simpa using this
      have hkl : k = nm.length := by
        rcases Nat.lt_or_ge k nm.length with h | h
        · exfalso
          rw [List.getElem?_append_left h] at hcc
          have := hnm c (List.mem_of_getElem? hcc)
          omega
        · omega
      subst hkl
      exact ss_nil ⟨rfl, kb, m1, by rw [List.take_length] at m2; exact m2⟩
  · have hlt := of_decide_eq_false hc
    rw [st_len] at hlt
    have hkl : k = nm.length := by omega
    subst hkl
    exact ss_nil ⟨rfl, kb, m1, by rw [List.take_length] at m2; exact m2⟩

theorem spec_mem (c : Nat) : c ∈ (Str.ofString " ()<>@,;:\\\"/[]?=").cps.toList ↔ testT c = true := by
  rw [show (Str.ofString " ()<>@,;:\\\"/[]?=").cps.toList = specials from by decide +kernel]
  unfold testT; rw [List.contains_iff_mem]; rfl

theorem loop_bare (F : F C) {T v tl : List Nat} {p : Nat} (S : Sc env (namesOf (stmtAt prog 7))) (hp : p ≤ T.length) (hb : T.length ≤ 100000) (hT : T.drop p = v ++ tl) (hv : ∀ c ∈ v, testT c = false) (htl : ∀ c r, tl = c :: r → testT c = true)
    (l1 : σ.loc "text" = some (.str (st T))) (l2 : σ.loc "at" = some (.int p)) (l3 : σ.loc "value" = some (.str (st []))) :
    AS C lv env (nth (ifBody (nth (ifElse (nth readBody 3)) 0)) 2) σ (fun fl σ' => fl = .next ∧ KeepBut "value" "at" σ σ' ∧ σ'.loc "at" = some (.int ((p + v.length : Nat) : Int)) ∧ σ'.loc "value" = some (.str (st v))) NoX := by
  have hlen := len_drop hp hT
  rw [List.length_append] at hlen
  refine s_while (fun m σ' => ∃ k, k ≤ v.length ∧ m = v.length - k ∧ KeepBut "value" "at" σ σ' ∧ σ'.loc "at" = some (.int ((p + k : Nat) : Int)) ∧ σ'.loc "value" = some (.str (st (v.take k)))) (n₀ := v.length) ⟨0, Nat.zero_le _, rfl, ⟨rfl, rfl, fun _ _ _ => rfl⟩, l2, l3⟩ ?_
  rintro m σ' ⟨k, hk, rfl, kb, m1, m2⟩
  have l1' : σ'.loc "text" = some (.str (st T)) := by rw [kb.loc _ (by decide +kernel) (by decide +kernel)]; exact l1
  refine t_and (t_cmp (e_nm S ?_))
  refine e_call ?_
  refine e_bi S F.len (v := .builtin "len") (by kernel_rfl) ⟨_, rfl, .builtin, ?_⟩
  refine al_cons (e_nm S (al_nil (ak_nil (c_len_str ?_ (o_lt_int (tr_bool ⟨fun hc => ?_, fun hc => ⟨nofun, fun _ => ?_⟩⟩))))))
  · rw [st_len]; omega
  · have hlt := of_decide_eq_true hc
    rw [st_len] at hlt
    obtain ⟨c, hcc⟩ : ∃ c, (v ++ tl)[k]? = some c := ⟨(v ++ tl)[k]'(by rw [List.length_append]; omega), List.getElem?_eq_getElem _⟩
    refine t_and (t_cmp (e_sub (e_nm S (e_nm S (o_sub_str (c := c) (by omega) (by omega) (at_char hT hcc) (e_str (o_notin_str (tr_bool ⟨fun hc2 => t_and_nil ⟨fun _ => ?_, nofun⟩, fun hc2 => ⟨nofun, fun _ => ?_⟩⟩))))))))
    · have hcn : testT c = false := by
        have : ¬ c ∈ (Str.ofString " ()<>@,;:\\\"/[]?=").cps.toList := by simpa using hc2
        rw [spec_mem] at this
        simpa using this
      have hkl : k < v.length := by
        rcases Nat.lt_or_ge k v.length with h | h
        · exact h
        · exfalso
          rw [List.getElem?_append_right h] at hcc
          have hk0 : k - v.length = 0 := by omega
          rw [hk0] at hcc
          cases htl' : tl with
          | nil => rw [htl'] at hcc; cases hcc
          | cons a r => rw [htl'] at hcc; cases hcc; rw [htl _ _ htl'] at hcn; cases hcn
      have hck : v[k]? = some c := by rw [List.getElem?_append_left hkl] at hcc; exact hcc
      have htk : v.take (k + 1) = v.take k ++ [c] := by rw [List.take_add_one, hck]; rfl
      refine ss_next (s_au S (e_sub (e_nm S (e_nm S (o_sub_str (c := c) (by omega) (by omega) (at_char hT hcc) (o_iadd_str ?_ ⟨rfl, ?_⟩))))))
      · rw [st_len, List.length_take]; show _ + 1 ≤ _; omega
      refine ss_next (s_au S (e_int (o_iadd_int ⟨rfl, ss_nil ⟨v.length - (k + 1), by omega, k + 1, hkl, rfl, ⟨kb.n, kb.hp, fun y h1 h2 => ?_⟩, ?_, ?_⟩⟩)))
      · show (if y = "at" then _ else if y = "value" then _ else σ'.loc y) = _
        rw [if_neg h2, if_neg h1]; exact kb.loc y h1 h2
      · rfl
      · rw [single_eq, st_append, ← htk]; rfl
    · have hcn : testT c = true := by
        have : c ∈ (Str.ofString " ()<>@,;:\\\"/[]?=").cps.toList := by simpa using hc2
        rw [spec_mem] at this
        exact this
      have hkl : k = v.length := by
        rcases Nat.lt_or_ge k v.length with h | h
        · exfalso
          rw [List.getElem?_append_left h] at hcc
          have := hv c (List.mem_of_getElem? hcc)
          rw [hcn] at this; cases this
        · omega
      subst hkl
      exact ss_nil ⟨rfl, kb, m1, by rw [List.take_length] at m2; exact m2⟩
  · have hlt := of_decide_eq_false hc
    rw [st_len] at hlt
    have hkl : k = v.length := by omega
    subst hkl
    exact ss_nil ⟨rfl, kb, m1, by rw [List.take_length] at m2; exact m2⟩

theorem esc_append (a b : List Nat) : esc (a ++ b) = esc a ++ esc b := by simp [esc]
theorem esc_split (v : List Nat) (k : Nat) : esc v = esc (v.take k) ++ esc (v.drop k) := by rw [← esc_append, List.take_append_drop]

theorem esc_ge (l : List Nat) : l.length ≤ (esc l).length := by
  induction l with
  | nil => exact Nat.le_refl _
  | cons c r ih =>
    have e : (esc (c :: r)).length = (if c = 92 ∨ c = 34 then [92, c] else [c]).length + (esc r).length := List.length_append
    rw [e, List.length_cons]
    have : 1 ≤ (if c = 92 ∨ c = 34 then [92, c] else [c]).length := by split <;> simp
    omega
theorem loop_quoted (F : F C) {T v tl : List Nat} {p : Nat} (S : Sc env (namesOf (stmtAt prog 7))) (hp : p ≤ T.length) (hb : T.length ≤ 100000) (hT : T.drop p = esc v ++ 34 :: tl)
    (l1 : σ.loc "text" = some (.str (st T))) (l2 : σ.loc "at" = some (.int p)) (l3 : σ.loc "value" = some (.str (st []))) :
    AS C lv env (nth (ifBody (nth readBody 3)) 2) σ (fun fl σ' => fl = .next ∧ KeepBut "value" "at" σ σ' ∧ σ'.loc "at" = some (.int ((p + (esc v).length : Nat) : Int)) ∧ σ'.loc "value" = some (.str (st v))) NoX := by
  have hlen := len_drop hp hT
  rw [List.length_append, List.length_cons] at hlen
  have hge := esc_ge v
  refine s_while (fun m σ' => ∃ k, k ≤ v.length ∧ m = v.length - k ∧ KeepBut "value" "at" σ σ' ∧ σ'.loc "at" = some (.int ((p + (esc (v.take k)).length : Nat) : Int)) ∧ σ'.loc "value" = some (.str (st (v.take k)))) (n₀ := v.length) ⟨0, Nat.zero_le _, rfl, ⟨rfl, rfl, fun _ _ _ => rfl⟩, l2, l3⟩ ?_
  rintro m σ' ⟨k, hk, rfl, kb, m1, m2⟩
  have l1' : σ'.loc "text" = some (.str (st T)) := by rw [kb.loc _ (by decide +kernel) (by decide +kernel)]; exact l1
  have hle : (esc (v.take k)).length + (esc (v.drop k)).length = (esc v).length := by rw [esc_split v k, List.length_append]
  have hTq : T.drop (p + (esc (v.take k)).length) = esc (v.drop k) ++ 34 :: tl := by
    rw [← List.drop_drop, hT, esc_split v k, List.append_assoc, List.drop_append_of_le_length (Nat.le_refl _), List.drop_length, List.nil_append]
  generalize hq : p + (esc (v.take k)).length = q at m1 hTq
  refine t_and (t_cmp (e_nm S ?_))
  refine e_call ?_
  refine e_bi S F.len (v := .builtin "len") (by kernel_rfl) ⟨_, rfl, .builtin, ?_⟩
  refine al_cons (e_nm S (al_nil (ak_nil (c_len_str ?_ (o_lt_int (tr_bool ⟨fun hc => ?_, fun hc => ?_⟩))))))
  · rw [st_len]; omega
  · rcases Nat.lt_or_ge k v.length with hkl | hkl
    · obtain ⟨c, hck⟩ : ∃ c, v[k]? = some c := ⟨v[k], List.getElem?_eq_getElem hkl⟩
      have htk : v.take (k + 1) = v.take k ++ [c] := by rw [List.take_add_one, hck]; rfl
      have hdk : v.drop k = c :: v.drop (k + 1) := by
        rw [List.drop_eq_getElem_cons hkl]; congr 1
        rw [List.getElem?_eq_getElem hkl] at hck; exact Option.some.inj hck
      have hed : esc (v.drop k) = (if c = 92 ∨ c = 34 then [92, c] else [c]) ++ esc (v.drop (k + 1)) := by rw [hdk]; rfl
      have het : (esc (v.take (k + 1))).length = (esc (v.take k)).length + (if c = 92 ∨ c = 34 then [92, c] else [c]).length := by rw [htk, esc_append, List.length_append]; simp [esc]
      have hch : (esc (v.drop k) ++ 34 :: tl)[0]? = some (if c = 92 ∨ c = 34 then 92 else c) := by
        rw [hed]; split <;> rfl
      have hq0 := at_char (k := 0) hTq hch
      rw [Nat.add_zero] at hq0
      refine t_and (t_cmp (e_sub (e_nm S (e_nm S (o_sub_str (by omega) (by omega) hq0 (e_str (o_ne_str (tr_bool ⟨fun hc2 => t_and_nil ⟨fun _ => ?_, nofun⟩, fun hc2 => ?_⟩))))))))
      · refine ss_mid (fun σ'' => ∃ q', T.drop q' = c :: (esc (v.drop (k + 1)) ++ 34 :: tl) ∧ q' + 1 = p + (esc (v.take (k + 1))).length ∧ KeepBut "value" "at" σ σ'' ∧ σ''.loc "at" = some (.int ((q' : Nat) : Int)) ∧ σ''.loc "value" = some (.str (st (v.take k))))
          (s_if (t_cmp (e_sub (e_nm S (e_nm S (o_sub_str (by omega) (by omega) hq0 (e_str (o_eq_str (tr_bool ⟨fun h1 => ?_, fun h1 => ?_⟩))))))))) ?_
        · have hsp : c = 92 ∨ c = 34 := by
            by_cases h : c = 92 ∨ c = 34
            · exact h
            · rw [if_neg h] at h1
              have : c = 92 := by simpa [single_eq, st_inj, show ("\\" : Str) = st [92] from by decide +kernel] using h1
              exact .inl this
          rw [if_pos hsp] at hed het
          refine ss_next (s_au S (e_int (o_iadd_int ⟨rfl, ss_nil ⟨rfl, q + 1, ?_, ?_, ⟨kb.n, kb.hp, fun y h1 h2 => ?_⟩, rfl, m2⟩⟩)))
          · rw [← List.drop_drop, hTq, hed]; rfl
          · rw [het, ← hq]; rfl
          · show (if y = "at" then _ else σ'.loc y) = _
            rw [if_neg h2]; exact kb.loc y h1 h2
        · have hsp : ¬ (c = 92 ∨ c = 34) := by
            intro h
            rw [if_pos h] at h1
            revert h1; decide +kernel
          rw [if_neg hsp] at hed het
          refine ss_nil ⟨rfl, q, ?_, ?_, kb, m1, m2⟩
          · rw [hTq, hed]; rfl
          · rw [het, ← hq]; rfl
        · rintro σ'' ⟨q', d1, d2, kb', a1, a2⟩
          have l1'' : σ''.loc "text" = some (.str (st T)) := by rw [kb'.loc _ (by decide +kernel) (by decide +kernel)]; exact l1
          refine ss_next (s_au S (e_slice ?_))
          refine e_nm S (ap_some (e_nm S (ap_some (e_bin (e_nm S (e_int (o_add_int (sl_str (a := some ((q' : Nat) : Int)) (b := some (((q' + 1 : Nat)) : Int)) (.int _) (.int _) ?_ ?_))))))))
          · rw [st_len]; omega
          rw [slice_st T (Nat.le_succ q'), d1, show q' + 1 - q' = 1 from by omega]
          refine o_iadd_str ?_ ⟨rfl, ?_⟩
          · rw [st_len, List.length_take]; show _ + 1 ≤ _; omega
          refine ss_next (s_au S (e_int (o_iadd_int ⟨rfl, ss_nil ⟨v.length - (k + 1), by omega, k + 1, hkl, rfl, ⟨kb'.n, kb'.hp, fun y h1 h2 => ?_⟩, ?_, ?_⟩⟩)))
          · show (if y = "at" then _ else if y = "value" then _ else σ''.loc y) = _
            rw [if_neg h2, if_neg h1]; exact kb'.loc y h1 h2
          · rw [← d2]; rfl
          · rw [st_append, htk]; rfl
      · exfalso
        have hd : (if c = 92 ∨ c = 34 then 92 else c) = 34 := by simpa [single_eq, st_inj, show ("\"" : Str) = st [34] from by decide +kernel] using hc2
        split at hd
        · cases hd
        · rename_i h; exact h (.inr hd)
    · have hkl' : k = v.length := by omega
      subst hkl'
      rw [List.drop_length] at hTq
      have hq0 := at_char (k := 0) (c := 34) hTq rfl
      rw [Nat.add_zero] at hq0
      rw [List.take_length] at m2 hq
      refine t_and (t_cmp (e_sub (e_nm S (e_nm S (o_sub_str (by omega) (by omega) hq0 (e_str (o_ne_str (tr_bool ⟨fun hc2 => ?_, fun hc2 => ⟨nofun, fun _ => ss_nil ⟨rfl, kb, by rw [hq]; exact m1, m2⟩⟩⟩))))))))
      exact absurd hc2 (by decide +kernel)
  · exfalso
    have hlt := of_decide_eq_false hc
    rw [st_len] at hlt
    omega
end
end L02
end Mine

open PySem PySem.W PyProof.Rows PySem.Calls
set_option Elab.async false
set_option maxRecDepth 100000
set_option maxHeartbeats 1000000
set_option linter.unusedVariables false
namespace Mine
namespace L02
def fmTail (v : List Nat) (q : Bool) : List Nat := if v = [] then [] else if (q || v.any testT) = true then [61, 34] ++ esc v ++ [34] else [61] ++ v
theorem fmt_tail (nm v : List Nat) (q : Bool) : fmtOf nm v q = nm ++ fmTail v q := by
  unfold fmtOf fmTail
  split
  · simp
  · split <;> simp
def valPV (v : List Nat) : PV := if v = [] then .none else .str (st v)

theorem KeepBut.trans {a b : Str} {x y z : St} (h : KeepBut a b x y) (g : KeepBut a b y z) : KeepBut a b x z := ⟨g.n.trans h.n, g.hp.trans h.hp, fun w h1 h2 => (g.loc w h1 h2).trans (h.loc w h1 h2)⟩

section
variable {C : Cx} {lv : Lv} {env : Env} {σ : St} {X : String → List PV → St → Prop}

theorem if_value (F : F C) {T v tl : List Nat} {q : Bool} {p : Nat} (S : Sc env (namesOf (stmtAt prog 7))) (hp : p ≤ T.length) (hb : T.length ≤ 100000) (hT : T.drop p = fmTail v q ++ tl) (htl : tl = [] ∨ ∃ r, tl = 59 :: 32 :: r)
    (l1 : σ.loc "text" = some (.str (st T))) (l2 : σ.loc "at" = some (.int p)) (l3 : σ.loc "value" = some .none) :
    AS C lv env (nth readBody 3) σ (fun fl σ' => fl = .next ∧ KeepBut "value" "at" σ σ' ∧ σ'.loc "at" = some (.int ((p + (fmTail v q).length : Nat) : Int)) ∧ σ'.loc "value" = some (valPV v)) NoX := by
  have hlen := len_drop hp hT
  rw [List.length_append] at hlen
  refine s_if (t_cmp (e_slice ?_))
  refine e_nm S (ap_some (e_nm S (ap_some (e_bin (e_nm S (e_int (o_add_int (sl_str (a := some ((p : Nat) : Int)) (b := some (((p + 2 : Nat)) : Int)) (.int _) (.int _) ?_ ?_))))))))
  · rw [st_len]; omega
  rw [slice_st T (by omega), hT, show p + 2 - p = 2 from by omega]
  refine e_str (o_eq_str (tr_bool ?_))
  rw [show ("=\"" : Str) = st [61, 34] from by decide +kernel]
  by_cases hv : v = []
  · have hf : fmTail v q = [] := by unfold fmTail; rw [if_pos hv]
    rw [hf] at hT hlen ⊢
    refine ⟨fun hc => ?_, fun hc => ?_⟩
    · exfalso
      have := (st_inj.mp (beq_iff_eq.mp hc))
      rcases htl with rfl | ⟨r, rfl⟩ <;> simp at this
    · refine ss_cons (s_if (t_cmp (e_slice ?_)))
      refine e_nm S (ap_some (e_nm S (ap_some (e_bin (e_nm S (e_int (o_add_int (sl_str (a := some ((p : Nat) : Int)) (b := some (((p + 1 : Nat)) : Int)) (.int _) (.int _) ?_ ?_))))))))
      · rw [st_len]; omega
      rw [slice_st T (by omega), hT, show p + 1 - p = 1 from by omega]
      refine e_str (o_eq_str (tr_bool ⟨fun hc => ?_, fun hc => ss_nil ⟨fun _ => ss_nil ⟨rfl, ⟨rfl, rfl, fun _ _ _ => rfl⟩, l2, ?_⟩, fun q => absurd rfl q⟩⟩))
      · exfalso
        rw [show ("=" : Str) = st [61] from by decide +kernel] at hc
        have := (st_inj.mp (beq_iff_eq.mp hc))
        rcases htl with rfl | ⟨r, rfl⟩ <;> simp at this
      · rw [l3]; unfold valPV; rw [if_pos hv]
  have hvp : valPV v = .str (st v) := by unfold valPV; rw [if_neg hv]
  by_cases hq : (q || v.any testT) = true
  · have hf : fmTail v q = [61, 34] ++ esc v ++ [34] := by unfold fmTail; rw [if_neg hv, if_pos hq]
    rw [hf] at hT hlen ⊢
    refine ⟨fun hc => ?_, fun hc => ?_⟩
    · simp at hlen
      have hT2 : T.drop (p + 2) = esc v ++ 34 :: tl := by rw [← List.drop_drop, hT]; simp
      refine ss_next (s_au S (e_int (o_iadd_int ⟨rfl, ?_⟩)))
      refine ss_next (s_as S (e_str ⟨rfl, ?_⟩))
      refine ss_mid (fun σ' => KeepBut "value" "at" σ σ' ∧ σ'.loc "at" = some (.int ((p + 2 + (esc v).length : Nat) : Int)) ∧ σ'.loc "value" = some (.str (st v))) ?_ ?_
      · refine (loop_quoted F S (p := p + 2) (by omega) hb hT2 ?_ ?_ ?_).mono (fun fl σ' ⟨e, kb, a1, a2⟩ => ⟨e, ⟨kb.n, kb.hp, fun y h1 h2 => ?_⟩, a1, a2⟩) fun _ _ _ x => x
        · exact l1
        · rfl
        · rfl
        refine (kb.loc y h1 h2).trans ?_
        show (if y = "value" then _ else if y = "at" then _ else σ.loc y) = _
        rw [if_neg h1, if_neg h2]
      · rintro σ' ⟨kb, a1, a2⟩
        have l1' : σ'.loc "text" = some (.str (st T)) := by rw [kb.loc _ (by decide +kernel) (by decide +kernel)]; exact l1
        refine ss_cons (s_if (t_cmp (e_nm S ?_)))
        refine e_call ?_
        refine e_bi S F.len (v := .builtin "len") (by kernel_rfl) ⟨_, rfl, .builtin, ?_⟩
        refine al_cons (e_nm S (al_nil (ak_nil (c_len_str ?_ (o_ge_int (tr_bool ⟨fun hc => ?_, fun hc => ss_nil ⟨fun _ => ?_, fun q => absurd rfl q⟩⟩))))))
        · rw [st_len]; omega
        · exfalso
          have := of_decide_eq_true hc
          rw [st_len] at this
          omega
        · refine ss_next (s_au S (e_int (o_iadd_int ⟨rfl, ss_nil ⟨rfl, ⟨kb.n, kb.hp, fun y h1 h2 => ?_⟩, ?_, ?_⟩⟩)))
          · show (if y = "at" then _ else σ'.loc y) = _
            rw [if_neg h2]; exact kb.loc y h1 h2
          · show some (PV.int _) = some (PV.int _)
            congr 2
            simp; omega
          · rw [hvp]; exact a2
    · exfalso
      simp at hc
  · have hf : fmTail v q = [61] ++ v := by unfold fmTail; rw [if_neg hv, if_neg hq]
    have hfree : ∀ c ∈ v, testT c = false := by
      intro c hc
      cases ht : testT c with
      | false => rfl
      | true =>
        exfalso; apply hq
        rw [Bool.or_eq_true]; right
        exact List.any_eq_true.mpr ⟨c, hc, ht⟩
    rw [hf] at hT hlen ⊢
    refine ⟨fun hc => ?_, fun hc => ?_⟩
    · exfalso
      have h1 := (st_inj.mp (beq_iff_eq.mp hc))
      cases hv' : v with
      | nil => exact hv hv'
      | cons a r =>
        rw [hv'] at h1
        simp at h1
        have := hfree a (by rw [hv']; simp)
        rw [h1] at this
        revert this; decide
    · refine ss_cons (s_if (t_cmp (e_slice ?_)))
      refine e_nm S (ap_some (e_nm S (ap_some (e_bin (e_nm S (e_int (o_add_int (sl_str (a := some ((p : Nat) : Int)) (b := some (((p + 1 : Nat)) : Int)) (.int _) (.int _) ?_ ?_))))))))
      · rw [st_len]; omega
      rw [slice_st T (by omega), hT, show p + 1 - p = 1 from by omega]
      refine e_str (o_eq_str (tr_bool ⟨fun hc => ?_, fun hc => ?_⟩))
      · simp at hlen
        have hT2 : T.drop (p + 1) = v ++ tl := by rw [← List.drop_drop, hT]; simp
        refine ss_next (s_au S (e_int (o_iadd_int ⟨rfl, ?_⟩)))
        refine ss_next (s_as S (e_str ⟨rfl, ?_⟩))
        refine ss_mid (fun σ' => KeepBut "value" "at" σ σ' ∧ σ'.loc "at" = some (.int ((p + 1 + v.length : Nat) : Int)) ∧ σ'.loc "value" = some (.str (st v))) ?_ ?_
        · refine (loop_bare F S (p := p + 1) (by omega) hb hT2 hfree ?_ ?_ ?_ ?_).mono (fun fl σ' ⟨e, kb, a1, a2⟩ => ⟨e, ⟨kb.n, kb.hp, fun y h1 h2 => ?_⟩, a1, a2⟩) fun _ _ _ x => x
          · intro c r e
            rcases htl with h | ⟨r', h⟩
            · rw [h] at e; cases e
            · rw [h] at e; cases e; decide
          · exact l1
          · rfl
          · rfl
          refine (kb.loc y h1 h2).trans ?_
          show (if y = "value" then _ else if y = "at" then _ else σ.loc y) = _
          rw [if_neg h1, if_neg h2]
        · rintro σ' ⟨kb, a1, a2⟩
          refine ss_nil ⟨fun _ => ss_nil ⟨rfl, kb, ?_, ?_⟩, fun q => absurd rfl q⟩
          · rw [a1]; congr 2; simp; omega
          · rw [hvp]; exact a2
      · exfalso
        rw [show ("=" : Str) = st [61] from by decide +kernel] at hc
        simp at hc
end
end L02
end Mine

open PySem PySem.W PyProof.Rows PySem.Calls
set_option Elab.async false
set_option maxRecDepth 100000
set_option maxHeartbeats 1000000
set_option linter.unusedVariables false
namespace Mine
namespace L02
/-- a list of lists -/
structure LS (σ : St) (r : Nat) (is : List Nat) (cs : List (List PV)) : Prop where
  hr : σ.hp r = some (.list (is.map PV.ref))
  r0 : 0 < r
  rn : r < σ.n
  len : is.length = cs.length
  at_ : ∀ (k i : Nat) (c : List PV), is[k]? = some i → cs[k]? = some c → i < σ.n ∧ i ≠ r ∧ σ.hp i = some (.list c)
theorem LS.grow {σ σ' : St} {r : Nat} {is : List Nat} {cs : List (List PV)} (x : LS σ r is cs) (g : Grow σ σ') : LS σ' r is cs :=
  ⟨g.get x.rn x.hr, x.r0, Nat.lt_of_lt_of_le x.rn g.n, x.len, fun k i c h1 h2 => let ⟨a, b, d⟩ := x.at_ k i c h1 h2; ⟨Nat.lt_of_lt_of_le a g.n, b, g.get a d⟩⟩
theorem LS.keep {σ σ' : St} {r : Nat} {is : List Nat} {cs : List (List PV)} (x : LS σ r is cs) (hn : σ'.n = σ.n) (hh : σ'.hp = σ.hp) : LS σ' r is cs := x.grow ⟨Nat.le_of_eq hn.symm, fun i _ => by rw [hh]⟩
theorem LS.push {σ : St} {r : Nat} {is : List Nat} {cs : List (List PV)} (x : LS σ r is cs) (c : List PV) : LS ((σ.alloc (.list c)).upd r (.list ((is ++ [σ.n]).map PV.ref))) r (is ++ [σ.n]) (cs ++ [c]) := by
  refine ⟨if_pos rfl, x.r0, Nat.lt_succ_of_lt x.rn, by simp [x.len], fun k i c' h1 h2 => ?_⟩
  rcases Nat.lt_or_ge k is.length with hk | hk
  · rw [List.getElem?_append_left hk] at h1
    rw [List.getElem?_append_left (by rw [← x.len]; exact hk)] at h2
    obtain ⟨b, d, e⟩ := x.at_ k i c' h1 h2
    refine ⟨Nat.lt_succ_of_lt b, d, ?_⟩
    show (if i = r then _ else if i = σ.n then _ else σ.hp i) = _
    rw [if_neg d, if_neg (Nat.ne_of_lt b)]; exact e
  · rw [List.getElem?_append_right hk] at h1
    rw [List.getElem?_append_right (by rw [← x.len]; exact hk), ← x.len] at h2
    have hk0 : k - is.length = 0 := by
      have := (List.getElem?_eq_some_iff.mp h1).1
      simp at this; omega
    rw [hk0] at h1 h2
    simp at h1 h2
    subst h1 h2
    have hrn : σ.n ≠ r := Nat.ne_of_gt x.rn
    refine ⟨Nat.lt_succ_self _, hrn, ?_⟩
    show (if σ.n = r then _ else if σ.n = σ.n then _ else σ.hp σ.n) = _
    rw [if_neg hrn, if_pos rfl]

def fm (r : Row) : List Nat := fmtOf r.1 r.2.2 (r.2.1 != 0)
def duePV (r : Row) : List PV := [.str (st r.1), valPV r.2.2]
def tlOf : List Row → List Nat
  | [] => []
  | r :: rs => 59 :: 32 :: (fm r ++ tlOf rs)
def textOf : List Row → List Nat
  | [] => []
  | r :: rs => fm r ++ tlOf rs

section
variable {C : Cx} {lv : Lv} {env : Env} {σ : St} {X : String → List PV → St → Prop}

theorem read_loop (F : F C) {T : List Nat} {rs : List Row} {r : Nat} (S : Sc env (namesOf (stmtAt prog 7))) (hn : lv.hn = true) (hb : T.length ≤ 100000) (hne : rs ≠ []) (hrl : rs.length ≤ 1000) (hT : T = textOf rs) (hval : ∀ row ∈ rs, ∀ c ∈ row.1, c ≠ 61 ∧ c ≠ 59)
    (l1 : σ.loc "text" = some (.str (st T))) (l2 : σ.loc "at" = some (.int 0)) (l3 : σ.loc "rows" = some (.ref r)) (ls : LS σ r [] []) {n0 : Nat} (hrn : n0 ≤ r) :
    AS C lv env (nth (bodyOf (stmtAt prog 7)) 2) σ (fun fl σ' => fl = .ret (.ref r) ∧ (∃ is, LS σ' r is (rs.map duePV)) ∧ σ.n ≤ σ'.n ∧ ∀ i, i < n0 → σ'.hp i = σ.hp i) NoX := by
  refine s_while (fun m σ' => ∃ done todo is p, rs = done ++ todo ∧ todo ≠ [] ∧ m = todo.length ∧ LS σ' r is (done.map duePV) ∧ σ.n ≤ σ'.n ∧ (∀ i, i < n0 → σ'.hp i = σ.hp i) ∧ σ'.loc "at" = some (.int ((p : Nat) : Int)) ∧ p ≤ T.length ∧ T.drop p = textOf todo ∧
    σ'.loc "text" = some (.str (st T)) ∧ σ'.loc "rows" = some (.ref r)) (n₀ := rs.length) ⟨[], rs, [], 0, rfl, hne, rfl, ls, Nat.le_refl _, fun _ _ => rfl, l2, Nat.zero_le _, hT, l1, l3⟩ ?_
  rintro m σ₁ ⟨done, todo, is, p, hrs, htne, rfl, ls₁, hnn, hh, a1, hp, hTp, a2, a3⟩
  refine t_val (e_bool (tr_bool ⟨fun _ => ?_, nofun⟩))
  obtain ⟨row, rest, rfl⟩ : ∃ row rest, todo = row :: rest := by cases todo with | nil => exact absurd rfl htne | cons a b => exact ⟨a, b, rfl⟩
  have hTp' : T.drop p = row.1 ++ (fmTail row.2.2 (row.2.1 != 0) ++ tlOf rest) := by rw [hTp]; show fm row ++ tlOf rest = _; unfold fm; rw [fmt_tail, List.append_assoc]
  have hlen := len_drop hp hTp'
  rw [List.length_append] at hlen
  refine ss_next (s_as S (e_str ⟨rfl, ?_⟩))
  refine ss_next (s_as S (e_none ⟨rfl, ?_⟩))
  refine ss_mid (fun σ' => σ'.n = σ₁.n ∧ σ'.hp = σ₁.hp ∧ σ'.loc "at" = some (.int ((p + row.1.length : Nat) : Int)) ∧ σ'.loc "name" = some (.str (st row.1)) ∧ σ'.loc "text" = some (.str (st T)) ∧ σ'.loc "rows" = some (.ref r) ∧ σ'.loc "value" = some .none) ?_ ?_
  · refine (loop_name F S hp hb hTp' (hval row (by rw [hrs]; simp)) ?_ ?_ ?_ ?_).mono (fun fl σ' ⟨e, kb, b1, b2⟩ => ⟨e, kb.n, kb.hp, b1, b2, ?_, ?_, ?_⟩) fun _ _ _ x => x
    · intro c w e
      unfold fmTail at e
      split at e
      · cases rest with
        | nil => cases e
        | cons a b => cases e; right; rfl
      · split at e <;> (cases e; left; rfl)
    · exact a2
    · exact a1
    · rfl
    · rw [kb.loc _ (by decide +kernel) (by decide +kernel)]; exact a2
    · rw [kb.loc _ (by decide +kernel) (by decide +kernel)]; exact a3
    · rw [kb.loc _ (by decide +kernel) (by decide +kernel)]; rfl
  rintro σ₂ ⟨n2, h2, b1, b2, b3, b4, b5⟩
  have hT2 : T.drop (p + row.1.length) = fmTail row.2.2 (row.2.1 != 0) ++ tlOf rest := by rw [← List.drop_drop, hTp']; simp
  refine ss_mid (fun σ' => σ'.n = σ₁.n ∧ σ'.hp = σ₁.hp ∧ σ'.loc "at" = some (.int ((p + (fm row).length : Nat) : Int)) ∧ σ'.loc "name" = some (.str (st row.1)) ∧ σ'.loc "text" = some (.str (st T)) ∧ σ'.loc "rows" = some (.ref r) ∧ σ'.loc "value" = some (valPV row.2.2)) ?_ ?_
  · refine (if_value F S (p := p + row.1.length) (by omega) hb hT2 ?_ b3 b1 b5).mono (fun fl σ' ⟨e, kb, c1, c2⟩ => ⟨e, kb.n.trans n2, kb.hp.trans h2, ?_, ?_, ?_, ?_, c2⟩) fun _ _ _ x => x
    · cases rest with
      | nil => exact .inl rfl
      | cons a b => exact .inr ⟨_, rfl⟩
    · rw [c1]; unfold fm; rw [fmt_tail, List.length_append, Nat.add_assoc]
    · rw [kb.loc _ (by decide +kernel) (by decide +kernel)]; exact b2
    · rw [kb.loc _ (by decide +kernel) (by decide +kernel)]; exact b3
    · rw [kb.loc _ (by decide +kernel) (by decide +kernel)]; exact b4
  clear hT2 b1 b2 b3 b4 b5 n2 h2 σ₂
  rintro σ₂ ⟨n2, h2, b1, b2, b3, b4, b5⟩
  have ls₂ := ls₁.keep n2 h2
  have hrn₂ := ls₂.rn
  refine ss_mid (fun σ' => ∃ is', LS σ' r is' ((done ++ [row]).map duePV) ∧ σ.n ≤ σ'.n ∧ (∀ i, i < n0 → σ'.hp i = σ.hp i) ∧ σ'.loc = σ₂.loc) (s_expr S.ok ?_) ?_
  · refine e_mcall ?_
    refine e_nm S ⟨_, m_append ls₂.hr, .builtin, ?_⟩
    refine al_cons (e_list (al_cons (e_nm S (al_cons (e_nm S (al_nil ⟨show 2 ≤ 16777216 from by decide, al_nil (ak_nil (c_append (ls₂.grow .alloc).hr ls₂.r0 ?_ ⟨rfl, is ++ [σ₂.n], ?_, ?_, ?_, rfl⟩))⟩))))))
    · rw [List.length_map, ls₂.len, List.length_map]
      have : done.length + (row :: rest).length = rs.length := by rw [hrs, List.length_append]
      omega
    · have := ls₂.push (duePV row)
      rw [List.map_append] at this
      rw [List.map_append]
      exact this
    · show σ.n ≤ σ₂.n + 1; omega
    · intro i hi
      have hlt : i < r := Nat.lt_of_lt_of_le hi hrn
      show (if i = r then _ else if i = σ₂.n then _ else σ₂.hp i) = _
      rw [if_neg (by omega), if_neg (by omega), h2]; exact hh i hi
  rintro σ₃ ⟨is', ls₃, n3, h3, e3⟩
  have d1 : σ₃.loc "at" = some (.int ((p + (fm row).length : Nat) : Int)) := by rw [e3]; exact b1
  have d2 : σ₃.loc "text" = some (.str (st T)) := by rw [e3]; exact b3
  have d3 : σ₃.loc "rows" = some (.ref r) := by rw [e3]; exact b4
  have hTl : T.length = p + ((fm row).length + (tlOf rest).length) := by
    have := len_drop hp hTp; rw [this]; show _ + (fm row ++ tlOf rest).length = _; rw [List.length_append]
  refine ss_cons (s_if (t_cmp (e_nm S ?_)))
  refine e_call ?_
  refine e_bi S F.len (v := .builtin "len") (by kernel_rfl) ⟨_, rfl, .builtin, ?_⟩
  refine al_cons (e_nm S (al_nil (ak_nil (c_len_str ?_ (o_ge_int (tr_bool ⟨fun hc => ?_, fun hc => ss_nil ⟨fun _ => ?_, fun q => absurd rfl q⟩⟩))))))
  · rw [st_len]; omega
  · have hge := of_decide_eq_true hc
    rw [st_len] at hge
    have hr0 : rest = [] := by
      cases rest with
      | nil => rfl
      | cons a b => exfalso; simp [tlOf] at hTl; omega
    subst hr0
    refine ss_ret (e_nm S ⟨nofun, fun _ => ⟨rfl, ⟨is', ?_⟩, n3, h3⟩⟩)
    rw [hrs]; exact ls₃
  · have hge := of_decide_eq_false hc
    rw [st_len] at hge
    obtain ⟨row2, rest2, rfl⟩ : ∃ a b, rest = a :: b := by
      cases rest with
      | nil => exfalso; simp [tlOf] at hTl; omega
      | cons a b => exact ⟨a, b, rfl⟩
    have hT3 : T.drop (p + (fm row).length) = 59 :: 32 :: textOf (row2 :: rest2) := by
      rw [← List.drop_drop, hTp]; show (fm row ++ tlOf (row2 :: rest2)).drop _ = _; simp [tlOf, textOf]
    refine ss_cons (s_if (t_cmp (e_slice ?_)))
    refine e_nm S (ap_some (e_nm S (ap_some (e_bin (e_nm S (e_int (o_add_int (sl_str (a := some ((p + (fm row).length : Nat) : Int)) (b := some (((p + (fm row).length + 2 : Nat)) : Int)) (.int _) (.int _) ?_ ?_))))))))
    · rw [st_len]; omega
    rw [slice_st T (by omega), hT3, show p + (fm row).length + 2 - (p + (fm row).length) = 2 from by omega]
    refine e_str (o_ne_str (tr_bool ⟨fun hc2 => ?_, fun hc2 => ss_nil ⟨fun _ => ?_, fun q => absurd rfl q⟩⟩))
    · exfalso
      rw [show ("; " : Str) = st [59, 32] from by decide +kernel] at hc2
      simp at hc2
    · refine ss_next (s_au S (e_int (o_iadd_int ⟨rfl, ss_nil ⟨(row2 :: rest2).length, by simp, done ++ [row], row2 :: rest2, is', p + (fm row).length + 2, by rw [hrs]; simp, by simp, rfl, ls₃.keep rfl rfl, n3, h3, rfl, ?_, ?_, d2, d3⟩⟩)))
      · simp [tlOf] at hTl; omega
      · rw [← List.drop_drop, hT3]; rfl
end
end L02
end Mine

open PySem PySem.W PyProof.Rows PySem.Calls
set_option Elab.async false
set_option maxRecDepth 100000
set_option maxHeartbeats 1000000
set_option linter.unusedVariables false
namespace Mine
namespace L02
structure RowOk (k : Nat) (row : Row) : Prop where
  n : row.1.length ≤ 3
  v : row.2.2.length ≤ k
  nm : ∀ c ∈ row.1, c ≠ 61 ∧ c ≠ 59 ∧ c < 0x110000
  vc : ∀ c ∈ row.2.2, c < 0x110000
structure RowsOk (k : Nat) (rs : List Row) : Prop where
  ne : rs ≠ []
  len : rs.length ≤ k + 1
  row : ∀ row ∈ rs, RowOk k row
theorem signCp_lt (x : Int) : signCp x < 0x110000 := by
  unfold signCp
  have h0 := fmod_nonneg' (x.fdiv 2) (b := 1112064) (by decide)
  have h1 := fmod_lt' (x.fdiv 2) (b := 1112064) (by decide)
  have h2 := fmod_nonneg' (x.fdiv 2) (b := 16) (by decide)
  have h3 := fmod_lt' (x.fdiv 2) (b := 16) (by decide)
  split
  · generalize hk : ((x.fdiv 2).fmod 16).toNat = k
    have hk' : k < 16 := by omega
    clear hk
    revert k
    decide +kernel
  · split <;> omega
theorem nameOf_ok (x : Int) : (nameOf x).length ≤ 3 ∧ ∀ c ∈ nameOf x, c ≠ 61 ∧ c ≠ 59 ∧ c < 0x110000 := by
  unfold nameOf
  have m1 := fmod_nonneg' ((-x).fdiv 2) (b := 26) (by decide)
  have m2 := fmod_lt' ((-x).fdiv 2) (b := 26) (by decide)
  have m3 := fmod_nonneg' (((-x).fdiv 2).fdiv 26) (b := 3) (by decide)
  have m4 := fmod_lt' (((-x).fdiv 2).fdiv 26) (b := 3) (by decide)
  refine ⟨by rw [List.length_cons, List.length_replicate]; omega, fun c hc => ?_⟩
  rcases List.mem_cons.mp hc with h | h
  · omega
  · have := List.eq_of_mem_replicate h; omega
theorem rowStep_ok {k : Nat} {rs : List Row} (h : RowsOk k rs) (x : Int) : RowsOk (k + 1) (rowStep rs x) := by
  have up : ∀ row, RowOk k row → RowOk (k + 1) row := fun row r => ⟨r.n, Nat.le_succ_of_le r.v, r.nm, r.vc⟩
  unfold rowStep
  split
  · refine ⟨by simp, by simp; have := h.len; omega, fun row hr => ?_⟩
    rcases List.mem_append.mp hr with hr | hr
    · exact up _ (h.row row hr)
    · simp at hr; subst hr
      exact ⟨(nameOf_ok x).1, Nat.zero_le _, (nameOf_ok x).2, nofun⟩
  · obtain ⟨rs', last, rfl⟩ : ∃ rs' last, rs = rs' ++ [last] := ⟨_, _, (List.dropLast_concat_getLast h.ne).symm⟩
    have hl := h.row last (by simp)
    refine ⟨by simp, by have := h.len; simp at this ⊢; omega, fun row hr => ?_⟩
    rcases List.mem_append.mp hr with hr | hr
    · simp at hr; exact up _ (h.row row (List.mem_append_left _ hr))
    · simp at hr; subst hr
      refine ⟨hl.n, by simp; exact hl.v, hl.nm, fun c hc => ?_⟩
      rcases List.mem_append.mp hc with hc | hc
      · exact hl.vc c hc
      · simp at hc; rw [hc]; exact signCp_lt x
theorem fold_ok : ∀ (ns : List Int) (k : Nat) (rs : List Row), RowsOk k rs → RowsOk (k + ns.length) (ns.foldl rowStep rs)
  | [], k, rs, h => h
  | x :: ns, k, rs, h => by
    have := fold_ok ns (k + 1) _ (rowStep_ok h x)
    rw [List.length_cons, show k + (ns.length + 1) = k + 1 + ns.length from by omega]
    exact this
theorem rows_ok (ns : List Int) : RowsOk ns.length (rowsOf ns) := by
  have := fold_ok ns 0 [([111], 0, [])] ⟨by simp, by simp, fun row hr => by simp at hr; subst hr; exact ⟨by simp, by simp, by simp, nofun⟩⟩
  rw [Nat.zero_add] at this
  exact this

theorem fm_len {k : Nat} {row : Row} (h : RowOk k row) : (fm row).length ≤ 6 + 2 * k := by
  unfold fm
  rw [fmt_tail, List.length_append]
  have h1 := h.n
  have h2 := h.v
  have h3 := esc_len row.2.2
  have : (fmTail row.2.2 (row.2.1 != 0)).length ≤ 3 + 2 * row.2.2.length := by
    unfold fmTail
    split
    · simp
    · split
      · simp; omega
      · simp; omega
  omega
theorem tl_len {k : Nat} : ∀ {rs : List Row}, (∀ row ∈ rs, RowOk k row) → (tlOf rs).length ≤ rs.length * (8 + 2 * k)
  | [], _ => Nat.zero_le _
  | r :: rs, h => by
    have h1 := fm_len (h r (List.mem_cons_self ..))
    have h2 := tl_len fun row hr => h row (List.mem_cons_of_mem _ hr)
    show (59 :: 32 :: (fm r ++ tlOf rs)).length ≤ _
    rw [List.length_cons, List.length_cons, List.length_append, List.length_cons, Nat.add_mul, Nat.one_mul]
    omega
theorem text_len {k : Nat} {rs : List Row} (h : ∀ row ∈ rs, RowOk k row) : (textOf rs).length ≤ rs.length * (8 + 2 * k) := by
  cases rs with
  | nil => exact Nat.zero_le _
  | cons r rs =>
    have := tl_len h
    have e : (tlOf (r :: rs)).length = (textOf (r :: rs)).length + 2 := by simp [tlOf, textOf]
    omega
theorem sum_fm {k : Nat} : ∀ {rs : List Row}, (∀ row ∈ rs, RowOk k row) → ((rs.map fun r => st (fm r)).map (·.length)).sum ≤ rs.length * (6 + 2 * k)
  | [], _ => Nat.zero_le _
  | r :: rs, h => by
    have h1 := fm_len (h r (List.mem_cons_self ..))
    have h2 := sum_fm fun row hr => h row (List.mem_cons_of_mem _ hr)
    simp only [List.map_cons, List.sum_cons, List.length_cons]
    rw [st_len, Nat.add_mul, Nat.one_mul]
    omega
theorem join_text : ∀ rs : List Row, Txt.join (st [59, 32]) (rs.map fun r => st (fm r)) = st (textOf rs) := by
  intro rs
  show Builtin.Str.glued _ _ = _
  rw [StrLaws.glued_eq_join]
  have key : ∀ rs : List Row, ∀ r : Row, Str.join (st [59, 32]) ((r :: rs).map fun r => st (fm r)) = st (textOf (r :: rs)) := by
    intro rs
    induction rs with
    | nil => intro r; show st (fm r) = st (fm r ++ []); rw [List.append_nil]
    | cons a b ih =>
      intro r
      show st (fm r) ++ st [59, 32] ++ Str.join (st [59, 32]) ((a :: b).map fun r => st (fm r)) = _
      rw [ih a, st_append, st_append]
      congr 1
      simp [textOf, tlOf]
  cases rs with
  | nil => rfl
  | cons r rs => exact key rs r

def dueD (r : Row) : PyData := .list [.str (st r.1), if r.2.2 = [] then .none else .str (st r.2.2)]
theorem adat_due {hp : Nat → Option AO} (r : Row) : ADatL hp (duePV r) [.str (st r.1), if r.2.2 = [] then .none else .str (st r.2.2)] := by
  refine .cons (.str _) (.cons ?_ .nil)
  unfold valPV
  split
  · exact .none
  · exact .str _
theorem adat_ls {hp : Nat → Option AO} : ∀ {is : List Nat} {rs : List Row}, is.length = rs.length → (∀ (k i : Nat) (c : List PV), is[k]? = some i → (rs.map duePV)[k]? = some c → hp i = some (.list c)) → ADatL hp (is.map PV.ref) (rs.map dueD)
  | [], [], _, _ => .nil
  | i :: is, r :: rs, hl, h => .cons (.list (h 0 i _ rfl rfl) (adat_due r)) (adat_ls (by simpa using hl) fun k j c h1 h2 => h (k + 1) j c h1 h2)
theorem shaped_due {k : Nat} {rs : List Row} (h : ∀ row ∈ rs, RowOk k row) : SeqAt.shaped (.list (rs.map dueD)) = true := by
  have hs : ∀ l : List Nat, (∀ c ∈ l, c < 0x110000) → PyData.strOk (st l) = true := by
    intro l hl
    simp only [PyData.strOk, st]
    rw [Array.all_eq_true']
    intro c hc
    exact decide_eq_true (hl c (by simpa using hc))
  unfold SeqAt.shaped
  rw [Bool.and_eq_true]
  constructor
  · show PyData.canLay0 (.list _) = true
    simp only [PyData.canLay0]
    induction rs with
    | nil => rfl
    | cons a r ih =>
      have ha := h a (List.mem_cons_self ..)
      simp only [List.map_cons, PyData.canLayAll0]
      rw [ih fun row hr => h row (List.mem_cons_of_mem _ hr), Bool.and_true]
      unfold dueD
      simp only [PyData.canLay0, PyData.canLayAll0]
      rw [hs _ fun c hc => (ha.nm c hc).2.2]
      split
      · rfl
      · simp only [PyData.canLay0]; rw [hs _ ha.vc]; rfl
  · refine decide_eq_true ?_
    have : PyData.depthAll (rs.map dueD) ≤ 1 := by
      induction rs with
      | nil => exact Nat.zero_le _
      | cons a r ih =>
        simp only [List.map_cons, PyData.depthAll]
        have h1 := ih fun row hr => h row (List.mem_cons_of_mem _ hr)
        have h2 : (dueD a).depth ≤ 1 := by
          unfold dueD
          simp only [PyData.depth, PyData.depthAll]
          split <;> simp [PyData.depth]
        omega
    simp only [PyData.depth]
    omega
theorem eqv_due (rs : List Row) : PyData.eqv (.list (rs.map dueD)) (.list (rs.map dueD)) = true := by
  simp only [PyData.eqv]
  induction rs with
  | nil => rfl
  | cons a r ih =>
    simp only [List.map_cons, PyData.eqvAll]
    rw [ih, Bool.and_true]
    unfold dueD
    simp only [PyData.eqv, PyData.eqvAll]
    split <;> simp [PyData.eqv]
end L02
end Mine

open PySem PySem.W PyProof.Rows PySem.Calls
set_option Elab.async false
set_option maxRecDepth 100000
set_option maxHeartbeats 1000000
set_option linter.unusedVariables false
namespace Mine
namespace L02
section
variable {C : Cx} {lv : Lv} {env : Env} {σ : St} {X : String → List PV → St → Prop}

theorem read_spec (F : F C) {rs : List Row} {k : Nat} {Q : PV → St → Prop} (hd : lv.d < 20) (hn : lv.hn = true) (h0 : 0 < σ.n) (hk : k ≤ 63) (ok : RowsOk k rs)
    (h : ∀ σ' r is, Grow σ σ' → σ'.loc = σ.loc → LS σ' r is (rs.map duePV) → Q (.ref r) σ') : ACall C lv env (.ref F.aD) [.str (st (textOf rs))] [] σ Q X := by
  refine a_f F.read (by omega) (F.readB _ _ _ _) ?_
  intro env' S hF
  have hlen : (textOf rs).length ≤ 100000 := by
    have h1 := text_len ok.row
    have h2 := ok.len
    have : rs.length * (8 + 2 * k) ≤ 64 * 134 := Nat.mul_le_mul (by omega) (by omega)
    omega
  refine ss_next (s_as S (e_list (al_nil ⟨Nat.zero_le _, rfl, ?_⟩)))
  refine ss_next (s_as S (e_int ⟨rfl, ?_⟩))
  refine ss_cons ?_
  refine (read_loop (lv := ⟨lv.d + 1, lv.hn, env' :: lv.fs⟩) F S (r := σ.n) (n0 := σ.n) (rs := rs) (T := textOf rs) hn hlen ok.ne (by have := ok.len; omega) rfl (fun row hr c hc => let x := (ok.row row hr).nm c hc; ⟨x.1, x.2.1⟩) ?_ ?_ ?_ ?_ (Nat.le_refl _)).mono (fun fl σ' hh => ?_) fun _ _ _ x => x
  · rfl
  · rfl
  · rfl
  · exact ⟨if_pos rfl, h0, Nat.lt_succ_self _, rfl, nofun⟩
  · obtain ⟨e, ⟨is, ls⟩, n1, h1⟩ := hh
    subst e
    refine ⟨nofun, fun _ => ⟨_, fun _ _ e => e, ?_⟩⟩
    refine h ⟨σ'.n, σ'.hp, σ.loc⟩ _ is ⟨Nat.le_trans (Nat.le_succ _) n1, fun i hi => (h1 i hi).trans (if_neg (Nat.ne_of_lt hi))⟩ rfl ?_
    exact ⟨ls.hr, ls.r0, ls.rn, ls.len, ls.at_⟩

/-- what a row's list gives -/
def gTold (hp : Nat → Option AO) : PV → Option PV
  | .ref i => match hp i with
    | some (.list [.str nm, .int q, .str v]) => some (.str (st (fmtOf nm.cps.toList v.cps.toList (q != 0))))
    | _ => none
  | _ => none
theorem gTold_row {hp : Nat → Option AO} {i : Nat} {row : Row} (h : hp i = some (.list (rowPV row))) : gTold hp (.ref i) = some (.str (st (fm row))) := by
  unfold gTold
  simp only [h, rowPV, st_toList, fm]
theorem told_all {hp : Nat → Option AO} : ∀ {is : List Nat} {rs : List Row}, is.length = rs.length → (∀ (k i : Nat) (row : Row), is[k]? = some i → rs[k]? = some row → hp i = some (.list (rowPV row))) → (is.map PV.ref).filterMap (gTold hp) = (rs.map fun r => st (fm r)).map PV.str
  | [], [], _, _ => rfl
  | i :: is, r :: rs, hl, h => by
    rw [List.map_cons, List.filterMap_cons, gTold_row (h 0 i r rfl rfl)]
    simp only [List.map_cons]
    rw [told_all (by simpa using hl) fun k j row h1 h2 => h (k + 1) j row h1 h2]

theorem law_spec (F : F C) {ns : List Int} (hlen : ns.length ≤ 63) {env : Env} (S : Sc env (namesOf (stmtAt prog 8))) (hF : FrameOk ⟨1, true, [env]⟩ env) :
    ASs C ⟨1, true, [env]⟩ env (bodyOf (stmtAt prog 8)) ⟨1, fun i => if i = 0 then some (.list (ns.map .int)) else none, locOf [("script", .ref 0)] fun _ => none⟩ (fun fl _ => fl = .ret (.bool true)) (fun _ _ _ => False) := by
  have ok := rows_ok ns
  refine ss_mid (fun σ => ∃ r is, RS σ r is (rowsOf ns) ∧ σ.loc "rows" = some (.ref r)) (s_as S ?_) ?_
  · refine e_call ?_
    refine e_gl S F.rows.glob ⟨_, rfl, .ref F.rows.keep, ?_⟩
    refine al_cons (e_nm S (al_nil (ak_nil (rows_spec F (show (1 : Nat) < 20 from by decide) rfl hlen rfl Nat.zero_lt_one Nat.zero_lt_one fun σ' r is g e rS => ⟨rfl, r, is, rS.set, rfl⟩))))
  generalize rowsOf ns = rs at ok
  generalize ns.length = k at hlen ok
  rintro σ ⟨r, is, rS, lr⟩
  have hrl : is.length ≤ 64 := by rw [rS.len]; have := ok.len; omega
  refine ss_mid (fun σ' => ∃ t, σ'.hp t = some (.list ((rs.map fun r => st (fm r)).map PV.str)) ∧ t < σ'.n ∧ RS σ' r is rs ∧ σ'.loc "rows" = some (.ref r) ∧ σ'.loc "told" = some (.ref t)) (s_comp S rfl (e_nm S ?_)) ?_
  · refine comp_pure (gTold σ.hp) (Nat.lt_of_lt_of_le rS.r0 (Nat.le_of_lt rS.rn)) (it_list rfl rS.hr) (fun τ g => g.get rS.rn rS.hr) (by rw [List.length_map]; omega) ?_ ?_
    · intro cenv S' p hp τ hg hfr
      obtain ⟨i, him, rfl⟩ := List.mem_map.mp hp
      obtain ⟨j, hj⟩ := List.mem_iff_getElem?.mp him
      have hj' : j < rs.length := by rw [← rS.len]; exact (List.getElem?_eq_some_iff.mp hj).1
      obtain ⟨row, hrow⟩ : ∃ row, rs[j]? = some row := ⟨rs[j], List.getElem?_eq_getElem hj'⟩
      obtain ⟨_, i1, _, i2⟩ := rS.at_ j i row hj hrow
      have rok := ok.row row (List.mem_of_getElem? hrow)
      refine a_unl rfl (hg.get i1 i2) rfl (a_nm S' (a_nm S' (a_nm S' (at_nil ⟨fun _ => ?_, nofun⟩))))
      refine e_call ?_
      refine e_gl S' F.fmt.glob ⟨_, rfl, .ref F.fmt.keep, ?_⟩
      refine al_cons (e_nm S' (al_cons (e_nm S' (al_cons (e_nm S' (al_nil (ak_nil (fmt_str (nm := row.1) (l := row.2.2) (q := (row.2.1 != 0)) F (show (1 : Nat) < 30 from by decide) (by have := rok.n; omega) (by have := rok.v; omega) (F.fmtB3 _ _ _ _ _ _) (fun _ _ _ _ _ _ h => tr_int h) ?_))))))))
      intro σ' g e
      exact ⟨gTold_row i2, ⟨g.n, g.hp⟩, fun y hy => (noFree (by decide +kernel) y hy).elim⟩
    · intro τ hg hl hn hloc
      rw [told_all rS.len fun k i row h1 h2 => (rS.at_ k i row h1 h2).2.2.2] at hl
      exact ⟨rfl, σ.n, hl, hn, (rS.grow hg).set, by rw [St.set_loc, hloc]; exact lr, rfl⟩
  clear lr rS σ
  rintro σ ⟨t, ht, htn, rS, lr, lt⟩
  have h0 : 0 < σ.n := Nat.lt_of_lt_of_le rS.r0 (Nat.le_of_lt rS.rn)
  refine ss_mid (fun σ' => ∃ d js, LS σ' d js (rs.map duePV) ∧ σ'.hp t = some (.list ((rs.map fun r => st (fm r)).map PV.str)) ∧ t < σ'.n ∧ σ'.loc "told" = some (.ref t) ∧ σ'.loc "due" = some (.ref d)) (s_comp S rfl (e_nm S ?_)) ?_
  · refine ⟨is.map PV.ref, _, fun k acc τ => ∃ js, acc = js.map PV.ref ∧ LS τ σ.n js ((rs.take k).map duePV) ∧ Grow σ τ ∧ k ≤ rs.length, h0, it_list rfl rS.hr, ?_, ?_, ?_, ?_⟩
    · intro loc _
      exact ⟨[], rfl, ⟨if_pos rfl, h0, Nat.lt_succ_self _, rfl, nofun⟩, ⟨Nat.le_succ _, fun i hi => if_neg (Nat.ne_of_lt hi)⟩, Nat.zero_le _⟩
    · rintro k acc τ ⟨js, _, _, g, _⟩
      exact ⟨g.get rS.rn rS.hr, fun y hy => (noFree (by decide +kernel) y hy).elim⟩
    · intro cenv S' k acc p τ hp ⟨js, e1, ls, hg, hk⟩
      rw [List.getElem?_map] at hp
      obtain ⟨i, hi, rfl⟩ := Option.map_eq_some_iff.mp hp
      have hj' : k < rs.length := by rw [← rS.len]; exact (List.getElem?_eq_some_iff.mp hi).1
      obtain ⟨row, hrow⟩ : ∃ row, rs[k]? = some row := ⟨rs[k], List.getElem?_eq_getElem hj'⟩
      obtain ⟨_, i1, _, i2⟩ := rS.at_ k i row hi hrow
      have htk : rs.take (k + 1) = rs.take k ++ [row] := by rw [List.take_add_one, hrow]; rfl
      have fin : ∀ τ' : St, Grow τ τ' → τ'.n = τ.n → τ'.hp = τ.hp → (τ'.alloc (.list (duePV row))).hp σ.n = some (.list acc) ∧ acc.length < 16777216 ∧
          ∃ js', acc ++ [PV.ref τ'.n] = js'.map PV.ref ∧ LS ((τ'.alloc (.list (duePV row))).upd σ.n (.list (acc ++ [PV.ref τ'.n]))) σ.n js' ((rs.take (k + 1)).map duePV) ∧ Grow σ ((τ'.alloc (.list (duePV row))).upd σ.n (.list (acc ++ [PV.ref τ'.n]))) ∧ k + 1 ≤ rs.length := by
        intro τ' g1 n1 h1
        have ls' := ls.grow g1
        subst e1
        refine ⟨(ls'.grow .alloc).hr, ?_, js ++ [τ'.n], by rw [List.map_append]; rfl, ?_, ⟨?_, fun j hj => ?_⟩, hj'⟩
        · rw [List.length_map, ls.len, List.length_map, List.length_take]; have := ok.len; omega
        · have := ls'.push (duePV row)
          rw [List.map_append] at this
          rw [htk, List.map_append]
          exact this
        · show σ.n ≤ τ'.n + 1
          have := hg.n; have := g1.n; omega
        · show (if j = σ.n then _ else if j = τ'.n then _ else τ'.hp j) = _
          have := hg.n; have := g1.n
          rw [if_neg (by omega), if_neg (by omega)]
          exact (hg.trans g1).hp j hj
      refine a_unl rfl (hg.get i1 i2) rfl (a_nm S' (a_nm S' (a_nm S' (at_nil ⟨fun _ => ?_, nofun⟩))))
      refine e_list (al_cons (e_nm S' (al_cons (e_if (t_cmp (e_nm S' (e_str (o_eq_str (tr_bool ⟨fun hc => e_none (al_nil ⟨show 2 ≤ 16777216 from by decide, ?_⟩), fun hc => e_nm S' (al_nil ⟨show 2 ≤ 16777216 from by decide, ?_⟩)⟩)))))))))
      · have hv : row.2.2 = [] := by
          rw [show ("" : Str) = st [] from by decide +kernel] at hc
          exact st_inj.mp (beq_iff_eq.mp hc)
        rw [show [PV.str (st row.1), PV.none] = duePV row from by unfold duePV valPV; rw [if_pos hv]]
        exact fin _ ⟨Nat.le_refl _, fun _ _ => rfl⟩ rfl rfl
      · have hv : row.2.2 ≠ [] := by
          intro e
          rw [e] at hc
          revert hc; decide +kernel
        rw [show [PV.str (st row.1), PV.str (st row.2.2)] = duePV row from by unfold duePV valPV; rw [if_neg hv]]
        exact fin _ ⟨Nat.le_refl _, fun _ _ => rfl⟩ rfl rfl
    · rintro acc τ ⟨js, e1, ls, hg, hk⟩
      rw [List.length_map, rS.len, List.take_length] at ls
      exact ⟨τ.hp, fun _ _ e => e, rfl, σ.n, js, ls.keep rfl rfl, hg.get htn ht, Nat.lt_of_lt_of_le htn hg.n, lt, rfl⟩
  clear lr rS lt ht htn h0 σ
  rintro σ ⟨d, js, ls, ht, htn, lt, ld⟩
  have h0 : 0 < σ.n := Nat.lt_of_lt_of_le ls.r0 (Nat.le_of_lt ls.rn)
  refine ss_ret (e_cmp ?_)
  refine e_call ?_
  refine e_gl S F.read.glob ⟨_, rfl, .ref F.read.keep, ?_⟩
  refine al_cons ?_
  refine e_mcall ?_
  refine e_str ⟨_, m_join, .builtin, ?_⟩
  refine al_cons (e_nm S (al_nil (ak_nil (c_join ht ?_ ?_))))
  · have h1 := sum_fm ok.row
    have h2 := ok.len
    have h3 : rs.length * (6 + 2 * k) ≤ 64 * 132 := Nat.mul_le_mul (by omega) (by omega)
    rw [List.length_map]
    show _ + _ * 2 ≤ _
    omega
  rw [show ("; " : Str) = st [59, 32] from by decide +kernel, join_text]
  refine al_nil (ak_nil (read_spec F (show (1 : Nat) < 20 from by decide) rfl h0 hlen ok fun σ' r' is' g e ls' => ?_))
  have ld' : σ'.loc "due" = some (.ref d) := by rw [e]; exact ld
  have lsd := ls.grow g
  refine e_nm S (o_eq (.list ls'.hr (adat_ls (by have := ls'.len; rw [List.length_map] at this; exact this) fun k i c h1 h2 => (ls'.at_ k i c h1 h2).2.2)) (.list lsd.hr (adat_ls (by have := lsd.len; rw [List.length_map] at this; exact this) fun k i c h1 h2 => (lsd.at_ k i c h1 h2).2.2)) (shaped_due ok.row) (shaped_due ok.row) ?_)
  rw [eqv_due]
end
end L02
end Mine

open PySem PySem.W PyProof.Rows
open PySem.W.X PySem.W.ZRun
set_option Elab.async false
set_option maxRecDepth 100000
set_option maxHeartbeats 0
theorem PySem.Challenge.cw_dn0260_02_holds : PySem.Challenge.rw_dn0260_02.Holds := by
  w_on; o_law; z_head; (case hw => w_witness2)
  k_fill
  intro w s₀ s₁ mg mb G y fa o pm cd doc dV kV ho hd hcd hD hmg hg args vals as L hpre hlay hrd hwl hlo
  z_open y L KX ZH ZN ZT
  refine Ground.open G ?_
  intro T B D TE TW
  clear ZH D TE TW B hD hcd hd
  wrow_args hpre hlay hrd hwl hlo
  obtain ⟨hat, hsz⟩ := script_at L
  have htk := script_toks L ZT
  rw [ZN] at hat hsz
  subst hat
  x_fa T KX hmg
  all_lens
  z_lists L
  clear ho hmg y G
  rename_i ns _ _ _ _ _ _ vs _ _ _ hlen _ hL _ _ hi hb hol _
  have F : Mine.L02.F ⟨PySem.Challenge.rw_dn0260_02.row.prog, w, s₁.heap, _, KX, mg, mb, T.g, T.b, T.nolimit, T.nodigits, T.builtins, s₁.os, s₁.gens⟩ := by
    refine ⟨_, _, Mine.FnG.of rfl ?_ rfl rfl ?_ ?_ ?_ ?_ ?_ ?_ ?_ ?_ ?_ ?_, ?_, _, _, Mine.FnG.of rfl ?_ rfl rfl ?_ ?_ ?_ ?_ ?_ ?_ ?_ ?_ ?_ ?_, ?_, _, _, Mine.FnG.of rfl ?_ rfl rfl ?_ ?_ ?_ ?_ ?_ ?_ ?_ ?_ ?_ ?_, ?_, _, _, Mine.FnG.of rfl ?_ rfl rfl ?_ ?_ ?_ ?_ ?_ ?_ ?_ ?_ ?_ ?_, ?_, _, rfl, ?_, ?_, ?_⟩
    all_goals try (kernel_rfl; done)
    · intro lv env σ p
      refine Mine.Binds.of fun f n hp vs ks hv hk => ?_
      cases hk; cases hv with | cons hv hr => cases hr; exact ⟨_, fun S => rfl, .cons hv .nil⟩
    · intro lv env σ p
      refine Mine.Binds.of fun f n hp vs ks hv hk => ?_
      cases hk; cases hv with | cons hv hr => cases hr; exact ⟨_, fun S => rfl, .cons hv .nil⟩
    · intro lv env σ p
      refine Mine.Binds.of fun f n hp vs ks hv hk => ?_
      cases hk; cases hv with | cons hv hr => cases hr; exact ⟨_, fun S => rfl, .cons hv .nil⟩
    · intro lv env σ p q r
      refine Mine.Binds.of fun f n hp vs ks hv hk => ?_
      cases hk; cases hv with | cons hv hr => cases hr with | cons hw hr => cases hr with | cons hx hr => cases hr; exact ⟨_, fun S => rfl, .cons hv (.cons hw (.cons hx .nil))⟩
    · exact ⟨⟨_, rfl, rfl, rfl⟩, fun x t => by kernel_rfl⟩
  refine Mine.top_fn (C := ⟨PySem.Challenge.rw_dn0260_02.row.prog, w, s₁.heap, _, KX, mg, mb, T.g, T.b, T.nolimit, T.nodigits, T.builtins, s₁.os, s₁.gens⟩) (a := 70) (x := "script") (Mine.FnAt.of (body := Mine.bodyOf (Mine.stmtAt Mine.L02.prog 8)) rfl rfl ?_ ?_ ?_ ?_ ?_ ?_ ?_ ?_ ?_) rfl rfl rfl (Nat.lt_of_lt_of_le (by decide) htk) hol (Mine.ints_rep hi) ?bi ?hx ?main ?fin
  case fin =>
    intro s' hk hos hgs
    refine Mine.good_true hk hos (hgs.trans hg) (fun _ => rfl) ?_
    first | rfl | wrow_post
  case bi => exact .of_eq rfl
  case hx => left; kernel_rfl
  case main =>
    intro env' hsc hok hfr
    exact Mine.L02.law_spec F (by omega) (Mine.Sc.of hsc hok) ⟨hfr, _, rfl⟩
  all_goals kernel_rfl

