import PyProof.Rows.All
import Wide.All
import OpenK.AllK
import Wide.FinOn
import PySem.Challenge.RW_dn0260_08
open PySem PySem.W PyProof.Rows PySem.Calls
set_option Elab.async false
set_option maxRecDepth 100000
set_option linter.unusedVariables false
namespace Mine

theorem runs_size {M : Model} {Γ : Ctx} {p : Pos} {t : Sem Fin} {fs : List Frame} {s s' : Shared} {e : End} (h : Runs M Γ p t fs s e s') : s.heap.objs.size ≤ s'.heap.objs.size := by
  induction h <;> (try simp only [Shared.setGen, Heap.size_push, Heap.size_after_update] at *) <;> omega

theorem wakes_size {M : Model} {Γ : Ctx} {p : Pos} {g : Nat} {r : Resume} {s s' : Shared} {res : GenResult} (h : Wakes M Γ p g r s res s') : s.heap.objs.size ≤ s'.heap.objs.size := by
  unfold Wakes at h
  split at h
  · exact h.elim
  · split at h
    · obtain ⟨e₁, s₁, hr, _, _, rfl⟩ := h; exact (runs_size hr : (s.setGen g .running).heap.objs.size ≤ s₁.heap.objs.size)
    · rw [h.2]; exact Nat.le_refl _
    · rw [h.2]; exact Nat.le_refl _
  · obtain ⟨e₁, s₁, hr, _, _, rfl⟩ := h; exact (runs_size hr : (s.setGen g .running).heap.objs.size ≤ s₁.heap.objs.size)
  · rw [h.2]; exact Nat.le_refl _
  · rw [h.2]; exact Nat.le_refl _

theorem wp_size0 {α : Type} (M : Model) (Γ : Ctx) (n : Nat) (t : Sem α) : ∀ (Q : α → Pos → Shared → Prop) (E : Value → Pos → Shared → Prop) (p : Pos) (s : Shared), n ≤ s.heap.objs.size → Sem.wp M Γ t Q E p s →
    Sem.wp M Γ t (fun a p' s' => n ≤ s'.heap.objs.size ∧ Q a p' s') (fun e p' s' => n ≤ s'.heap.objs.size ∧ E e p' s') p s := by
  induction t with
  | pure a => intro Q E p s hn h; exact ⟨hn, h⟩
  | raise e => intro Q E p s hn h; exact ⟨hn, h⟩
  | unsupported _ | finish _ | register _ _ | yield _ _ _ _ | fork _ _ | await _ _ _ _ _ => intro Q E p s _ h; exact h
  | rule _ k ih | point _ k ih => intro Q E p s hn h; exact ih () Q E p s hn h
  | «at» p' k ih => intro Q E p s hn h; exact ih () Q E p' s hn h
  | load a _ k ih => intro Q E p s hn h; obtain ⟨o, ho, h⟩ := h; exact ⟨o, ho, ih o Q E p s hn h⟩
  | update a _ f k ih => intro Q E p s hn h; exact ⟨h.1, ih () Q E p _ (by show n ≤ (s.heap.update a f).objs.size; rw [Heap.size_after_update]; exact hn) h.2⟩
  | loadIfAlive a k ih | ask k ih | handled _ k ih | stack k ih | thread k ih => intro Q E p s hn h; exact ih _ Q E p s hn h
  | alloc o k ih => intro Q E p s hn h; exact ih _ Q E p _ (by show n ≤ (s.heap.push o).objs.size; rw [Heap.size_push]; exact Nat.le_succ_of_le hn) h
  | fresh k ih | os _ _ k ih | newGen c k ih => intro Q E p s hn h; exact ih _ Q E p _ hn h
  | choose src m k ih => intro Q E p s hn h; exact ⟨h.1, ih _ Q E p _ hn h.2⟩
  | call c hd _ _ k ih => intro Q E p s hn h; obtain ⟨r, s', hr, h⟩ := h; exact ⟨r, s', hr, ih r Q E p s' (Nat.le_trans hn (runs_size hr)) h⟩
  | genState g k ih => intro Q E p s hn h; obtain ⟨st, hs, h⟩ := h; exact ⟨st, hs, ih _ Q E p s hn h⟩
  | resume g r _ k ih => intro Q E p s hn h; obtain ⟨res, s', hw, h⟩ := h; exact ⟨res, s', hw, ih res Q E p s' (Nat.le_trans hn (wakes_size hw)) h⟩

theorem wp_grow {α : Type} {M : Model} {A : Around} {s : Shared} {t : Sem α} {Q : α → Shared → Prop} {E : Value → Shared → Prop}
    (h : wpAny M A t (fun a s' => s.heap.objs.size ≤ s'.heap.objs.size → s.toks ≤ s'.toks → Q a s') (fun e s' => s.heap.objs.size ≤ s'.heap.objs.size → s.toks ≤ s'.toks → E e s') s) : wpAny M A t Q E s := by
  have h2 : wpAny M A t (fun a s' => s.heap.objs.size ≤ s'.heap.objs.size ∧ (s.heap.objs.size ≤ s'.heap.objs.size → s.toks ≤ s'.toks → Q a s')) (fun e s' => s.heap.objs.size ≤ s'.heap.objs.size ∧ (s.heap.objs.size ≤ s'.heap.objs.size → s.toks ≤ s'.toks → E e s')) s :=
    fun Γ p hΓ => wp_size0 M Γ s.heap.objs.size t (fun a _ s' => s.heap.objs.size ≤ s'.heap.objs.size → s.toks ≤ s'.toks → Q a s') (fun e _ s' => s.heap.objs.size ≤ s'.heap.objs.size → s.toks ≤ s'.toks → E e s') p s (Nat.le_refl _) (h Γ p hΓ)
  exact wpAny_mono (wpAny_toks h2) (fun _ _ x => x.2.2 x.2.1 x.1) fun _ _ x => x.2.2 x.2.1 x.1
end Mine

namespace Mine

inductive PV where
  | none
  | bool (b : Bool)
  | int (i : Int)
  | str (x : Str)
  | bytes (b : Array UInt8)
  | tup (l : List PV)
  | ref (i : Nat)
  | obj (v : Value)



inductive AO where
  | list (l : List PV)
  | dict (l : List (Str × PV)) (ep : Nat)
  | inst (C : Addr) (d : Nat)
  | exc (cls : String) (args : List PV)
  | thing (cls : String)
  | range (a b : Int)
  | items (d : Nat)

structure St where
  n : Nat
  hp : Nat → Option AO
  loc : Str → Option PV

structure Cx where
  prog : Program
  w : World
  base : Heap
  K : Frag
  hK : K.In base
  mg : Str → Option Value
  mb : Str → Option Value
  g : base.Ns mainGlobals mg
  b : base.Ns builtinsNs mb
  nolimit : base.NoLimit
  nodigits : ∃ mc, base.Ns cStatics mc ∧ mc "sys.int_max_str_digits" = none
  builtins : ∀ x : Str, x ≠ "__name__" → mb x = bootBuiltins x
  os : OsState
  gens : Array GenState

abbrev Cx.M (C : Cx) : Model := model C.prog C.w

mutual
inductive Rep (f : Nat → Addr) (n : Nat) (h : Heap) : Value → PV → Prop
  | none : Rep f n h .none .none
  | bool (b : Bool) : Rep f n h (.bool b) (.bool b)
  | int (i : Int) (t : Tok) : Rep f n h (.int i t) (.int i)
  | str (x : Str) (t : Tok) : Rep f n h (.str x t) (.str x)
  | bytes (b : Array UInt8) (t : Tok) : Rep f n h (.bytes b t) (.bytes b)
  | tup {a : Addr} {vs : List Value} {l : List PV} : h.IsTuple a vs.toArray → RepL f n h vs l → Rep f n h (.ref a) (.tup l)
  | ref {i : Nat} : i < n → Rep f n h (.ref (f i)) (.ref i)
  | obj (v : Value) : Rep f n h v (.obj v)
inductive RepL (f : Nat → Addr) (n : Nat) (h : Heap) : List Value → List PV → Prop
  | nil : RepL f n h [] []
  | cons {v : Value} {vs : List Value} {p : PV} {ps : List PV} : Rep f n h v p → RepL f n h vs ps → RepL f n h (v :: vs) (p :: ps)
end

theorem Rep.intI {f : Nat → Addr} {n : Nat} {h : Heap} {v : Value} {i : Int} (x : Rep f n h v (.int i)) : ∃ t, v = .int i t := by cases x; exact ⟨_, rfl⟩
theorem Rep.strI {f : Nat → Addr} {n : Nat} {h : Heap} {v : Value} {i : Str} (x : Rep f n h v (.str i)) : ∃ t, v = .str i t := by cases x; exact ⟨_, rfl⟩
theorem Rep.boolI {f : Nat → Addr} {n : Nat} {h : Heap} {v : Value} {i : Bool} (x : Rep f n h v (.bool i)) : v = .bool i := by cases x; rfl
theorem Rep.noneI {f : Nat → Addr} {n : Nat} {h : Heap} {v : Value} (x : Rep f n h v .none) : v = .none := by cases x; rfl
theorem Rep.objI {f : Nat → Addr} {n : Nat} {h : Heap} {v w : Value} (x : Rep f n h v (.obj w)) : v = w := by cases x; rfl
theorem Rep.refI {f : Nat → Addr} {n : Nat} {h : Heap} {v : Value} {i : Nat} (x : Rep f n h v (.ref i)) : i < n ∧ v = .ref (f i) := by cases x with | ref hi => exact ⟨hi, rfl⟩
theorem RepL.nilI {f : Nat → Addr} {n : Nat} {h : Heap} {vs : List Value} (x : RepL f n h vs []) : vs = [] := by cases x; rfl
theorem RepL.consI {f : Nat → Addr} {n : Nat} {h : Heap} {vs : List Value} {p : PV} {ps : List PV} (x : RepL f n h vs (p :: ps)) : ∃ w ws, vs = w :: ws ∧ Rep f n h w p ∧ RepL f n h ws ps := by cases x with | cons a r => exact ⟨_, _, rfl, a, r⟩

def RepO (f : Nat → Addr) (n : Nat) (h : Heap) : Option Value → Option PV → Prop
  | .none, .none => True
  | .some v, .some p => Rep f n h v p
  | _, _ => False

inductive RepD (P : Params) (f : Nat → Addr) (n : Nat) (h : Heap) : List DictEntry → List (Str × PV) → Prop
  | nil : RepD P f n h [] []
  | cons {k : Str} {t : Tok} {v : Value} {es : List DictEntry} {p : PV} {ps : List (Str × PV)} :
      Rep f n h v p → RepD P f n h es ps → RepD P f n h (⟨PyData.keyHash P k, .str k t, v⟩ :: es) ((k, p) :: ps)

def ORep (P : Params) (f : Nat → Addr) (n : Nat) (h : Heap) (a : Addr) : AO → Prop
  | .list l => ∃ (vs : List Value) (k : Nat), h.get? a = some { cls := .type "list", data := .seq vs.toArray k } ∧ RepL f n h vs l
  | .dict l ep => ∃ es, h.get? a = some { cls := .type "dict", data := .dict (es : List DictEntry).toArray ep } ∧ RepD P f n h es l ∧ (l.map (·.1)).Nodup ∧ (a == sysModules) = false
  | .inst K d => ∃ o, h.get? a = some o ∧ o.cls = .ref K ∧ o.dict = some (f d) ∧ d < n ∧ o.data = .plain
  | .exc cls args => ∃ o fv t vs, h.get? a = some o ∧ o.cls = .type cls ∧ o.data = .fields fv ∧ fv[0]? = some (.ref t) ∧ h.IsTuple t (vs : List Value).toArray ∧ RepL f n h vs args
  | .thing cls => ∃ o, h.get? a = some o ∧ o.cls = .type cls
  | .range x y => ∃ t u v, IsRange h a x y 1 t u v
  | .items d => h.get? a = some { cls := .type "dict_items", data := .fields #[.ref (f d)] } ∧ d < n

def isD : Data → Bool
  | .dict _ _ => true
  | _ => false

def Kept (o o' : Obj) : Prop := o' = o ∨ (isD o.data = true ∧ ∃ sl, o' = { o with slots := sl })
theorem Kept.refl (o : Obj) : Kept o o := .inl rfl
theorem Kept.data {o o' : Obj} (h : Kept o o') : o'.data = o.data := by rcases h with rfl | ⟨_, sl, rfl⟩ <;> rfl
theorem Kept.cls {o o' : Obj} (h : Kept o o') : o'.cls = o.cls := by rcases h with rfl | ⟨_, sl, rfl⟩ <;> rfl
theorem Kept.eq {o o' : Obj} (h : Kept o o') (hd : isD o.data = false) : o' = o := by
  rcases h with rfl | ⟨h1, _⟩
  · rfl
  · rw [hd] at h1; cases h1
theorem Kept.trans {o o' o'' : Obj} (h : Kept o o') (k : Kept o' o'') : Kept o o'' := by
  rcases h with rfl | ⟨h1, sl, rfl⟩
  · exact k
  · rcases k with rfl | ⟨_, sl', rfl⟩
    · exact .inr ⟨h1, sl, rfl⟩
    · exact .inr ⟨h1, sl', rfl⟩

def isF : Data → Bool
  | .fields _ => true
  | _ => false

mutual
theorem Rep.mono {f f' : Nat → Addr} {n n' : Nat} {h h' : Heap} (hf : ∀ i, i < n → f' i = f i) (hn : n ≤ n') (ht : ∀ a vs, h.IsTuple a vs → h'.IsTuple a vs) :
    ∀ {v : Value} {p : PV}, Rep f n h v p → Rep f' n' h' v p
  | _, _, .none => .none
  | _, _, .bool b => .bool b
  | _, _, .int i t => .int i t
  | _, _, .str x t => .str x t
  | _, _, .bytes b t => .bytes b t
  | _, _, .tup a r => .tup (ht _ _ a) (RepL.mono hf hn ht r)
  | _, _, .ref (i := i) hi => by rw [← hf i hi]; exact .ref (Nat.lt_of_lt_of_le hi hn)
  | _, _, .obj v => .obj v
theorem RepL.mono {f f' : Nat → Addr} {n n' : Nat} {h h' : Heap} (hf : ∀ i, i < n → f' i = f i) (hn : n ≤ n') (ht : ∀ a vs, h.IsTuple a vs → h'.IsTuple a vs) :
    ∀ {vs : List Value} {ps : List PV}, RepL f n h vs ps → RepL f' n' h' vs ps
  | _, _, .nil => .nil
  | _, _, .cons a r => .cons (Rep.mono hf hn ht a) (RepL.mono hf hn ht r)
end

theorem RepO.mono {f f' : Nat → Addr} {n n' : Nat} {h h' : Heap} (hf : ∀ i, i < n → f' i = f i) (hn : n ≤ n') (ht : ∀ a vs, h.IsTuple a vs → h'.IsTuple a vs)
    {v : Option Value} {p : Option PV} (x : RepO f n h v p) : RepO f' n' h' v p := by
  cases v <;> cases p <;> simp only [RepO] at x ⊢
  exact Rep.mono hf hn ht x

theorem RepD.mono {P : Params} {f f' : Nat → Addr} {n n' : Nat} {h h' : Heap} (hf : ∀ i, i < n → f' i = f i) (hn : n ≤ n') (ht : ∀ a vs, h.IsTuple a vs → h'.IsTuple a vs)
    {es : List DictEntry} {ps : List (Str × PV)} (x : RepD P f n h es ps) : RepD P f' n' h' es ps := by
  induction x with
  | nil => exact .nil
  | cons a _ ih => exact .cons (Rep.mono hf hn ht a) ih

theorem RepL.length {f : Nat → Addr} {n : Nat} {h : Heap} {vs : List Value} {ps : List PV} (x : RepL f n h vs ps) : vs.length = ps.length := by
  induction vs generalizing ps with
  | nil => cases x; rfl
  | cons v vs ih => cases x with | cons _ r => simp [ih r]

theorem RepL.append {f : Nat → Addr} {n : Nat} {h : Heap} {vs ws : List Value} {ps qs : List PV} (x : RepL f n h vs ps) (y : RepL f n h ws qs) : RepL f n h (vs ++ ws) (ps ++ qs) := by
  induction vs generalizing ps with
  | nil => cases x; exact y
  | cons v vs ih => cases x with | cons a r => exact .cons a (ih r)

theorem RepL.get {f : Nat → Addr} {n : Nat} {h : Heap} {vs : List Value} {ps : List PV} (x : RepL f n h vs ps) {k : Nat} {p : PV} (hk : ps[k]? = some p) : ∃ v, vs[k]? = some v ∧ Rep f n h v p := by
  induction vs generalizing ps k with
  | nil => cases x; simp at hk
  | cons v vs ih =>
    cases x with
    | cons a r =>
      cases k with
      | zero => simp at hk; subst hk; exact ⟨v, rfl, a⟩
      | succ k => exact ih r (by simpa using hk)

theorem RepL.take {f : Nat → Addr} {n : Nat} {h : Heap} {vs : List Value} {ps : List PV} (x : RepL f n h vs ps) (k : Nat) : RepL f n h (vs.take k) (ps.take k) := by
  induction vs generalizing ps k with
  | nil => cases x; simp; exact .nil
  | cons v vs ih =>
    cases x with
    | cons a r =>
      cases k with
      | zero => exact .nil
      | succ k => exact .cons a (ih r k)

theorem RepL.drop {f : Nat → Addr} {n : Nat} {h : Heap} {vs : List Value} {ps : List PV} (x : RepL f n h vs ps) (k : Nat) : RepL f n h (vs.drop k) (ps.drop k) := by
  induction vs generalizing ps k with
  | nil => cases x; simp; exact .nil
  | cons v vs ih =>
    cases x with
    | cons a r =>
      cases k with
      | zero => exact .cons a r
      | succ k => exact ih r k

theorem ORep.mono {P : Params} {f f' : Nat → Addr} {n n' : Nat} {h h' : Heap} (hf : ∀ i, i < n → f' i = f i) (hn : n ≤ n') (ht : ∀ a vs, h.IsTuple a vs → h'.IsTuple a vs)
    {a : Addr} (ha : ∀ o, h.get? a = some o → h'.get? a = some o) : ∀ {o : AO}, ORep P f n h a o → ORep P f' n' h' a o
  | .list _, ⟨vs, k, ho, r⟩ => ⟨vs, k, ha _ ho, RepL.mono hf hn ht r⟩
  | .dict _ _, ⟨es, ho, r, nd⟩ => ⟨es, ha _ ho, RepD.mono hf hn ht r, nd⟩
  | .inst _ d, ⟨o, ho, hc, hd, hlt, hp⟩ => ⟨o, ha _ ho, hc, by rw [hf d hlt]; exact hd, Nat.lt_of_lt_of_le hlt hn, hp⟩
  | .exc _ _, ⟨o, fv, t, vs, ho, hc, hd, h0, hv, r⟩ => ⟨o, fv, t, vs, ha _ ho, hc, hd, h0, ht _ _ hv, RepL.mono hf hn ht r⟩
  | .thing _, ⟨o, ho, hc⟩ => ⟨o, ha _ ho, hc⟩
  | .range _ _, ⟨t, u, v, ho⟩ => ⟨t, u, v, ha _ ho⟩
  | .items d, ⟨ho, hlt⟩ => ⟨by rw [hf d hlt]; exact ha _ ho, Nat.lt_of_lt_of_le hlt hn⟩

def Dk (h h' : Heap) : Prop := ∀ b o, h.get? b = some o → isD o.data = true → ∃ o', h'.get? b = some o' ∧ isD o'.data = true
theorem Dk.refl (h : Heap) : Dk h h := fun _ o e d => ⟨o, e, d⟩
theorem Dk.trans {h₁ h₂ h₃ : Heap} (x : Dk h₁ h₂) (y : Dk h₂ h₃) : Dk h₁ h₃ := fun b o e d => let ⟨o', e', d'⟩ := x b o e d; y b o' e' d'
theorem Dk.keeps {h h' : Heap} (hk : ∀ b o, h.get? b = some o → h'.get? b = some o) : Dk h h' := fun b o e d => ⟨o, hk b o e, d⟩
def Frs (h base : Heap) : List Env → Prop
  | [] => True
  | env :: rest => env.scope.kind ≠ .module ∧ (∃ L o, env.frame = some L ∧ base.get? L = none ∧ h.get? L = some o ∧ isD o.data = true) ∧ Frs h base rest
theorem Frs.dk {h h' base : Heap} (k : Dk h h') : ∀ {l : List Env}, Frs h base l → Frs h' base l
  | [], _ => trivial
  | env :: rest, ⟨hk, ⟨L, o, hf, hn, ho, hd⟩, hr⟩ => let ⟨o', h1, h2⟩ := k L o ho hd; ⟨hk, ⟨L, o', hf, hn, h1, h2⟩, hr.dk k⟩
theorem Frs.mem {h base : Heap} : ∀ {l : List Env}, Frs h base l → ∀ {b : Addr}, b ∈ l.filterMap (·.frame) → base.get? b = none ∧ ∃ o, h.get? b = some o ∧ isD o.data = true
  | [], _, b, hb => by simp at hb
  | env :: rest, ⟨_, ⟨L, o, hf, hn, ho, hd⟩, hr⟩, b, hb => by
    rw [List.filterMap_cons, hf] at hb
    rcases List.mem_cons.mp hb with e | hb
    · subst e; exact ⟨hn, o, ho, hd⟩
    · exact hr.mem hb
theorem Frs.hidden {h base base' : Heap} : ∀ {l : List Env}, Frs h base l → (∀ b ∈ l.filterMap (·.frame), base'.get? b = none) → h.FunFrames base' l
  | [], _, _ => trivial
  | env :: rest, ⟨hk, ⟨L, o, hf, hn, ho, hd⟩, hr⟩, hh => by
    refine ⟨hk, ⟨L, o, hf, hh L (by rw [List.filterMap_cons, hf]; exact List.mem_cons_self ..), ho, fun vs q => by rw [q] at hd; cases hd⟩, hr.hidden fun b hb => hh b ?_⟩
    rw [List.filterMap_cons, hf]; exact List.mem_cons_of_mem _ hb

structure FrsF (f : Nat → Addr) (n : Nat) (h base : Heap) (fs : List Env) : Prop where
  frs : Frs h base fs
  sep : ∀ i, i < n → f i ∉ fs.filterMap (·.frame)
theorem FrsF.dk {f : Nat → Addr} {n : Nat} {h h' base : Heap} {fs : List Env} (x : FrsF f n h base fs) (k : Dk h h') : FrsF f n h' base fs := ⟨x.frs.dk k, x.sep⟩
theorem FrsF.alloc {f : Nat → Addr} {n : Nat} {h base : Heap} {fs : List Env} (x : FrsF f n h base fs) {a : Addr} (ha : ∀ o, h.get? a = some o → isD o.data = false) : FrsF (fun i => if i = n then a else f i) (n + 1) h base fs := ⟨x.frs, fun i hi => by
  rcases Nat.lt_succ_iff_lt_or_eq.mp hi with h1 | h1
  · rw [if_neg (Nat.ne_of_lt h1)]; exact x.sep i h1
  · rw [if_pos h1]; intro q
    obtain ⟨_, o, e, d⟩ := x.frs.mem q
    rw [ha o e] at d; cases d⟩
theorem FrsF.tail {f : Nat → Addr} {n : Nat} {h base : Heap} {env : Env} {fs : List Env} (x : FrsF f n h base (env :: fs)) : FrsF f n h base fs := ⟨x.frs.2.2, fun i hi q => x.sep i hi (by
  rw [List.filterMap_cons]
  split
  · exact q
  · exact List.mem_cons_of_mem _ q)⟩

structure Rel (C : Cx) (fs : List Env) (env : Env) (f : Nat → Addr) (σ : St) (s : Shared) : Prop where
  base : C.base.StaysIn s.heap
  inj : ∀ i j, i < σ.n → j < σ.n → f i = f j → i = j
  kind : ∀ i, i < σ.n → ∃ o, s.heap.get? (f i) = some o ∧ o.cls ≠ .type "tuple"
  fresh : ∀ i, 0 < i → i < σ.n → C.base.get? (f i) = none
  objs : ∀ i o, σ.hp i = some o → i < σ.n ∧ ORep C.w.params f σ.n s.heap (f i) o
  ns : ∃ m, s.heap.Ns env.locals m ∧ ∀ x, env.kindOf x = some .local → RepO f σ.n s.heap (m x) (σ.loc x)
  cs : ∀ x, env.kindOf x = some .cell ∨ env.kindOf x = some .free → ∃ c v, env.cells.lookup x = some c ∧ s.heap.IsCell c v ∧ RepO f σ.n s.heap v (σ.loc x)
  call : ∀ x c, env.cells.lookup x = some c → ∃ v, s.heap.IsCell c v
  cinj : ∀ x y c, env.cells.lookup x = some c → env.cells.lookup y = some c → x = y
  newL : C.base.get? env.locals = none
  newC : ∀ x c, env.cells.lookup x = some c → C.base.get? c = none
  sepL : ∀ i, i < σ.n → f i ≠ env.locals
  sepC : ∀ i, i < σ.n → ∀ x c, env.cells.lookup x = some c → f i ≠ c
  frs : FrsF f σ.n s.heap C.base fs
  os : s.os = C.os
  gens : s.gens = C.gens
  tok : 0 < s.toks

structure Out (env : Env) (f : Nat → Addr) (n : Nat) (b : Addr) : Prop where
  o : ∀ i, 0 < i → i < n → b ≠ f i
  l : b ≠ env.locals
  c : ∀ x c, env.cells.lookup x = some c → b ≠ c

structure Ext (env : Env) (f : Nat → Addr) (σ : St) (s : Shared) (f' : Nat → Addr) (σ' : St) (s' : Shared) : Prop where
  le : σ.n ≤ σ'.n
  agree : ∀ i, i < σ.n → f' i = f i
  new : ∀ i, σ.n ≤ i → i < σ'.n → s.heap.objs.size ≤ f' i
  keep : ∀ b o, s.heap.get? b = some o → Out env f σ.n b → ∃ o', s'.heap.get? b = some o' ∧ Kept o o'
  grow : Dk s.heap s'.heap
  size : s.heap.objs.size ≤ s'.heap.objs.size

theorem Rel.big {C : Cx} {fs : List Env} {env : Env} {f : Nat → Addr} {σ : St} {s : Shared} (R : Rel C fs env f σ s) {a : Addr} (ha : s.heap.objs.size ≤ a) : (a == sysModules) = false := by
  obtain ⟨mc, ⟨o, _, _, ho, _⟩, _⟩ := C.nodigits
  have h1 := Heap.lt_size (R.base _ _ ho)
  have h4 : cStatics < a := Nat.lt_of_lt_of_le h1 ha
  refine beq_eq_false_iff_ne.mpr fun q => ?_
  rw [q] at h4
  exact absurd h4 (by decide)
theorem Ext.refl {env : Env} {f : Nat → Addr} {σ : St} {s : Shared} : Ext env f σ s f σ s where
  le := Nat.le_refl _
  agree _ _ := rfl
  new i h1 h2 := absurd h2 (Nat.not_lt.mpr h1)
  keep _ o e _ := ⟨o, e, .refl o⟩
  grow := .refl _
  size := Nat.le_refl _

theorem Ext.out {env : Env} {f f' : Nat → Addr} {σ σ' : St} {s s' : Shared} (E : Ext env f σ s f' σ' s') {b : Addr} {o : Obj} (hb : s.heap.get? b = some o) (x : Out env f σ.n b) : Out env f' σ'.n b where
  o i h0 hi := by
    rcases Nat.lt_or_ge i σ.n with h | h
    · rw [E.agree i h]; exact x.o i h0 h
    · exact Nat.ne_of_lt (Nat.lt_of_lt_of_le (Heap.lt_size hb) (E.new i h hi))
  l := x.l
  c := x.c

theorem Ext.trans {env : Env} {f₁ f₂ f₃ : Nat → Addr} {σ₁ σ₂ σ₃ : St} {s₁ s₂ s₃ : Shared} (a : Ext env f₁ σ₁ s₁ f₂ σ₂ s₂) (b : Ext env f₂ σ₂ s₂ f₃ σ₃ s₃) : Ext env f₁ σ₁ s₁ f₃ σ₃ s₃ where
  le := Nat.le_trans a.le b.le
  agree i h := (b.agree i (Nat.lt_of_lt_of_le h a.le)).trans (a.agree i h)
  new i h1 h2 := by
    rcases Nat.lt_or_ge i σ₂.n with h | h
    · rw [b.agree i h]; exact a.new i h1 h
    · exact Nat.le_trans a.size (b.new i h h2)
  keep x o e hx := by
    obtain ⟨o1, e1, k1⟩ := a.keep x o e hx
    obtain ⟨o2, e2, k2⟩ := b.keep x _ e1 (a.out e hx)
    exact ⟨o2, e2, k1.trans k2⟩
  grow := a.grow.trans b.grow
  size := Nat.le_trans a.size b.size

theorem Rel.tupOut {C : Cx} {fs : List Env} {env : Env} {f : Nat → Addr} {σ : St} {s : Shared} (R : Rel C fs env f σ s) {a : Addr} {vs : Array Value} (h : s.heap.IsTuple a vs) : Out env f σ.n a := by
  obtain ⟨o, ho, hc, k, hd⟩ := h
  refine ⟨fun i _ hi q => ?_, fun q => ?_, fun x c hc' q => ?_⟩
  · obtain ⟨o', h1, h2⟩ := R.kind i hi
    rw [← q, ho] at h1; cases h1; exact h2 hc
  · obtain ⟨m, ⟨o', es, ep, h1, h2, _⟩, _⟩ := R.ns
    rw [← q, ho] at h1; cases h1; rw [hd] at h2; cases h2
  · obtain ⟨v, o', h1, h2⟩ := R.call x c hc'
    rw [← q, ho] at h1; cases h1; rw [hd] at h2; cases h2

theorem Rel.tups {C : Cx} {fs : List Env} {env : Env} {f f' : Nat → Addr} {σ σ' : St} {s s' : Shared} (R : Rel C fs env f σ s) (E : Ext env f σ s f' σ' s') : ∀ a vs, s.heap.IsTuple a vs → s'.heap.IsTuple a vs := by
  intro a vs h
  have := R.tupOut h
  obtain ⟨o, ho, hc, k, hd⟩ := h
  obtain ⟨o', e, q⟩ := E.keep a o ho this
  exact ⟨_, e, q.cls.trans hc, k, q.data.trans hd⟩

theorem Rep.ext {C : Cx} {fs : List Env} {env : Env} {f f' : Nat → Addr} {σ σ' : St} {s s' : Shared} {v : Value} {p : PV} (x : Rep f σ.n s.heap v p) (R : Rel C fs env f σ s) (E : Ext env f σ s f' σ' s') : Rep f' σ'.n s'.heap v p :=
  x.mono E.agree E.le (R.tups E)
theorem RepL.ext {C : Cx} {fs : List Env} {env : Env} {f f' : Nat → Addr} {σ σ' : St} {s s' : Shared} {v : List Value} {p : List PV} (x : RepL f σ.n s.heap v p) (R : Rel C fs env f σ s) (E : Ext env f σ s f' σ' s') : RepL f' σ'.n s'.heap v p :=
  x.mono E.agree E.le (R.tups E)

structure Lv where
  d : Nat
  hn : Bool
  fs : List Env

structure OkA (lv : Lv) (A : Around) : Prop where
  depth : A.depth ≤ 400 + 4 * lv.d
  units : A.units ≤ 100 + 20 * lv.d
  frames : A.frames = some lv.fs
  guards : A.guards = some []
  handled : lv.hn = true → A.handled = none
  small : lv.d ≤ 30

def FlT (C : Cx) (f : Nat → Addr) (n : Nat) (k₀ : Nat) (h : Heap) (a : Addr) (cls : String) (args : List PV) (tb : Option Value) : Prop :=
  k₀ ≤ a ∧ C.base.get? a = none ∧ (∀ i, i < n → f i ≠ a) ∧ ∃ t vs oe fv, h.IsTuple t (vs : List Value).toArray ∧ RepL f n h vs args ∧ h.get? a = some oe ∧ oe.cls = .type cls ∧ oe.data = .fields fv ∧ fv[0]? = some (.ref t) ∧
    match tb with
    | none => fv[1]? = some .none
    | some v => ∃ T oT ts, fv[1]? = some (.ref T) ∧ k₀ ≤ T ∧ C.base.get? T = none ∧ (∀ i, i < n → f i ≠ T) ∧ T ≠ a ∧ h.get? T = some oT ∧ oT.data = .fields ts ∧ ts[3]? = some v
def Flight (C : Cx) (env : Env) (f : Nat → Addr) (n : Nat) (k₀ : Nat) (h : Heap) (e : Value) (cls : String) (args : List PV) : Prop :=
  ∃ a tb, e = .ref a ∧ FlT C f n k₀ h a cls args tb ∧ (tb = none ∨ tb = some .none ∨ ∃ L, env.frame = some L ∧ tb = some (rawInt L))

abbrev RepT (α β : Type) := (Nat → Addr) → Nat → Heap → α → β → Prop

inductive Post (C : Cx) (fs : List Env) (env : Env) {α β : Type} (rep : RepT α β) (Q : β → St → Prop) (f : Nat → Addr) (σ : St) (s : Shared) (a : α) (s' : Shared) : Prop
  | mk (b : β) (σ' : St) (f' : Nat → Addr) (q : Q b σ') (r : rep f' σ'.n s'.heap a b) (R : Rel C fs env f' σ' s') (E : Ext env f σ s f' σ' s') : Post C fs env rep Q f σ s a s'

inductive PostX (C : Cx) (fs : List Env) (env : Env) (X : String → List PV → St → Prop) (f : Nat → Addr) (σ : St) (s : Shared) (e : Value) (s' : Shared) : Prop
  | mk (cls : String) (args : List PV) (σ' : St) (f' : Nat → Addr) (x : X cls args σ') (fl : Flight C env f' σ'.n s.heap.objs.size s'.heap e cls args) (R : Rel C fs env f' σ' s') (E : Ext env f σ s f' σ' s') : PostX C fs env X f σ s e s'

structure AW (C : Cx) (lv : Lv) (env : Env) {α β : Type} (rep : RepT α β) (t : Sem α) (σ : St) (Q : β → St → Prop) (X : String → List PV → St → Prop) : Prop where
  run : ∀ A f s, OkA lv A → Rel C lv.fs env f σ s → wpAny C.M A t (Post C lv.fs env rep Q f σ s) (PostX C lv.fs env X f σ s) s

def repU : RepT Unit Unit := fun _ _ _ _ _ => True
def repB : RepT Bool Bool := fun _ _ _ a b => a = b
inductive PFlow where
  | next | brk | cont
  | ret (v : PV)
inductive RepF (f : Nat → Addr) (n : Nat) (h : Heap) : Flow → PFlow → Prop
  | next : RepF f n h .next .next
  | brk : RepF f n h .brk .brk
  | cont : RepF f n h .cont .cont
  | ret {v : Value} {p : PV} : Rep f n h v p → RepF f n h (.ret v) (.ret p)

abbrev AE (C : Cx) (lv : Lv) (env : Env) (e : Expr) (σ : St) (Q : PV → St → Prop) (X : String → List PV → St → Prop) : Prop := AW C lv env Rep (eval e env) σ Q X
abbrev AT (C : Cx) (lv : Lv) (env : Env) (e : Expr) (σ : St) (Q : Bool → St → Prop) (X : String → List PV → St → Prop) : Prop := AW C lv env repB (isTrue e env (eval e env)) σ Q X
abbrev AS (C : Cx) (lv : Lv) (env : Env) (st : Stmt) (σ : St) (Q : PFlow → St → Prop) (X : String → List PV → St → Prop) : Prop := AW C lv env RepF (exec st env) σ Q X
abbrev ASs (C : Cx) (lv : Lv) (env : Env) (st : List Stmt) (σ : St) (Q : PFlow → St → Prop) (X : String → List PV → St → Prop) : Prop := AW C lv env RepF (execs st env) σ Q X

section
variable {C : Cx} {lv : Lv} {env : Env} {α β γ δ : Type} {rep : RepT α β} {rep' : RepT γ δ} {σ : St} {X : String → List PV → St → Prop}

theorem FlT.weaken {C : Cx} {f : Nat → Addr} {n : Nat} {k₀ k₁ : Nat} {h : Heap} {a : Addr} {cls : String} {args : List PV} {tb : Option Value} (x : FlT C f n k₁ h a cls args tb) (hk : k₀ ≤ k₁) : FlT C f n k₀ h a cls args tb := by
  obtain ⟨h1, h2, h3, t, vs, oe, fv, h4, h5, h6, h7, h8, h9, h10⟩ := x
  refine ⟨Nat.le_trans hk h1, h2, h3, t, vs, oe, fv, h4, h5, h6, h7, h8, h9, ?_⟩
  cases tb with
  | none => exact h10
  | some v => obtain ⟨T, oT, ts, k1, k2, k3⟩ := h10; exact ⟨T, oT, ts, k1, Nat.le_trans hk k2, k3⟩
theorem Flight.weaken {C : Cx} {env : Env} {f : Nat → Addr} {n : Nat} {k₀ k₁ : Nat} {h : Heap} {e : Value} {cls : String} {args : List PV} (x : Flight C env f n k₁ h e cls args) (hk : k₀ ≤ k₁) : Flight C env f n k₀ h e cls args :=
  let ⟨a, tb, h1, h2, h3⟩ := x; ⟨a, tb, h1, h2.weaken hk, h3⟩

theorem PostX.trans {f f₁ : Nat → Addr} {σ σ₁ : St} {s s₁ s' : Shared} {fs : List Env} {e : Value} (E : Ext env f σ s f₁ σ₁ s₁) (x : PostX C fs env X f₁ σ₁ s₁ e s') : PostX C fs env X f σ s e s' := by
  obtain ⟨cls, args, σ', f', hx, hf, R, E'⟩ := x
  exact ⟨cls, args, σ', f', hx, hf.weaken E.size, R, E.trans E'⟩

theorem Post.trans {f f₁ : Nat → Addr} {σ σ₁ : St} {s s₁ s' : Shared} {fs : List Env} {Q : β → St → Prop} {a : α} (E : Ext env f σ s f₁ σ₁ s₁) (x : Post C fs env rep Q f₁ σ₁ s₁ a s') : Post C fs env rep Q f σ s a s' := by
  obtain ⟨b, σ', f', hq, hr, R, E'⟩ := x
  exact ⟨b, σ', f', hq, hr, R, E.trans E'⟩

theorem AW.use {t : Sem α} {Q : β → St → Prop} (h : AW C lv env rep t σ Q X) {A : Around} {f : Nat → Addr} {s : Shared} (hA : OkA lv A) (R : Rel C lv.fs env f σ s)
    {Q' : α → Shared → Prop} {E' : Value → Shared → Prop}
    (hq : ∀ a b σ' f' s', Q b σ' → rep f' σ'.n s'.heap a b → Rel C lv.fs env f' σ' s' → Ext env f σ s f' σ' s' → Q' a s')
    (he : ∀ e s', PostX C lv.fs env X f σ s e s' → E' e s') : wpAny C.M A t Q' E' s :=
  wpAny_mono (h.run A f s hA R) (fun a s' ⟨b, σ', f', h1, h2, h3, h4⟩ => hq a b σ' f' s' h1 h2 h3 h4) he

theorem AW.mono {t : Sem α} {Q Q' : β → St → Prop} {X' : String → List PV → St → Prop} (h : AW C lv env rep t σ Q X) (hq : ∀ b σ', Q b σ' → Q' b σ') (hx : ∀ c a σ', X c a σ' → X' c a σ') : AW C lv env rep t σ Q' X' :=
  ⟨fun _ _ _ hA R => h.use hA R (fun _ b σ' f' _ h1 h2 h3 h4 => ⟨b, σ', f', hq b σ' h1, h2, h3, h4⟩) fun _ _ ⟨c, a, σ', f', h1, h2, h3, h4⟩ => ⟨c, a, σ', f', hx c a σ' h1, h2, h3, h4⟩⟩

end

end Mine

namespace Mine

def St.alloc (σ : St) (o : AO) : St := { σ with n := σ.n + 1, hp := fun i => if i = σ.n then some o else σ.hp i }
def St.upd (σ : St) (i : Nat) (o : AO) : St := { σ with hp := fun j => if j = i then some o else σ.hp j }
def St.set (σ : St) (x : Str) (v : PV) : St := { σ with loc := fun y => if y = x then some v else σ.loc y }
section
variable {C : Cx} {fs : List Env} {env : Env} {f : Nat → Addr} {σ : St} {s s' : Shared}

theorem Rel.keeps (R : Rel C fs env f σ s) (hk : ∀ b o, s.heap.get? b = some o → s'.heap.get? b = some o) (ho : s'.os = s.os) (hg : s'.gens = s.gens) (ht : s.toks ≤ s'.toks) : Rel C fs env f σ s' where
  base b o e := hk _ _ (R.base b o e)
  inj := R.inj
  kind i hi := let ⟨o, e, c⟩ := R.kind i hi; ⟨o, hk _ _ e, c⟩
  fresh := R.fresh
  objs i o e := ⟨(R.objs i o e).1, ORep.mono (fun _ _ => rfl) (Nat.le_refl _) (fun a vs ⟨o, ho, r⟩ => ⟨o, hk _ _ ho, r⟩) (fun o e => hk _ _ e) (R.objs i o e).2⟩
  ns := let ⟨m, hn, hm⟩ := R.ns; ⟨m, hn.keeps hk, fun x hx => RepO.mono (fun _ _ => rfl) (Nat.le_refl _) (fun a vs ⟨o, ho, r⟩ => ⟨o, hk _ _ ho, r⟩) (hm x hx)⟩
  cs x hx := let ⟨c, v, h1, h2, h3⟩ := R.cs x hx; ⟨c, v, h1, h2.keeps hk, RepO.mono (fun _ _ => rfl) (Nat.le_refl _) (fun a vs ⟨o, ho, r⟩ => ⟨o, hk _ _ ho, r⟩) h3⟩
  call x c hc := let ⟨v, h⟩ := R.call x c hc; ⟨v, h.keeps hk⟩
  cinj := R.cinj
  newL := R.newL
  newC := R.newC
  sepL := R.sepL
  sepC := R.sepC
  frs := R.frs.dk (.keeps hk)
  os := ho.trans R.os
  gens := hg.trans R.gens
  tok := Nat.lt_of_lt_of_le R.tok ht

theorem Ext.keeps (hk : ∀ b o, s.heap.get? b = some o → s'.heap.get? b = some o) (hs : s.heap.objs.size ≤ s'.heap.objs.size) : Ext env f σ s f σ s' where
  le := Nat.le_refl _
  agree _ _ := rfl
  new i h1 h2 := absurd h2 (Nat.not_lt.mpr h1)
  keep b o e _ := ⟨o, hk _ _ e, .refl o⟩
  grow := .keeps hk
  size := hs

theorem Rel.alloc (R : Rel C fs env f σ s) {a : Addr} {o : Obj} {ao : AO} (hk : ∀ b o, s.heap.get? b = some o → s'.heap.get? b = some o) (hs : s.heap.objs.size ≤ s'.heap.objs.size)
    (ha : s.heap.objs.size ≤ a) (he : s'.heap.get? a = some o) (hc : o.cls ≠ .type "tuple") (ho : s'.os = s.os) (hg : s'.gens = s.gens) (htk : s.toks ≤ s'.toks)
    (hr : ORep C.w.params (fun i => if i = σ.n then a else f i) (σ.n + 1) s'.heap a ao) :
    Rel C fs env (fun i => if i = σ.n then a else f i) (σ.alloc ao) s' ∧ Ext env f σ s (fun i => if i = σ.n then a else f i) (σ.alloc ao) s' := by
  have R' := R.keeps hk ho hg htk
  have hf : ∀ i, i < σ.n → (if i = σ.n then a else f i) = f i := fun i hi => if_neg (Nat.ne_of_lt hi)
  have hne : ∀ b o, s.heap.get? b = some o → a ≠ b := fun b o e => Nat.ne_of_gt (Nat.lt_of_lt_of_le (Heap.lt_size e) ha)
  have hai : ∀ i, i < σ.n → a ≠ f i := fun i hi => let ⟨_, e, _⟩ := R.kind i hi; hne _ _ e
  have hbase : C.base.get? a = none := by
    cases hq : C.base.get? a with
    | none => rfl
    | some o' => exact absurd rfl (hne _ _ (R.base _ _ hq))
  have split : ∀ i, i < σ.n + 1 → i = σ.n ∨ i < σ.n := fun i hi => by omega
  have hFA : FrsF (fun i => if i = σ.n then a else f i) (σ.n + 1) s'.heap C.base fs := ⟨R'.frs.frs, fun i hi q => by
    rcases split i hi with rfl | h1
    · rw [if_pos rfl] at q
      obtain ⟨_, o₁, e₁, _⟩ := R.frs.frs.mem q
      exact absurd rfl (hne _ _ e₁)
    · rw [hf i h1] at q; exact R.frs.sep i h1 q⟩
  refine ⟨⟨R'.base, ?_, ?_, ?_, ?_, ?_, ?_, R'.call, R'.cinj, R'.newL, R'.newC, ?_, ?_, hFA, R'.os, R'.gens, R'.tok⟩, ⟨Nat.le_succ _, hf, ?_, fun b o e _ => ⟨o, hk _ _ e, .refl o⟩, .keeps hk, hs⟩⟩
  · intro i j hi hj e
    rcases split i hi with rfl | hi' <;> rcases split j hj with rfl | hj'
    · rfl
    · rw [if_pos rfl, hf j hj'] at e; exact absurd e (hai j hj')
    · rw [if_pos rfl, hf i hi'] at e; exact absurd e.symm (hai i hi')
    · rw [hf i hi', hf j hj'] at e; exact R.inj i j hi' hj' e
  · intro i hi
    rcases split i hi with rfl | hi'
    · exact ⟨o, by rw [if_pos rfl]; exact he, hc⟩
    · rw [hf i hi']; exact R'.kind i hi'
  · intro i h0 hi
    rcases split i hi with rfl | hi'
    · rw [if_pos rfl]; exact hbase
    · rw [hf i hi']; exact R.fresh i h0 hi'
  · intro i o' e
    simp only [St.alloc] at e ⊢
    by_cases q : i = σ.n
    · rw [if_pos q] at e; cases e; rw [if_pos q]; exact ⟨by omega, hr⟩
    · rw [if_neg q] at e
      obtain ⟨h1, h2⟩ := R'.objs i o' e
      rw [if_neg q]
      exact ⟨by omega, ORep.mono hf (Nat.le_succ _) (fun _ _ x => x) (fun o e => e) h2⟩
  · obtain ⟨m, hn, hm⟩ := R'.ns
    exact ⟨m, hn, fun x hx => RepO.mono hf (Nat.le_succ _) (fun _ _ x => x) (hm x hx)⟩
  · intro x hx
    obtain ⟨c, v, h1, h2, h3⟩ := R'.cs x hx
    exact ⟨c, v, h1, h2, RepO.mono hf (Nat.le_succ _) (fun _ _ x => x) h3⟩
  · intro i hi
    rcases split i hi with rfl | hi'
    · rw [if_pos rfl]
      obtain ⟨m, ⟨o', _, _, e, _⟩, _⟩ := R.ns
      exact hne _ _ e
    · rw [hf i hi']; exact R.sepL i hi'
  · intro i hi x c hc'
    rcases split i hi with rfl | hi'
    · rw [if_pos rfl]
      obtain ⟨v, o', e, _⟩ := R.call x c hc'
      exact hne _ _ e
    · rw [hf i hi']; exact R.sepC i hi' x c hc'
  · intro i h1 h2
    simp only [St.alloc] at h2
    obtain rfl : i = σ.n := by omega
    rw [if_pos rfl]; exact ha

theorem Rel.upd (R : Rel C fs env f σ s) {i : Nat} {o o' : Obj} {ao ao' : AO} (hi : σ.hp i = some ao) (h0 : 0 < i) (he : s.heap.get? (f i) = some o) (he' : s'.heap.get? (f i) = some o') (hcl : o'.cls = o.cls) (hF : isD o'.data = isD o.data)
    (hb : Heap.SameBut (f i) s.heap s'.heap) (ho : s'.os = s.os) (hg : s'.gens = s.gens) (htk : s.toks ≤ s'.toks)
    (hr : ORep C.w.params f σ.n s'.heap (f i) ao') :
    Rel C fs env f (σ.upd i ao') s' ∧ Ext env f σ s f (σ.upd i ao') s' := by
  have hlt := (R.objs i ao hi).1
  have hk : ∀ b o, b ≠ f i → s.heap.get? b = some o → s'.heap.get? b = some o := fun b o hne e => (hb.2 b hne).trans e
  have hct : o.cls ≠ .type "tuple" := by obtain ⟨o₁, e₁, c₁⟩ := R.kind i hlt; rw [he] at e₁; cases e₁; exact c₁
  have ht : ∀ a vs, s.heap.IsTuple a vs → s'.heap.IsTuple a vs := fun a vs ⟨o₁, e₁, c₁, r⟩ => ⟨o₁, hk _ _ (fun q => by rw [q, he] at e₁; cases e₁; exact hct c₁) e₁, c₁, r⟩
  have hgrow : ∀ b o, s.heap.get? b = some o → ∃ o', s'.heap.get? b = some o' ∧ isD o'.data = isD o.data ∧ o'.cls = o.cls := fun b o₁ e => by
    by_cases q : b = f i
    · subst q; rw [he] at e; cases e; exact ⟨o', he', hF, hcl⟩
    · exact ⟨o₁, hk _ _ q e, rfl, rfl⟩
  refine ⟨⟨?_, R.inj, ?_, R.fresh, ?_, ?_, ?_, ?_, R.cinj, R.newL, R.newC, R.sepL, R.sepC, R.frs.dk (fun b o e d => let ⟨o', h1, h2, _⟩ := hgrow b o e; ⟨o', h1, h2.trans d⟩), ho.trans R.os, hg.trans R.gens, Nat.lt_of_lt_of_le R.tok htk⟩, ⟨Nat.le_refl _, fun _ _ => rfl, fun i h1 h2 => absurd h2 (Nat.not_lt.mpr h1), ?_, fun b o e d => let ⟨o', h1, h2, _⟩ := hgrow b o e; ⟨o', h1, h2.trans d⟩, Nat.le_of_eq hb.1.symm⟩⟩
  · intro b o₁ e
    exact hk _ _ (fun q => by rw [q, R.fresh i h0 hlt] at e; cases e) (R.base b o₁ e)
  · intro j hj
    obtain ⟨o₁, e₁, c₁⟩ := R.kind j hj
    obtain ⟨o₂, e₂, _, c₂⟩ := hgrow _ _ e₁
    exact ⟨o₂, e₂, by rw [c₂]; exact c₁⟩
  · intro j oj e
    simp only [St.upd] at e ⊢
    by_cases q : j = i
    · rw [if_pos q] at e; cases e; rw [q]; exact ⟨hlt, hr⟩
    · rw [if_neg q] at e
      obtain ⟨h1, h2⟩ := R.objs j oj e
      exact ⟨h1, ORep.mono (fun _ _ => rfl) (Nat.le_refl _) ht (fun o e => hk _ _ (fun q' => q (R.inj _ _ h1 hlt q')) e) h2⟩
  · obtain ⟨m, hn, hm⟩ := R.ns
    exact ⟨m, hn.sameBut hb (fun q => R.sepL i hlt q.symm), fun x hx => RepO.mono (fun _ _ => rfl) (Nat.le_refl _) ht (hm x hx)⟩
  · intro x hx
    obtain ⟨c, v, h1, h2, h3⟩ := R.cs x hx
    exact ⟨c, v, h1, h2.sameBut hb (fun q => R.sepC i hlt x c h1 q.symm), RepO.mono (fun _ _ => rfl) (Nat.le_refl _) ht h3⟩
  · intro x c hc
    obtain ⟨v, h⟩ := R.call x c hc
    exact ⟨v, h.sameBut hb (fun q => R.sepC i hlt x c hc q.symm)⟩
  · intro b o₁ e hout
    exact ⟨o₁, hk _ _ (hout.o i h0 hlt) e, .refl _⟩
end
end Mine

namespace Mine

structure EnvOk (env : Env) : Prop where
  kind : env.scope.kind = .function
  glob : env.globals = mainGlobals
  bi : env.builtins = builtinsNs

section
variable {C : Cx} {fs : List Env} {lv : Lv} {env : Env} {f : Nat → Addr} {σ σ' : St} {s s' : Shared} {α β : Type} {rep : RepT α β} {X : String → List PV → St → Prop}

theorem wp_toks {M : Model} {A : Around} {t : Sem α} {Q : α → Shared → Prop} {E : Value → Shared → Prop} (h : wpAny M A t (fun a s' => s.toks ≤ s'.toks → Q a s') (fun e s' => s.toks ≤ s'.toks → E e s') s) : wpAny M A t Q E s :=
  wpAny_mono (wpAny_toks h) (fun _ _ x => x.2 x.1) fun _ _ x => x.2 x.1
theorem Rel.toks (R : Rel C fs env f σ s) {k : Nat} (hk : s.toks ≤ k) : Rel C fs env f σ { s with toks := k } := R.keeps (fun _ _ e => e) rfl rfl hk
theorem Ext.toks (k : Nat) : Ext env f σ s f σ { s with toks := k } := Ext.keeps (fun _ _ e => e) (Nat.le_refl _)

theorem Post.here {Q : β → St → Prop} {a : α} {b : β} (R : Rel C fs env f σ s) (hq : Q b σ) (hr : rep f σ.n s.heap a b) {k : Nat} (hk : s.toks ≤ k) : Post C fs env rep Q f σ s a { s with toks := k } :=
  ⟨b, σ, f, hq, hr, R.toks hk, .toks k⟩
theorem Post.now {Q : β → St → Prop} {a : α} {b : β} (R : Rel C fs env f σ s) (hq : Q b σ) (hr : rep f σ.n s.heap a b) : Post C fs env rep Q f σ s a s :=
  ⟨b, σ, f, hq, hr, R, .refl⟩

theorem Post.grown {Q : β → St → Prop} {a : α} {b : β} (R : Rel C fs env f σ s) (hk : ∀ b o, s.heap.get? b = some o → s'.heap.get? b = some o) (hs : s.heap.objs.size ≤ s'.heap.objs.size) (ho : s'.os = s.os) (hg : s'.gens = s.gens) (htk : s.toks ≤ s'.toks)
    (hq : Q b σ) (hr : rep f σ.n s'.heap a b) : Post C fs env rep Q f σ s a s' :=
  ⟨b, σ, f, hq, hr, R.keeps hk ho hg htk, .keeps hk hs⟩

theorem Rel.frameStep {a : Addr} {o o' : Obj} {loc : Str → Option PV} (R : Rel C fs env f σ s) (he : s.heap.get? a = some o) (hnt : ∀ vs n, o.data ≠ .seq vs n) (ha : a = env.locals ∨ ∃ x, env.cells.lookup x = some a) (hsb : Heap.SameBut a s.heap s'.heap)
    (he' : s'.heap.get? a = some o') (hF' : isD o'.data = isD o.data) (ho : s'.os = s.os) (hg : s'.gens = s.gens) (htk : s.toks ≤ s'.toks)
    (hns : ∃ m, s'.heap.Ns env.locals m ∧ ∀ x, env.kindOf x = some .local → RepO f σ.n s'.heap (m x) (loc x))
    (hcs : ∀ x, env.kindOf x = some .cell ∨ env.kindOf x = some .free → ∃ c v, env.cells.lookup x = some c ∧ s'.heap.IsCell c v ∧ RepO f σ.n s'.heap v (loc x))
    (hcall : ∀ x c, env.cells.lookup x = some c → ∃ v, s'.heap.IsCell c v) :
    Rel C fs env f { σ with loc := loc } s' ∧ Ext env f σ s f { σ with loc := loc } s' := by
  have hk : ∀ b o, b ≠ a → s.heap.get? b = some o → s'.heap.get? b = some o := fun b o hne e => (hsb.2 b hne).trans e
  have hnew : C.base.get? a = none := by rcases ha with rfl | ⟨x, hx⟩; exact R.newL; exact R.newC x a hx
  have hfa : ∀ i, i < σ.n → f i ≠ a := fun i hi => by rcases ha with rfl | ⟨x, hx⟩; exact R.sepL i hi; exact R.sepC i hi x a hx
  have ht : ∀ b vs, s.heap.IsTuple b vs → s'.heap.IsTuple b vs := fun b vs ⟨o₁, e₁, c₁, n, d₁⟩ => ⟨o₁, hk _ _ (fun q => by rw [q, he] at e₁; cases e₁; exact hnt _ _ d₁) e₁, c₁, n, d₁⟩
  have hgrow : ∀ b o, s.heap.get? b = some o → ∃ o', s'.heap.get? b = some o' ∧ isD o'.data = isD o.data := fun b o₁ e => by
    by_cases q : b = a
    · subst q; rw [he] at e; cases e; exact ⟨o', he', hF'⟩
    · exact ⟨o₁, hk _ _ q e, rfl⟩
  refine ⟨⟨fun b o e => hk _ _ (fun q => by rw [q, hnew] at e; cases e) (R.base b o e), R.inj, fun i hi => ?_, R.fresh, fun i oi e => ?_, hns, hcs, hcall, R.cinj, R.newL, R.newC, R.sepL, R.sepC, R.frs.dk (fun b o e d => let ⟨o', h1, h2⟩ := hgrow b o e; ⟨o', h1, h2.trans d⟩), ho.trans R.os, hg.trans R.gens, Nat.lt_of_lt_of_le R.tok htk⟩,
    ⟨Nat.le_refl _, fun _ _ => rfl, fun i h1 h2 => absurd h2 (Nat.not_lt.mpr h1), fun b o₁ e hout => ⟨o₁, hk _ _ ?_ e, .refl _⟩, fun b o e d => let ⟨o', h1, h2⟩ := hgrow b o e; ⟨o', h1, h2.trans d⟩, Nat.le_of_eq hsb.1.symm⟩⟩
  · obtain ⟨o₁, e₁, c₁⟩ := R.kind i hi
    exact ⟨o₁, hk _ _ (hfa i hi) e₁, c₁⟩
  · obtain ⟨h1, h2⟩ := R.objs i oi e
    exact ⟨h1, ORep.mono (fun _ _ => rfl) (Nat.le_refl _) ht (fun o e => hk _ _ (hfa i h1) e) h2⟩
  · rcases ha with rfl | ⟨x, hx⟩
    · exact hout.l
    · exact hout.c x a hx

theorem Rel.store {p : PV} {v : Value} {x : Str} {A : Around} {E : Value → Shared → Prop} {Q : Unit → Shared → Prop} (R : Rel C fs env f σ s) (hk : env.scope.kind = .function) (hv : Rep f σ.n s.heap v p)
    (hx : env.kindOf x = some .local ∨ env.kindOf x = some .cell)
    (h : ∀ s', Rel C fs env f (σ.set x p) s' → Ext env f σ s f (σ.set x p) s' → Q () s') : wpAny C.M A (storeName env x v) Q E s := by
  obtain ⟨m, hn, hm⟩ := R.ns
  rcases hx with hx | hx
  · refine wpAny_storeName_local hx hn (fun h' hns hsb => ?_) (by rw [hk]; rfl)
    obtain ⟨oL, esL, epL, heL, hdL, hrL⟩ := hn
    have hns' := hns
    obtain ⟨oL', esL', epL', heL', hdL', hrL'⟩ := hns'
    have ht : ∀ b vs, s.heap.IsTuple b vs → h'.IsTuple b vs := fun b vs ⟨o₁, e₁, c₁, n, d₁⟩ => ⟨o₁, (hsb.2 b fun q => by rw [q, heL] at e₁; cases e₁; rw [d₁] at hdL; cases hdL).trans e₁, c₁, n, d₁⟩
    have hcell : ∀ c w, s.heap.IsCell c w → c ≠ env.locals := fun c w ⟨o₁, e₁, d₁⟩ q => by rw [q, heL] at e₁; cases e₁; rw [hdL] at d₁; cases d₁
    obtain ⟨R', E'⟩ := R.frameStep (s' := { s with heap := h', toks := s.toks + 1 }) (loc := fun y => if y = x then some p else σ.loc y) heL (fun vs n q => by rw [hdL] at q; cases q) (.inl rfl) hsb heL' (by rw [hdL, hdL']; rfl) rfl rfl (Nat.le_succ _)
      ⟨_, hns, fun y hy => by
        dsimp only
        by_cases q : y = x
        · rw [if_pos q, if_pos q]; exact hv.mono (fun _ _ => rfl) (Nat.le_refl _) ht
        · rw [if_neg q, if_neg q]; exact RepO.mono (fun _ _ => rfl) (Nat.le_refl _) ht (hm y hy)⟩
      (fun y hy => by
        have hyx : y ≠ x := fun q => by subst q; rw [hx] at hy; rcases hy with hy | hy <;> cases hy
        obtain ⟨c, w, h1, h2, h3⟩ := R.cs y hy
        exact ⟨c, w, h1, h2.sameBut hsb (hcell c w h2), by dsimp only; rw [if_neg hyx]; exact RepO.mono (fun _ _ => rfl) (Nat.le_refl _) ht h3⟩)
      (fun y c hc => let ⟨w, hw⟩ := R.call y c hc; ⟨w, hw.sameBut hsb (hcell _ w hw)⟩)
    exact h _ R' E'
  · obtain ⟨c, w, h1, h2, h3⟩ := R.cs x (.inl hx)
    refine wpAny_storeName_cell hk hx h1 h2 (fun h' hcl hsb => ?_)
    obtain ⟨oc, ec, dc⟩ := h2
    obtain ⟨oc', ec', dc'⟩ := hcl
    obtain ⟨oL, esL, epL, heL, hdL, hrL⟩ := hn
    have ht : ∀ b vs, s.heap.IsTuple b vs → h'.IsTuple b vs := fun b vs ⟨o₁, e₁, c₁, n, d₁⟩ => ⟨o₁, (hsb.2 b fun q => by rw [q, ec] at e₁; cases e₁; rw [d₁] at dc; cases dc).trans e₁, c₁, n, d₁⟩
    have hLc : env.locals ≠ c := fun q => by rw [q, ec] at heL; cases heL; rw [hdL] at dc; cases dc
    obtain ⟨R', E'⟩ := R.frameStep (s' := { s with heap := h' }) (loc := fun y => if y = x then some p else σ.loc y) ec (fun vs n q => by rw [dc] at q; cases q) (.inr ⟨x, h1⟩) hsb ec' (by rw [dc, dc']; rfl) rfl rfl (Nat.le_refl _)
      ⟨m, Heap.Ns.sameBut ⟨oL, esL, epL, heL, hdL, hrL⟩ hsb hLc, fun y hy => by
        have hyx : y ≠ x := fun q => by subst q; rw [hx] at hy; cases hy
        dsimp only; rw [if_neg hyx]; exact RepO.mono (fun _ _ => rfl) (Nat.le_refl _) ht (hm y hy)⟩
      (fun y hy => by
        by_cases q : y = x
        · subst q
          exact ⟨c, some v, h1, ⟨oc', ec', dc'⟩, by dsimp only; rw [if_pos rfl]; exact hv.mono (fun _ _ => rfl) (Nat.le_refl _) ht⟩
        · obtain ⟨c', w', k1, k2, k3⟩ := R.cs y hy
          have hcc : c' ≠ c := fun e => q (R.cinj y x c (e ▸ k1) h1)
          exact ⟨c', w', k1, k2.sameBut hsb hcc, by dsimp only; rw [if_neg q]; exact RepO.mono (fun _ _ => rfl) (Nat.le_refl _) ht k3⟩)
      (fun y c' hc' => by
        by_cases q : c' = c
        · exact ⟨some v, by rw [q]; exact ⟨oc', ec', dc'⟩⟩
        · obtain ⟨w', hw'⟩ := R.call y c' hc'
          exact ⟨w', hw'.sameBut hsb q⟩)
    exact h _ R' E'
end
end Mine

namespace Mine

structure FrameOk (lv : Lv) (env : Env) : Prop where
  frame : env.frame = some env.locals
  top : ∃ outer, lv.fs = env :: outer

structure Fly (fs : List Env) (S : List Addr) (h h' : Heap) : Prop where
  stays : ∀ b o, h.get? b = some o → b ∉ S → b ∉ fs.filterMap (·.frame) → h'.get? b = some o
  slots : ∀ b o, h.get? b = some o → b ∉ S → ∃ sl, h'.get? b = some { o with slots := sl }

section
variable {C : Cx} {lv : Lv} {env : Env} {fs : List Env} {σ σ' : St} {f f' : Nat → Addr} {s s₀ s' : Shared} {X : String → List PV → St → Prop}

theorem Fly.kept {base h h' : Heap} {S : List Addr} (x : Fly fs S h h') (F : Frs h base fs) {b : Addr} {o : Obj} (hb : h.get? b = some o) (hS : b ∉ S) : ∃ o', h'.get? b = some o' ∧ Kept o o' := by
  by_cases q : b ∈ fs.filterMap (·.frame)
  · obtain ⟨_, o₁, h1, h2⟩ := F.mem q
    rw [hb] at h1; cases h1
    obtain ⟨sl, h3⟩ := x.slots b o hb hS
    exact ⟨_, h3, .inr ⟨h2, sl, rfl⟩⟩
  · exact ⟨o, x.stays b o hb hS q, .refl o⟩

theorem Rel.flown {S : List Addr} (R : Rel C fs env f σ s) (x : Fly fs S s.heap s'.heap) (hS : ∀ b ∈ S, C.base.get? b = none ∧ (∀ i, i < σ.n → f i ≠ b) ∧ ∃ o vs, s.heap.get? b = some o ∧ o.data = .fields vs)
    (hsz : s.heap.objs.size ≤ s'.heap.objs.size) (ho : s'.os = s.os) (hg : s'.gens = s.gens) (ht : s.toks ≤ s'.toks) : Rel C fs env f σ s' := by
  have nf : ∀ b o, s.heap.get? b = some o → (∀ vs, o.data ≠ .fields vs) → b ∉ S := fun b o e hd q => by
    obtain ⟨_, _, o₁, vs, h1, h2⟩ := hS b q
    rw [e] at h1; cases h1; exact hd vs h2
  have htup : ∀ a vs, s.heap.IsTuple a vs → s'.heap.IsTuple a vs := fun a vs ⟨o, e, c, n, d⟩ => by
    obtain ⟨sl, h1⟩ := x.slots a o e (nf a o e fun vs q => by rw [d] at q; cases q)
    exact ⟨_, h1, c, n, d⟩
  have hfS : ∀ i, i < σ.n → f i ∉ S := fun i hi q => (hS _ q).2.1 i hi rfl
  refine ⟨fun b o e => ?_, R.inj, fun i hi => ?_, R.fresh, fun i o e => ?_, ?_, fun y hy => ?_, fun y c hc => ?_, R.cinj, R.newL, R.newC, R.sepL, R.sepC, R.frs.dk fun b o e d => ?_, ho.trans R.os, hg.trans R.gens, Nat.lt_of_lt_of_le R.tok ht⟩
  · refine x.stays b o (R.base b o e) (fun q => by rw [(hS b q).1] at e; cases e) fun q => by rw [(R.frs.frs.mem q).1] at e; cases e
  · obtain ⟨o, e, c⟩ := R.kind i hi
    exact ⟨o, x.stays _ _ e (hfS i hi) (R.frs.sep i hi), c⟩
  · obtain ⟨h1, h2⟩ := R.objs i o e
    exact ⟨h1, ORep.mono (fun _ _ => rfl) (Nat.le_refl _) htup (fun o e => x.stays _ _ e (hfS i h1) (R.frs.sep i h1)) h2⟩
  · obtain ⟨m, ⟨o, es, ep, e, d, r⟩, hm⟩ := R.ns
    obtain ⟨sl, h1⟩ := x.slots _ o e (nf _ o e fun vs q => by rw [d] at q; cases q)
    exact ⟨m, ⟨_, es, ep, h1, d, r⟩, fun y hy => RepO.mono (fun _ _ => rfl) (Nat.le_refl _) htup (hm y hy)⟩
  · obtain ⟨c, v, h1, ⟨o, e, d⟩, h3⟩ := R.cs y hy
    obtain ⟨sl, h4⟩ := x.slots _ o e (nf _ o e fun vs q => by rw [d] at q; cases q)
    exact ⟨c, v, h1, ⟨_, h4, d⟩, RepO.mono (fun _ _ => rfl) (Nat.le_refl _) htup h3⟩
  · obtain ⟨v, o, e, d⟩ := R.call y c hc
    obtain ⟨sl, h4⟩ := x.slots _ o e (nf _ o e fun vs q => by rw [d] at q; cases q)
    exact ⟨v, _, h4, d⟩
  · obtain ⟨sl, h4⟩ := x.slots _ o e (nf _ o e fun vs q => by rw [q] at d; cases d)
    exact ⟨_, h4, d⟩

theorem Ext.flown {S : List Addr} (R : Rel C fs env f σ s) (E : Ext env f' σ' s₀ f σ s) (x : Fly fs S s.heap s'.heap) (hS : ∀ b ∈ S, s₀.heap.objs.size ≤ b) (hS' : ∀ b ∈ S, ∃ o vs, s.heap.get? b = some o ∧ o.data = .fields vs)
    (hsz : s.heap.objs.size ≤ s'.heap.objs.size) : Ext env f' σ' s₀ f σ s' where
  le := E.le
  agree := E.agree
  new := E.new
  keep b o e h := by
    obtain ⟨o', e', k⟩ := E.keep b o e h
    obtain ⟨o₂, e₂, k₂⟩ := x.kept R.frs.frs e' fun q => Nat.lt_irrefl _ (Nat.lt_of_lt_of_le (Heap.lt_size e) (hS b q))
    exact ⟨o₂, e₂, k.trans k₂⟩
  grow := E.grow.trans fun b o e d => by
    obtain ⟨sl, h4⟩ := x.slots _ o e fun q => by obtain ⟨o₁, vs, h1, h2⟩ := hS' b q; rw [e] at h1; cases h1; rw [h2] at d; cases d
    exact ⟨_, h4, d⟩
  size := Nat.le_trans E.size hsz

theorem entry_raw {M : Model} {A : Around} {E : Value → Shared → Prop} {base : Heap} {outer : List Env} {L e : Addr} {oe : Obj} {vs : Array Value} {head : Value} {hadNext : Bool} {Q : Unit → Shared → Prop} (hfr : A.frames = some (env :: outer)) (hl : Frs s.heap base (env :: outer)) (hf : env.frame = some L)
    (he : s.heap.get? e = some oe) (hd : oe.data = .fields vs) (hsz : 1 < vs.size)
    (h : ∀ h' oT ts, Fly (env :: outer) [e] s.heap h' → h'.get? e = some (oe.mapFields (·.setIfInBounds 1 (.ref s.heap.objs.size))) → h'.get? s.heap.objs.size = some oT → oT.data = .fields ts → ts[3]? = some (rawInt L) → Q () { s with heap := h' }) :
    wpAny M A (do let a ← frameOf env; let pl ← entryPlaceOf L hadNext; let b ← EntryCells.newEntry head a .none (rawInt L) .none pl; setField (.ref e) 1 b) Q E s := by
  have hl' : s.heap.FunFrames (hideAll s.heap ((env :: outer).filterMap (·.frame))) (env :: outer) := hl.hidden fun b hb => hideAll_none _ hb
  have hene : e ∉ (env :: outer).filterMap (·.frame) := fun hm => by
    obtain ⟨_, o, ho, hnf⟩ := hl.mem hm
    rw [he] at ho; cases ho; rw [hd] at hnf; cases hnf
  refine wpAny_bind (wpAny_frameOf_fun hfr hl' hf fun h₁ hs₁ => ?_)
  refine wpAny_bind (wpAny_entryPlaceOf fun pl hpl => ?_)
  unfold EntryCells.newEntry newFields
  refine wpAny_bind (wpAny_newObj_type ?_ (hpl.sizeOk5 _ _ _ _ _))
  have he₁ : h₁.get? e = some oe := (hs₁.2.1 e hene).trans he
  refine wpAny_setField (Heap.get?_push_of_some _ he₁) hd hsz ?_
  have hT : h₁.objs.size = s.heap.objs.size := hs₁.1
  have hTe : h₁.objs.size ≠ e := Nat.ne_of_gt (Heap.lt_size he₁)
  show Q () { s with heap := _ }
  refine h _ { cls := .type "traceback", dict := none, data := .fields ([head, .ref L, .none, rawInt L, .none] ++ (if pl.isEmpty then List.replicate 6 Value.none else pl)).toArray } ([head, .ref L, .none, rawInt L, .none] ++ (if pl.isEmpty then List.replicate 6 Value.none else pl)).toArray ⟨fun b o hb hS hnf => ?_, fun b o hb hS => ?_⟩ ?_ ?_ rfl ?_
  · have hbe : b ≠ e := fun q => hS (by simp [q])
    rw [Heap.get?_update_other _ _ (Ne.symm hbe)]
    exact Heap.get?_push_of_some _ ((hs₁.2.1 b hnf).trans hb)
  · have hbe : b ≠ e := fun q => hS (by simp [q])
    obtain ⟨sl, h2⟩ := hs₁.2.2 b o hb
    refine ⟨sl, ?_⟩
    rw [Heap.get?_update_other _ _ (Ne.symm hbe)]
    exact Heap.get?_push_of_some _ h2
  · rw [hT]
    exact Heap.get?_update_self _ (Heap.get?_push_of_some _ he₁) (Obj.isFreed_of_fields (Obj.data_mapFields hd _))
  · rw [Heap.get?_update_other _ _ (by rw [← hT]; exact Ne.symm hTe), ← hT]
    exact Heap.get?_push_size _ rfl
  · simp

theorem Fly.trans {S S' : List Addr} {h₁ h₂ h₃ : Heap} (x : Fly fs S h₁ h₂) (y : Fly fs S' h₂ h₃) : Fly fs (S ++ S') h₁ h₃ where
  stays b o e hS hf := y.stays b o (x.stays b o e (fun q => hS (List.mem_append_left _ q)) hf) (fun q => hS (List.mem_append_right _ q)) hf
  slots b o e hS := by
    obtain ⟨sl, h1⟩ := x.slots b o e fun q => hS (List.mem_append_left _ q)
    obtain ⟨sl', h2⟩ := y.slots b _ h1 fun q => hS (List.mem_append_right _ q)
    exact ⟨sl', h2⟩
theorem Fly.one {h : Heap} {T : Addr} {g : Obj → Obj} : Fly fs [T] h (h.update T g) where
  stays b o e hS _ := by
    have hne : b ≠ T := fun q => hS (by simp [q])
    rw [Heap.get?_update_other _ _ (Ne.symm hne)]; exact e
  slots b o e hS := by
    have hne : b ≠ T := fun q => hS (by simp [q])
    exact ⟨o.slots, by rw [Heap.get?_update_other _ _ (Ne.symm hne)]; exact e⟩

theorem note_flight {A : Around} {k₀ : Nat} {e : Value} {cls : String} {args : List PV} {Q : Unit → Shared → Prop} {E : Value → Shared → Prop} {outer : List Env} (hA : A.frames = some (env :: outer)) (hf : env.frame = some env.locals)
    (R : Rel C (env :: outer) env f σ s) (hs : k₀ ≤ s.heap.objs.size) (F : Flight C env f σ.n k₀ s.heap e cls args)
    (h : ∀ s' a, e = .ref a → Rel C (env :: outer) env f σ s' → (∀ f₀ σ₀ s₀, s₀.heap.objs.size ≤ k₀ → Ext env f₀ σ₀ s₀ f σ s → Ext env f₀ σ₀ s₀ f σ s') → FlT C f σ.n k₀ s'.heap a cls args (some (rawInt env.locals)) → Q () s') : wpAny C.M A (noteFrame e env) Q E s := by
  obtain ⟨a, tb, rfl, F, htb⟩ := F
  obtain ⟨h1, h2, h3, t, vs, oe, fv, h4, h5, h6, h7, h8, h9, h10⟩ := F
  have hbT : C.base.get? s.heap.objs.size = none := by
    cases hq : C.base.get? s.heap.objs.size with
    | none => rfl
    | some o => exact absurd (Heap.lt_size (R.base _ o hq)) (Nat.lt_irrefl _)
  have hfT : ∀ i, i < σ.n → f i ≠ s.heap.objs.size := fun i hi => let ⟨_, e, _⟩ := R.kind i hi; Nat.ne_of_lt (Heap.lt_size e)
  have haT : s.heap.objs.size ≠ a := Nat.ne_of_gt (Heap.lt_size h6)
  -- the end, from any middle heap in which T (if any) alone was touched
  have fin : ∀ (S : List Addr) (h' : Heap) (oT : Obj) (ts : Array Value), (∀ b ∈ S, k₀ ≤ b ∧ C.base.get? b = none ∧ (∀ i, i < σ.n → f i ≠ b) ∧ ∃ o vs, s.heap.get? b = some o ∧ o.data = .fields vs) → s.heap.objs.size ≤ h'.objs.size →
      Fly (env :: outer) S s.heap h' → h'.get? a = some (oe.mapFields (·.setIfInBounds 1 (.ref s.heap.objs.size))) → h'.get? s.heap.objs.size = some oT → oT.data = .fields ts → ts[3]? = some (rawInt env.locals) → Q () { s with heap := h' } := by
    intro S h' oT ts hS hz hfly hea heT hdT h3T
    have htup : ∀ b ws, s.heap.IsTuple b ws → h'.IsTuple b ws := fun b ws ⟨o, e, c, n, d⟩ => by
      obtain ⟨sl, q1⟩ := hfly.slots b o e (fun q => by obtain ⟨_, _, _, o₁, ws', q1, q2⟩ := hS b q; rw [e] at q1; cases q1; rw [d] at q2; cases q2)
      exact ⟨_, q1, c, n, d⟩
    have hsz1 : 1 < fv.size := by
      cases tb with
      | none => exact (Array.getElem?_eq_some_iff.mp h10).1
      | some v => obtain ⟨_, _, _, k1, _⟩ := h10; exact (Array.getElem?_eq_some_iff.mp k1).1
    refine h _ a rfl (R.flown (s' := { s with heap := h' }) hfly (fun b hb => (hS b hb).2) hz rfl rfl (Nat.le_refl _)) (fun f₀ σ₀ s₀ hs₀ E₀ => E₀.flown R hfly (fun b hb => Nat.le_trans hs₀ (hS b hb).1) (fun b hb => (hS b hb).2.2.2) hz) ?_
    refine ⟨h1, h2, h3, t, vs, _, _, htup _ _ h4, h5.mono (fun _ _ => rfl) (Nat.le_refl _) htup, hea, (Obj.cls_mapFields _ _).trans h7, Obj.data_mapFields h8 _, ?_, s.heap.objs.size, oT, ts, ?_, hs, hbT, hfT, haT, heT, hdT, h3T⟩
    · rw [Array.getElem?_setIfInBounds_ne (by decide)]; exact h9
    · simp [hsz1]
  have hSa : ∀ b ∈ [a], k₀ ≤ b ∧ C.base.get? b = none ∧ (∀ i, i < σ.n → f i ≠ b) ∧ ∃ o vs, s.heap.get? b = some o ∧ o.data = .fields vs := fun b hb => by
    obtain rfl := List.mem_singleton.mp hb
    exact ⟨h1, h2, h3, oe, fv, h6, h8⟩
  unfold noteFrame
  simp only [hf]
  cases tb with
  | none =>
    refine wp_grow ?_
    refine wpAny_bind (wpAny_field h6 h8 h10 ?_)
    rw [if_neg (by decide)]
    exact entry_raw hA R.frs.frs hf h6 h8 (Array.getElem?_eq_some_iff.mp h10).1 fun h' oT ts q1 q2 q3 q4 q5 hz _ => fin [a] h' oT ts hSa hz q1 q2 q3 q4 q5
  | some v =>
    obtain ⟨T, oT, ts, k1, k2, k3, k4, k5, k6, k7, k8⟩ := h10
    refine wpAny_bind (wpAny_field h6 h8 k1 ?_)
    rw [if_pos (show (Value.ref T != Value.none) = true from by simp)]
    refine wpAny_bind (wpAny_field k6 k7 k8 ?_)
    rcases htb with q | q | ⟨L, q0, q⟩
    · cases q
    · cases q
      rw [if_neg (show ¬ ((Value.none == rawInt env.locals) = true) from by simp [rawInt])]
      refine wp_grow ?_
      refine wpAny_bind (wpAny_setField k6 k7 (Array.getElem?_eq_some_iff.mp k8).1 ?_)
      have hne : a ≠ T := Ne.symm k5
      have hea : (s.heap.update T (Obj.mapFields (·.setIfInBounds 3 Value.none))).get? a = some oe := by rw [Heap.get?_update_other _ _ k5]; exact h6
      have hfrs : Frs (s.heap.update T (Obj.mapFields (·.setIfInBounds 3 Value.none))) C.base (env :: outer) := R.frs.frs.dk fun b o e d => ⟨o, by
        rw [Heap.get?_update_other _ _ (fun q => by subst q; rw [k6] at e; cases e; rw [k7] at d; cases d)]; exact e, d⟩
      refine entry_raw (s := { s with heap := s.heap.update T (Obj.mapFields (·.setIfInBounds 3 Value.none)) }) hA hfrs hf hea h8 (Array.getElem?_eq_some_iff.mp k1).1 fun h' oT' ts' q1 q2 q3 q4 q5 hz _ => ?_
      rw [Heap.size_after_update] at q2 q3
      refine fin ([T] ++ [a]) h' oT' ts' (fun b hb => ?_) hz (Fly.trans Fly.one q1) q2 q3 q4 q5
      rcases List.mem_append.mp hb with hb | hb
      · obtain rfl := List.mem_singleton.mp hb
        exact ⟨k2, k3, k4, oT, ts, k6, k7⟩
      · exact hSa b hb
    · rw [hf] at q0; cases q0
      cases q
      rw [if_pos (show (rawInt env.locals == rawInt env.locals) = true from by simp)]
      exact wpAny_pure (h s a rfl R (fun _ _ _ _ E => E) ⟨h1, h2, h3, t, vs, oe, fv, h4, h5, h6, h7, h8, h9, T, oT, ts, k1, k2, k3, k4, k5, k6, k7, k8⟩)

theorem set_flight {A : Around} {k₀ : Nat} {a : Addr} {cls : String} {args : List PV} {v : Value} {fr : Option Addr} {Q : Unit → Shared → Prop} {E : Value → Shared → Prop} 
    (R : Rel C fs env f σ s) (F : FlT C f σ.n k₀ s.heap a cls args (some v))
    (h : ∀ s', Rel C fs env f σ s' → (∀ f₀ σ₀ s₀, s₀.heap.objs.size ≤ k₀ → Ext env f₀ σ₀ s₀ f σ s → Ext env f₀ σ₀ s₀ f σ s') → FlT C f σ.n k₀ s'.heap a cls args (some (fr.elim .none fun f => rawInt f)) → Q () s') : wpAny C.M A (setFlight (.ref a) fr) Q E s := by
  obtain ⟨h1, h2, h3, t, vs, oe, fv, h4, h5, h6, h7, h8, h9, T, oT, ts, k1, k2, k3, k4, k5, k6, k7, k8⟩ := F
  unfold setFlight
  refine wpAny_bind (wpAny_field h6 h8 k1 ?_)
  rw [if_pos (show (Value.ref T != Value.none) = true from by simp)]
  have hsz3 : 3 < ts.size := (Array.getElem?_eq_some_iff.mp k8).1
  refine wpAny_setField k6 k7 hsz3 ?_
  have hS : ∀ b ∈ [T], k₀ ≤ b ∧ C.base.get? b = none ∧ (∀ i, i < σ.n → f i ≠ b) ∧ ∃ o vs, s.heap.get? b = some o ∧ o.data = .fields vs := fun b hb => by
    obtain rfl := List.mem_singleton.mp hb
    exact ⟨k2, k3, k4, oT, ts, k6, k7⟩
  have htup : ∀ b ws, s.heap.IsTuple b ws → (s.heap.update T (Obj.mapFields (·.setIfInBounds 3 (fr.elim .none fun f => rawInt f)))).IsTuple b ws := fun b ws ⟨o, e, c, n, d⟩ =>
    ⟨o, by rw [Heap.get?_update_other _ _ (fun q => by subst q; rw [k6] at e; cases e; rw [k7] at d; cases d)]; exact e, c, n, d⟩
  have hz : s.heap.objs.size ≤ (s.heap.update T (Obj.mapFields (·.setIfInBounds 3 (fr.elim .none fun f => rawInt f)))).objs.size := by rw [Heap.size_after_update]; exact Nat.le_refl _
  refine h _ (R.flown (s' := { s with heap := s.heap.update T (Obj.mapFields (·.setIfInBounds 3 (fr.elim .none fun f => rawInt f))) }) Fly.one (fun b hb => (hS b hb).2) hz rfl rfl (Nat.le_refl _)) (fun f₀ σ₀ s₀ hs₀ E₀ => E₀.flown R Fly.one (fun b hb => Nat.le_trans hs₀ (hS b hb).1) (fun b hb => (hS b hb).2.2.2) hz) ?_
  refine ⟨h1, h2, h3, t, vs, oe, fv, htup _ _ h4, h5.mono (fun _ _ => rfl) (Nat.le_refl _) htup, ?_, h7, h8, h9, T, _, _, k1, k2, k3, k4, k5, Heap.get?_update_self _ k6 (Obj.isFreed_of_fields (Obj.data_mapFields k7 _)), Obj.data_mapFields k7 _, ?_⟩
  · show (s.heap.update T _).get? a = _
    rw [Heap.get?_update_other _ _ k5]; exact h6
  · simp [hsz3]

theorem leave_flight {A : Around} {k₀ : Nat} {e : Value} {cls : String} {args : List PV} {Q : Unit → Shared → Prop} {E : Value → Shared → Prop} {outer : List Env} (hA : A.frames = some (env :: outer)) (hf : env.frame = some env.locals)
    (R : Rel C (env :: outer) env f σ s) (hs : k₀ ≤ s.heap.objs.size) (F : Flight C env f σ.n k₀ s.heap e cls args)
    (h : ∀ s', Rel C (env :: outer) env f σ s' → (∀ f₀ σ₀ s₀, s₀.heap.objs.size ≤ k₀ → Ext env f₀ σ₀ s₀ f σ s → Ext env f₀ σ₀ s₀ f σ s') → (∀ env' : Env, Flight C env' f σ.n k₀ s'.heap e cls args) → Q () s') : wpAny C.M A (leaving env e) Q E s := by
  unfold leaving
  refine wpAny_bind (note_flight hA hf R hs F fun s₁ a ea R₁ E₁ F₁ => ?_)
  subst ea
  refine set_flight R₁ F₁ fun s₂ R₂ E₂ F₂ => ?_
  exact h s₂ R₂ (fun f₀ σ₀ s₀ q E => E₂ f₀ σ₀ s₀ q (E₁ f₀ σ₀ s₀ q E)) fun env' => ⟨a, _, rfl, F₂, .inr (.inl rfl)⟩

theorem back_flight {A : Around} {k₀ : Nat} {a : Addr} {cls : String} {args : List PV} {v : Value} {Q : Unit → Shared → Prop} {E : Value → Shared → Prop} (hf : env.frame = some env.locals)
    (R : Rel C fs env f σ s) (F : FlT C f σ.n k₀ s.heap a cls args (some v))
    (h : ∀ s', Rel C fs env f σ s' → (∀ f₀ σ₀ s₀, s₀.heap.objs.size ≤ k₀ → Ext env f₀ σ₀ s₀ f σ s → Ext env f₀ σ₀ s₀ f σ s') → Flight C env f σ.n k₀ s'.heap (.ref a) cls args → Q () s') : wpAny C.M A (do
    if (← field (.ref a) 1) == .none then unsupported "frame.own-activation:exception-without-traceback"
    setFlight (.ref a) env.frame) Q E s := by
  have F' := F
  obtain ⟨h1, h2, h3, t, vs, oe, fv, h4, h5, h6, h7, h8, h9, T, oT, ts, k1, k2, k3, k4, k5, k6, k7, k8⟩ := F'
  refine wpAny_bind (wpAny_field h6 h8 k1 ?_)
  rw [if_neg (show ¬ ((Value.ref T == Value.none) = true) from by simp)]
  refine set_flight R F fun s₂ R₂ E₂ F₂ => h s₂ R₂ E₂ ⟨a, _, rfl, F₂, .inr (.inr ⟨_, hf, ?_⟩)⟩
  rw [hf]; rfl
end
end Mine

namespace Mine

structure Op1 (C : Cx) (lv : Lv) (env : Env) {α β : Type} (rep : RepT α β) (t : Value → Sem α) (p : PV) (σ : St) (Q : β → St → Prop) (X : String → List PV → St → Prop) : Prop where
  run : ∀ A f s v, OkA lv A → Rel C lv.fs env f σ s → Rep f σ.n s.heap v p → wpAny C.M A (t v) (Post C lv.fs env rep Q f σ s) (PostX C lv.fs env X f σ s) s
structure Op2 (C : Cx) (lv : Lv) (env : Env) {α β : Type} (rep : RepT α β) (t : Value → Value → Sem α) (p q : PV) (σ : St) (Q : β → St → Prop) (X : String → List PV → St → Prop) : Prop where
  run : ∀ A f s v w, OkA lv A → Rel C lv.fs env f σ s → Rep f σ.n s.heap v p → Rep f σ.n s.heap w q → wpAny C.M A (t v w) (Post C lv.fs env rep Q f σ s) (PostX C lv.fs env X f σ s) s
inductive RepK (f : Nat → Addr) (n : Nat) (h : Heap) : List (Str × Value) → List (Str × PV) → Prop
  | nil : RepK f n h [] []
  | cons {k : Str} {v : Value} {vs : List (Str × Value)} {p : PV} {ps : List (Str × PV)} : Rep f n h v p → RepK f n h vs ps → RepK f n h ((k, v) :: vs) ((k, p) :: ps)
theorem RepK.mono {f f' : Nat → Addr} {n n' : Nat} {h h' : Heap} (hf : ∀ i, i < n → f' i = f i) (hn : n ≤ n') (ht : ∀ a vs, h.IsTuple a vs → h'.IsTuple a vs)
    {es : List (Str × Value)} {ps : List (Str × PV)} (x : RepK f n h es ps) : RepK f' n' h' es ps := by
  induction x with
  | nil => exact .nil
  | cons a _ ih => exact .cons (Rep.mono hf hn ht a) ih
theorem RepK.ext {C : Cx} {fs : List Env} {env : Env} {f f' : Nat → Addr} {σ σ' : St} {s s' : Shared} {v : List (Str × Value)} {p : List (Str × PV)} (x : RepK f σ.n s.heap v p) (R : Rel C fs env f σ s) (E : Ext env f σ s f' σ' s') : RepK f' σ'.n s'.heap v p :=
  x.mono E.agree E.le (R.tups E)

structure ACall (C : Cx) (lv : Lv) (env : Env) (fv : Value) (ps : List PV) (kw : List (Str × PV)) (σ : St) (Q : PV → St → Prop) (X : String → List PV → St → Prop) : Prop where
  run : ∀ A f s vs ks, OkA lv A → Rel C lv.fs env f σ s → RepL f σ.n s.heap vs ps → RepK f σ.n s.heap ks kw → wpAny C.M A (call fv vs ks) (Post C lv.fs env Rep Q f σ s) (PostX C lv.fs env X f σ s) s

abbrev AL (C : Cx) (lv : Lv) (env : Env) (es : List Expr) (pos : Pos) (σ : St) (Q : List PV → St → Prop) (X : String → List PV → St → Prop) : Prop := AW C lv env RepL (spliced (backTo pos (starEach es env))) σ Q X
abbrev AK (C : Cx) (lv : Lv) (env : Env) (kws : List Keyword) (pos : Pos) (σ : St) (Q : List PV → St → Prop) (X : String → List PV → St → Prop) : Prop := AW C lv env RepL (evalAll ((backToKw pos (keywordEach kws env)).map (·.2))) σ Q X

def KeepV (C : Cx) (fv : Value) : Prop := ∀ h, C.K.In h → ∃ k, (k = Keeper.frame ∨ k = Keeper.machine ∨ k = Keeper.boundFrame) ∧ Looks C.M h (keeperOf fv) k
theorem KeepV.builtin {C : Cx} {id : String} : KeepV C (.builtin id) := fun _ _ => ⟨.machine, .inr (.inl rfl), Looks.of_pure rfl⟩
theorem KeepV.type {C : Cx} {id : String} : KeepV C (.type id) := fun _ _ => ⟨.machine, .inr (.inl rfl), Looks.of_pure rfl⟩
theorem KeepV.ref {C : Cx} {a : Addr} (h : keepIn C.K (.ref a) = true) : KeepV C (.ref a) := fun hp X => keeps_K h hp X

def Meth (C : Cx) (lv : Lv) (env : Env) (p : PV) (name : Str) (fv : Value) (σ : St) : Prop :=
  ∀ A f s v (pl : Sem Bool) (Q : Value × List Value → Shared → Prop) (E : Value → Shared → Prop), OkA lv A → Rel C lv.fs env f σ s → Rep f σ.n s.heap v p → (∀ k, s.toks ≤ k → Q (fv, [v]) { s with toks := k }) → wpAny C.M A (getMethod v name pl) Q E s

section
variable {C : Cx} {lv : Lv} {env : Env} {σ : St} {X : String → List PV → St → Prop}

theorem Rel.K {fs : List Env} {f : Nat → Addr} {s : Shared} (R : Rel C fs env f σ s) : C.K.In s.heap := C.hK.keeps R.base

theorem e_none {k : Nat} {pos : Pos} {Q : PV → St → Prop} (h : Q .none σ) : AE C lv env (.Constant .none k pos) σ Q X :=
  ⟨fun A f s hA R => wpAny_Constant_none (Post.now R h .none)⟩
theorem e_bool {b : Bool} {k : Nat} {pos : Pos} {Q : PV → St → Prop} (h : Q (.bool b) σ) : AE C lv env (.Constant (.bool b) k pos) σ Q X :=
  ⟨fun A f s hA R => wpAny_Constant_bool (Post.now R h (.bool b))⟩
theorem e_int {i : Int} {k : Nat} {pos : Pos} {Q : PV → St → Prop} (h : Q (.int i) σ) : AE C lv env (.Constant (.int i) k pos) σ Q X :=
  ⟨fun A f s hA R => wpAny_Constant_int (Post.here R h (.int i _) (Nat.le_succ _))⟩
theorem e_str {x : Str} {k : Nat} {pos : Pos} {Q : PV → St → Prop} (h : Q (.str x) σ) : AE C lv env (.Constant (.str x) k pos) σ Q X :=
  ⟨fun A f s hA R => wpAny_Constant_str (Post.here R h (.str x _) (Nat.le_succ _))⟩
theorem e_bytes {b : List UInt8} {k : Nat} {pos : Pos} {Q : PV → St → Prop} (h : Q (.bytes b.toArray) σ) : AE C lv env (.Constant (.bytes b) k pos) σ Q X :=
  ⟨fun A f s hA R => by
    show wpAny C.M A (mkTextBytes b.toArray) _ _ s
    unfold mkTextBytes
    exact wpAny_bind (wpAny_fresh (wpAny_pure (Post.here R h (.bytes _ _) (Nat.le_succ _))))⟩

theorem e_name {x : Str} {pos : Pos} {v : PV} {Q : PV → St → Prop} (he : EnvOk env) (hx : env.kindOf x = some .local ∨ env.kindOf x = some .cell ∨ env.kindOf x = some .free) (hv : σ.loc x = some v) (h : Q v σ)
    (hd : (x == ("__debug__" : Str)) = false := by decide +kernel) (hc : (x == ("__classdict__" : Str)) = false := by decide +kernel) : AE C lv env (.Name x pos) σ Q X := by
  refine ⟨fun A f s hA R => ?_⟩
  refine wpAny_Name ?_ hd
  rcases hx with hx | hx | hx
  · obtain ⟨m, hn, hm⟩ := R.ns
    have := hm x hx
    rw [hv] at this
    cases hmx : m x with
    | none => rw [hmx] at this; exact this.elim
    | some w => rw [hmx] at this; exact wpAny_loadName_local he.kind hx hn hmx (Post.now R h this)
  · obtain ⟨c, w, h1, h2, h3⟩ := R.cs x (.inl hx)
    rw [hv] at h3
    cases w with
    | none => exact h3.elim
    | some w => exact wpAny_loadName_cell he.kind hx h1 h2 (Post.now R h h3)
  · obtain ⟨c, w, h1, h2, h3⟩ := R.cs x (.inr hx)
    rw [hv] at h3
    cases w with
    | none => exact h3.elim
    | some w => exact wpAny_loadName_free he.kind hx h1 h2 (Post.now R h h3) hc

theorem e_global {x : Str} {pos : Pos} {v : Value} {Q : PV → St → Prop} (he : EnvOk env) (hx : env.kindOf x = some .globalImplicit) (hv : nsIn C.K mainGlobals x = some (some v)) (h : Q (.obj v) σ)
    (hd : (x == ("__debug__" : Str)) = false := by decide +kernel) : AE C lv env (.Name x pos) σ Q X := by
  refine ⟨fun A f s hA R => ?_⟩
  have hg : s.heap.Ns env.globals C.mg := by rw [he.glob]; exact C.g.keeps R.base
  exact Calls.Name_function_global he.kind hx (Calls.loadGlobal_global hg (mg_of C.hK C.g hv) (Post.now R h (.obj v))) hd
theorem e_builtin {x : Str} {pos : Pos} {v : Value} {Q : PV → St → Prop} (he : EnvOk env) (hx : env.kindOf x = some .globalImplicit) (hv : nsIn C.K mainGlobals x = some none) (hb : bootBuiltins x = some v) (hn : x ≠ "__name__") (h : Q (.obj v) σ)
    (hd : (x == ("__debug__" : Str)) = false := by decide +kernel) : AE C lv env (.Name x pos) σ Q X := by
  refine ⟨fun A f s hA R => ?_⟩
  have hg : s.heap.Ns env.globals C.mg := by rw [he.glob]; exact C.g.keeps R.base
  have hb' : s.heap.Ns env.builtins C.mb := by rw [he.bi]; exact C.b.keeps R.base
  exact Calls.Name_function_global he.kind hx (Calls.loadGlobal_builtin hg (mg_none_of C.hK C.g hv) hb' ((C.builtins x hn).trans hb) (Post.now R h (.obj v))) hd

theorem e_bin {l r : Expr} {op : Operator} {pos : Pos} {Q : PV → St → Prop} (h : AE C lv env l σ (fun a σ₁ => AE C lv env r σ₁ (fun b σ₂ => Op2 C lv env Rep (binaryOp op) a b σ₂ Q X) X) X) : AE C lv env (.BinOp l op r pos) σ Q X :=
  ⟨fun A f s hA R => wpAny_BinOp (h.use hA R (fun va a σ₁ f₁ s₁ h₁ ra R₁ E₁ => h₁.use hA R₁ (fun vb b σ₂ f₂ s₂ h₂ rb R₂ E₂ =>
    wpAny_mono (h₂.run A f₂ s₂ va vb hA R₂ (ra.ext R₁ E₂) rb) (fun _ _ x => Post.trans (E₁.trans E₂) x) fun _ _ x => PostX.trans (E₁.trans E₂) x) fun _ _ x => PostX.trans E₁ x) fun _ _ x => x)⟩

theorem e_cmp {l r : Expr} {op : CmpOp} {pos : Pos} {Q : PV → St → Prop} (h : AE C lv env l σ (fun a σ₁ => AE C lv env r σ₁ (fun b σ₂ => Op2 C lv env Rep (compareOp op) a b σ₂ Q X) X) X) (hm : behindInMarks op r = false := by rfl) : AE C lv env (.Compare l [op] [r] pos) σ Q X :=
  ⟨fun A f s hA R => wpAny_Compare1 (h.use hA R (fun va a σ₁ f₁ s₁ h₁ ra R₁ E₁ => h₁.use hA R₁ (fun vb b σ₂ f₂ s₂ h₂ rb R₂ E₂ =>
    wpAny_mono (h₂.run A f₂ s₂ va vb hA R₂ (ra.ext R₁ E₂) rb) (fun _ _ x => Post.trans (E₁.trans E₂) x) fun _ _ x => PostX.trans (E₁.trans E₂) x) fun _ _ x => PostX.trans E₁ x) fun _ _ x => x) hm⟩

theorem e_if {t b o : Expr} {pos : Pos} {Q : PV → St → Prop} (h : AT C lv env t σ (fun c σ₁ => (c = true → AE C lv env b σ₁ Q X) ∧ (c = false → AE C lv env o σ₁ Q X)) X) : AE C lv env (.IfExp t b o pos) σ Q X :=
  ⟨fun A f s hA R => IfExp_ (h.use hA R (fun c c' σ₁ f₁ s₁ h₁ hc R₁ E₁ => by
    cases hc
    cases c
    · exact (h₁.2 rfl).use hA R₁ (fun a b σ₂ f₂ s₂ q r R₂ E₂ => ⟨b, σ₂, f₂, q, r, R₂, E₁.trans E₂⟩) fun _ _ x => PostX.trans E₁ x
    · exact (h₁.1 rfl).use hA R₁ (fun a b σ₂ f₂ s₂ q r R₂ E₂ => ⟨b, σ₂, f₂, q, r, R₂, E₁.trans E₂⟩) fun _ _ x => PostX.trans E₁ x) fun _ _ x => x)⟩

theorem t_val {e : Expr} {Q : Bool → St → Prop} (h : AE C lv env e σ (fun a σ₁ => Op1 C lv env repB truthy a σ₁ Q X) X) (he : isTrue e env (eval e env) = (do let v ← eval e env; standAt e.pos; holding [v] (truthy v)) := by rfl) : AT C lv env e σ Q X :=
  ⟨fun A f s hA R => isTrue_plain (h.use hA R (fun va a σ₁ f₁ s₁ h₁ ra R₁ E₁ => wpAny_mono (h₁.run A f₁ s₁ va hA R₁ ra) (fun _ _ x => Post.trans E₁ x) fun _ _ x => PostX.trans E₁ x) fun _ _ x => x) he⟩
theorem t_cmp {l r : Expr} {op : CmpOp} {pos : Pos} {Q : Bool → St → Prop} (h : AE C lv env l σ (fun a σ₁ => AE C lv env r σ₁ (fun b σ₂ => Op2 C lv env Rep (compareOp op) a b σ₂ (fun c σ₃ => Op1 C lv env repB truthy c σ₃ Q X) X) X) X) (hm : behindInMarks op r = false := by rfl) :
    AT C lv env (.Compare l [op] [r] pos) σ Q X :=
  ⟨fun A f s hA R => wpAny_isTrue_Compare1 (h.use hA R (fun va a σ₁ f₁ s₁ h₁ ra R₁ E₁ => h₁.use hA R₁ (fun vb b σ₂ f₂ s₂ h₂ rb R₂ E₂ =>
    wpAny_mono (h₂.run A f₂ s₂ va vb hA R₂ (ra.ext R₁ E₂) rb) (fun c s₃ ⟨pc, σ₃, f₃, h₃, rc, R₃, E₃⟩ => wpAny_mono (h₃.run A f₃ s₃ c hA R₃ rc) (fun _ _ x => Post.trans ((E₁.trans E₂).trans E₃) x) fun _ _ x => PostX.trans ((E₁.trans E₂).trans E₃) x)
      fun _ _ x => PostX.trans (E₁.trans E₂) x) fun _ _ x => PostX.trans E₁ x) fun _ _ x => x) hm⟩
theorem t_not {x : Expr} {pos : Pos} {Q : Bool → St → Prop} (h : AT C lv env x σ (fun b σ' => Q (!b) σ') X) : AT C lv env (.UnaryOp .Not x pos) σ Q X :=
  ⟨fun A f s hA R => isTrue_not (wpAny_mono (h.run A f s hA R) (fun c s' ⟨b, σ', f', q, e, R', E'⟩ => by cases e; exact ⟨_, σ', f', q, rfl, R', E'⟩) fun _ _ x => x)⟩
theorem t_and_nil {pos : Pos} {Q : Bool → St → Prop} {w : Sem Value} (h : Q true σ) : AW C lv env repB (isTrue (.BoolOp .And [] pos) env w) σ Q X :=
  ⟨fun A f s hA R => isTrue_and_nil (Post.now R h rfl)⟩
theorem t_or_nil {pos : Pos} {Q : Bool → St → Prop} {w : Sem Value} (h : Q false σ) : AW C lv env repB (isTrue (.BoolOp .Or [] pos) env w) σ Q X :=
  ⟨fun A f s hA R => isTrue_or_nil (Post.now R h rfl)⟩
theorem t_and {x : Expr} {rest : List Expr} {pos : Pos} {Q : Bool → St → Prop} {w : Sem Value} (h : AT C lv env x σ (fun c σ₁ => (c = true → AW C lv env repB (isTrue (.BoolOp .And rest pos) env w) σ₁ Q X) ∧ (c = false → Q false σ₁)) X) :
    AW C lv env repB (isTrue (.BoolOp .And (x :: rest) pos) env w) σ Q X :=
  ⟨fun A f s hA R => isTrue_and (h.use hA R (fun c c' σ₁ f₁ s₁ h₁ hc R₁ E₁ => by
    cases hc
    cases c
    · exact ⟨false, σ₁, f₁, h₁.2 rfl, rfl, R₁, E₁⟩
    · exact (h₁.1 rfl).use hA R₁ (fun a b σ₂ f₂ s₂ q r R₂ E₂ => ⟨b, σ₂, f₂, q, r, R₂, E₁.trans E₂⟩) fun _ _ x => PostX.trans E₁ x) fun _ _ x => x)⟩
theorem t_or {x : Expr} {rest : List Expr} {pos : Pos} {Q : Bool → St → Prop} {w : Sem Value} (h : AT C lv env x σ (fun c σ₁ => (c = true → Q true σ₁) ∧ (c = false → AW C lv env repB (isTrue (.BoolOp .Or rest pos) env w) σ₁ Q X)) X) :
    AW C lv env repB (isTrue (.BoolOp .Or (x :: rest) pos) env w) σ Q X :=
  ⟨fun A f s hA R => isTrue_or (h.use hA R (fun c c' σ₁ f₁ s₁ h₁ hc R₁ E₁ => by
    cases hc
    cases c
    · exact (h₁.2 rfl).use hA R₁ (fun a b σ₂ f₂ s₂ q r R₂ E₂ => ⟨b, σ₂, f₂, q, r, R₂, E₁.trans E₂⟩) fun _ _ x => PostX.trans E₁ x
    · exact ⟨true, σ₁, f₁, h₁.1 rfl, rfl, R₁, E₁⟩) fun _ _ x => x)⟩

theorem e_bool_one {op : BoolOp} {e : Expr} {pos : Pos} {Q : PV → St → Prop} (h : AE C lv env e σ Q X) : AE C lv env (.BoolOp op [e] pos) σ Q X :=
  ⟨fun A f s hA R => BoolOp_one (h.run A f s hA R)⟩
theorem e_and {e₁ e₂ : Expr} {rest : List Expr} {pos : Pos} {Q : PV → St → Prop}
    (h : AE C lv env e₁ σ (fun a σ₁ => Op1 C lv env repB truthy a σ₁ (fun c σ₂ => (c = true → AE C lv env (.BoolOp .And (e₂ :: rest) pos) σ₂ Q X) ∧ (c = false → Q a σ₂)) X) X) : AE C lv env (.BoolOp .And (e₁ :: e₂ :: rest) pos) σ Q X :=
  ⟨fun A f s hA R => BoolOp_and (h.use hA R (fun va a σ₁ f₁ s₁ h₁ ra R₁ E₁ => wpAny_mono (h₁.run A f₁ s₁ va hA R₁ ra) (fun c s₂ ⟨c', σ₂, f₂, h₂, hc, R₂, E₂⟩ => by
    cases hc
    cases c
    · exact ⟨a, σ₂, f₂, h₂.2 rfl, ra.ext R₁ E₂, R₂, E₁.trans E₂⟩
    · exact (h₂.1 rfl).use hA R₂ (fun a b σ₃ f₃ s₃ q r R₃ E₃ => ⟨b, σ₃, f₃, q, r, R₃, (E₁.trans E₂).trans E₃⟩) fun _ _ x => PostX.trans (E₁.trans E₂) x) fun _ _ x => PostX.trans E₁ x) fun _ _ x => x)⟩
theorem al_nil {pos : Pos} {Q : List PV → St → Prop} (h : Q [] σ) : AL C lv env [] pos σ Q X := ⟨fun A f s hA R => wpAny_items_nil (Post.now R h .nil)⟩
theorem al_cons {e : Expr} {rest : List Expr} {pos : Pos} {Q : List PV → St → Prop} (h : AE C lv env e σ (fun a σ₁ => AL C lv env rest pos σ₁ (fun ps σ₂ => Q (a :: ps) σ₂) X) X)
    (he : starEach (e :: rest) env = (false, eval e env) :: starEach rest env := by rfl) : AL C lv env (e :: rest) pos σ Q X :=
  ⟨fun A f s hA R => wpAny_items_cons (h.use hA R (fun va a σ₁ f₁ s₁ h₁ ra R₁ E₁ => h₁.use hA R₁ (fun vs ps σ₂ f₂ s₂ h₂ rs R₂ E₂ => ⟨_, σ₂, f₂, h₂, .cons (ra.ext R₁ E₂) rs, R₂, E₁.trans E₂⟩) fun _ _ x => PostX.trans E₁ x) fun _ _ x => x) he⟩
theorem ak_nil {pos : Pos} {Q : List PV → St → Prop} (h : Q [] σ) : AK C lv env [] pos σ Q X := ⟨fun A f s hA R => kwAll_nil (Post.now R h .nil)⟩
theorem ak_cons {name : Str} {value : Expr} {p : Pos} {rest : List Keyword} {pos : Pos} {Q : List PV → St → Prop} (h : AE C lv env value σ (fun a σ₁ => AK C lv env rest pos σ₁ (fun ps σ₂ => Q (a :: ps) σ₂) X) X) : AK C lv env (⟨some name, value, p⟩ :: rest) pos σ Q X :=
  ⟨fun A f s hA R => kwAll_cons (h.use hA R (fun va a σ₁ f₁ s₁ h₁ ra R₁ E₁ => h₁.use hA R₁ (fun vs ps σ₂ f₂ s₂ h₂ rs R₂ E₂ => ⟨_, σ₂, f₂, h₂, .cons (ra.ext R₁ E₂) rs, R₂, E₁.trans E₂⟩) fun _ _ x => PostX.trans E₁ x) fun _ _ x => x)⟩

theorem repK_zip {f : Nat → Addr} {n : Nat} {h : Heap} : ∀ {ns : List Str} {vs : List Value} {ps : List PV}, RepL f n h vs ps → RepK f n h (ns.zip vs) (ns.zip ps)
  | [], _, _, _ => by simp only [List.zip_nil_left]; exact .nil
  | _ :: _, _, _, .nil => by simp only [List.zip_nil_right]; exact .nil
  | _ :: _, _, _, .cons a r => .cons a (repK_zip r)

def kwNames : List Keyword → List Str := fun ks => ks.filterMap (·.arg)
theorem kwNames_eq (pos : Pos) (env : Env) : ∀ kws : List Keyword, (backToKw pos (keywordEach kws env)).filterMap (·.1) = kwNames kws
  | [] => rfl
  | ⟨none, v, p⟩ :: r => by
    show ((backToKw pos (keywordEach r env)).filterMap (·.1)) = _
    rw [kwNames_eq pos env r]; rfl
  | ⟨some n, v, p⟩ :: r => by
    show n :: ((backToKw pos (keywordEach r env)).filterMap (·.1)) = _
    rw [kwNames_eq pos env r]; rfl

theorem evalArgs_any {M : Model} {A : Around} {E : Value → Shared → Prop} {s : Shared} {f : Value} {args : List (Bool × Sem Value)} {keywords : List (Option Str × Sem Value)} {Q : Args → Shared → Prop} (hp : args.any (·.1) = false) (hall : keywords.all (·.1.isSome) = true)
    (h : wpAny M A (spliced args) (fun vs s₁ => wpAny M A (evalAll (keywords.map (·.2))) (fun ks s₂ => Q ⟨vs, (keywords.filterMap (·.1)).zip ks⟩ s₂) E s₁) E s) : wpAny M A (evalArgs f true args keywords) Q E s := by
  have key : wpAny M A (spliced args >>= fun pos => (pure (pos, (none : Option Value)) : Sem (List Value × Option Value)) >>= fun x => holding (x.1 ++ x.2.toList) do
      let readLate (keep : List Value) : Sem (List Value) := do
        let some s := x.2 | return x.1
        if ← notIterableAtAll s then
          rule "call.star.not-iterable"
          raiseError "TypeError" s!"{← functionStr f} argument after * must be an iterable, not {← typeNameOf s}"
        holding keep (collect s)
      if keywords.all (·.1.isSome) then
        let kw := (keywords.filterMap (·.1)).zip (← evalAll (keywords.map (·.2)))
        return ⟨← readLate (kw.map (·.2)), kw⟩
      let d ← mergedKeywords f keywords
      let pos ← readLate [.ref d]
      return ⟨pos, ← holding (.ref d :: pos) (keywordsIn f d)⟩) Q E s := by
    refine wpAny_bind (wpAny_mono h (fun vs s₁ h₁ => ?_) fun _ _ x => x)
    refine wpAny_bind (wpAny_pure (wpAny_holding ?_))
    dsimp only
    rw [if_pos hall]
    exact wpAny_bind (wpAny_mono h₁ (fun ks s₂ h₂ => wpAny_bind (wpAny_pure (wpAny_pure h₂))) fun _ _ x => x)
  cases args with
  | nil => exact key
  | cons a rest =>
    obtain ⟨b, x⟩ := a
    cases b with
    | true => simp at hp
    | false => exact key

theorem c_with {pos : Pos} {fv : Value} {first : List PV} {fvs : List Value} {args : List Expr} {kws : List Keyword} {Q : PV → St → Prop} {A : Around} {f : Nat → Addr} {s : Shared} (hA : OkA lv A) (R : Rel C lv.fs env f σ s) (hK : KeepV C fv) (hf : RepL f σ.n s.heap fvs first)
    (h : AL C lv env args pos σ (fun ps σ₁ => AK C lv env kws pos σ₁ (fun ks σ₂ => ACall C lv env fv (first ++ ps) ((kwNames kws).zip ks) σ₂ Q X) X) X)
    (hall : (backToKw pos (keywordEach kws env)).all (·.1.isSome) = true)
    (hplain : ((backTo pos (starEach args env)).any (·.1) || (backToKw pos (keywordEach kws env)).any (·.1.isNone)) = false) :
    wpAny C.M A (callWith pos fv fvs (backTo pos (starEach args env)) (backToKw pos (keywordEach kws env))) (Post C lv.fs env Rep Q f σ s) (PostX C lv.fs env X f σ s) s := by
  refine callWith_of (P := C.K.In) hplain hK ?_
  have go : wpAny C.M A (spliced (backTo pos (starEach args env))) (fun vs s₁ => wpAny C.M A (evalAll ((backToKw pos (keywordEach kws env)).map (·.2)))
      (fun ks s₂ => (fun (a : Args) (s₁ : Shared) => C.K.In s₁.heap ∧ wpAny C.M A (call fv (fvs ++ a.pos) a.kw) (Post C lv.fs env Rep Q f σ s) (PostX C lv.fs env X f σ s) s₁) ⟨vs, ((backToKw pos (keywordEach kws env)).filterMap (·.1)).zip ks⟩ s₂) (PostX C lv.fs env X f σ s) s₁) (PostX C lv.fs env X f σ s) s := by
    refine h.use hA R (fun vs ps σ₁ f₁ s₁ h₁ rs R₁ E₁ => ?_) fun _ _ x => x
    refine h₁.use hA R₁ (fun kvs ks σ₂ f₂ s₂ h₂ rk R₂ E₂ => ?_) fun _ _ x => PostX.trans E₁ x
    refine ⟨R₂.K, wpAny_mono (h₂.run A f₂ s₂ _ _ hA R₂ (RepL.append ((hf.ext R E₁).ext R₁ E₂) (rs.ext R₁ E₂)) ?_) (fun _ _ x => Post.trans (E₁.trans E₂) x) fun _ _ x => PostX.trans (E₁.trans E₂) x⟩
    rw [kwNames_eq]; exact repK_zip rk
  exact evalArgs_any (by rw [Bool.or_eq_false_iff] at hplain; exact hplain.1) hall go
end
end Mine

namespace Mine

section
variable {C : Cx} {lv : Lv} {env : Env} {σ : St} {X : String → List PV → St → Prop}

theorem e_call {func : Expr} {args : List Expr} {kws : List Keyword} {pos : Pos} {Q : PV → St → Prop}
    (h : AE C lv env func σ (fun pf σ₁ => ∃ fv, pf = .obj fv ∧ KeepV C fv ∧ AL C lv env args pos σ₁ (fun ps σ₂ => AK C lv env kws pos σ₂ (fun ks σ₃ => ACall C lv env fv ps ((kwNames kws).zip ks) σ₃ Q X) X) X) X)
    (hall : (backToKw pos (keywordEach kws env)).all (·.1.isSome) = true := by rfl)
    (hplain : ((backTo pos (starEach args env)).any (·.1) || (backToKw pos (keywordEach kws env)).any (·.1.isNone)) = false := by rfl)
    (he : eval (.Call func args kws pos) env = (do callWith pos (← eval func env) [] (backTo pos (starEach args env)) (backToKw pos (keywordEach kws env))) := by rfl) :
    AE C lv env (.Call func args kws pos) σ Q X := by
  refine ⟨fun A f s hA R => ?_⟩
  rw [he]
  refine wpAny_bind (h.use hA R (fun va a σ₁ f₁ s₁ h₁ ra R₁ E₁ => ?_) fun _ _ x => x)
  obtain ⟨fv, rfl, hK, h₂⟩ := h₁
  cases ra
  exact wpAny_mono (c_with (first := []) hA R₁ hK .nil h₂ hall hplain) (fun _ _ x => Post.trans E₁ x) fun _ _ x => PostX.trans E₁ x

theorem e_mcall {o : Expr} {name : Str} {args : List Expr} {kws : List Keyword} {apos pos : Pos} {pl : Sem Bool} {Q : PV → St → Prop}
    (h : AE C lv env o σ (fun po σ₁ => ∃ fv, Meth C lv env po name fv σ₁ ∧ KeepV C fv ∧ AL C lv env args pos σ₁ (fun ps σ₂ => AK C lv env kws pos σ₂ (fun ks σ₃ => ACall C lv env fv (po :: ps) ((kwNames kws).zip ks) σ₃ Q X) X) X) X)
    (hall : (backToKw pos (keywordEach kws env)).all (·.1.isSome) = true := by rfl)
    (hplain : ((backTo pos (starEach args env)).any (·.1) || (backToKw pos (keywordEach kws env)).any (·.1.isNone)) = false := by rfl)
    (he : eval (.Call (.Attribute o name apos) args kws pos) env = (do
      let ov ← eval o env
      standAt apos.atName
      let (f, first) ← holding [ov] (getMethod ov name pl)
      callWith pos f first (backTo pos (starEach args env)) (backToKw pos (keywordEach kws env))) := by rfl) :
    AE C lv env (.Call (.Attribute o name apos) args kws pos) σ Q X := by
  refine ⟨fun A f s hA R => ?_⟩
  refine methodCall_KW (pl := pl) (h.use hA R (fun va a σ₁ f₁ s₁ h₁ ra R₁ E₁ => ?_) fun _ _ x => x) he
  obtain ⟨fv, hM, hK, h₂⟩ := h₁
  refine hM A f₁ s₁ va pl _ _ hA R₁ ra fun k hk => ?_
  have R₁' := R₁.toks hk
  exact wpAny_mono (c_with (first := [a]) (fvs := [va]) hA R₁' hK (.cons ra .nil) h₂ hall hplain) (fun _ _ x => Post.trans (E₁.trans (.toks k)) x) fun _ _ x => PostX.trans (E₁.trans (.toks k)) x

theorem ss_nil {Q : PFlow → St → Prop} (h : Q .next σ) : ASs C lv env [] σ Q X := ⟨fun A f s hA R => wpAny_execs_nil (Post.now R h .next)⟩
theorem ss_cons {st : Stmt} {rest : List Stmt} {Q : PFlow → St → Prop} (h : AS C lv env st σ (fun fl σ₁ => (fl = .next → ASs C lv env rest σ₁ Q X) ∧ (fl ≠ .next → Q fl σ₁)) X) : ASs C lv env (st :: rest) σ Q X :=
  ⟨fun A f s hA R => wpAny_execs_cons (h.use hA R (fun fl pfl σ₁ f₁ s₁ h₁ hr R₁ E₁ => by
    cases hr with
    | next => exact wpAny_mono ((h₁.1 rfl).run A f₁ s₁ hA R₁) (fun _ _ x => Post.trans E₁ x) fun _ _ x => PostX.trans E₁ x
    | brk => exact ⟨_, σ₁, f₁, h₁.2 (by intro q; cases q), .brk, R₁, E₁⟩
    | cont => exact ⟨_, σ₁, f₁, h₁.2 (by intro q; cases q), .cont, R₁, E₁⟩
    | ret hv => exact ⟨_, σ₁, f₁, h₁.2 (by intro q; cases q), .ret hv, R₁, E₁⟩) fun _ _ x => x)⟩

theorem s_assign {x : Str} {p₁ : Pos} {value : Expr} {pos : Pos} {Q : PFlow → St → Prop} (he : EnvOk env) (hx : env.kindOf x = some .local ∨ env.kindOf x = some .cell) (h : AE C lv env value σ (fun v σ₁ => Q .next (σ₁.set x v)) X)
    (hs : swapsWith value (some (.Name x p₁)) pos.line env = pure false := by rfl) : AS C lv env (.Assign [.Name x p₁] value pos) σ Q X :=
  ⟨fun A f s hA R => wpAny_Assign_Name (h.use hA R (fun va a σ₁ f₁ s₁ h₁ ra R₁ E₁ => R₁.store he.kind ra hx fun s₂ R₂ E₂ => ⟨.next, _, f₁, h₁, .next, R₂, E₁.trans E₂⟩) fun _ _ x => x) hs⟩

theorem s_return {e : Expr} {pos : Pos} {Q : PFlow → St → Prop} (h : AE C lv env e σ (fun v σ₁ => Q (.ret v) σ₁) X) : AS C lv env (.Return (some e) pos) σ Q X :=
  ⟨fun A f s hA R => wpAny_Return_some (h.use hA R (fun va a σ₁ f₁ s₁ h₁ ra R₁ E₁ => ⟨_, σ₁, f₁, h₁, .ret ra, R₁, E₁⟩) fun _ _ x => x)⟩
theorem s_if {test : Expr} {body orelse : List Stmt} {pos : Pos} {Q : PFlow → St → Prop} (h : AT C lv env test σ (fun c σ₁ => (c = true → ASs C lv env body σ₁ Q X) ∧ (c = false → ASs C lv env orelse σ₁ Q X)) X) : AS C lv env (.If test body orelse pos) σ Q X :=
  ⟨fun A f s hA R => wpAny_If (h.use hA R (fun c c' σ₁ f₁ s₁ h₁ hc R₁ E₁ => by
    cases hc
    cases c
    · exact wpAny_mono ((h₁.2 rfl).run A f₁ s₁ hA R₁) (fun _ _ x => Post.trans E₁ x) fun _ _ x => PostX.trans E₁ x
    · exact wpAny_mono ((h₁.1 rfl).run A f₁ s₁ hA R₁) (fun _ _ x => Post.trans E₁ x) fun _ _ x => PostX.trans E₁ x) fun _ _ x => x)⟩

end
end Mine

namespace Mine

def locOf : List (Str × PV) → (Str → Option PV) → Str → Option PV
  | [], m => m
  | (k, v) :: r, m => locOf r (fun y => if y = k then some v else m y)

theorem bindL_rep {f : Nat → Addr} {n : Nat} {h : Heap} {kindOf : Str → Option NameKind} {bs : List (Str × Value)} {ps : List (Str × PV)} (x : RepK f n h bs ps) :
    ∀ {m : Str → Option Value} {p : Str → Option PV}, (∀ y, kindOf y = some .local → RepO f n h (m y) (p y)) → ∀ y, kindOf y = some .local → RepO f n h (bindL kindOf bs m y) (locOf ps p y) := by
  induction x with
  | nil => intro m p hm y hy; exact hm y hy
  | @cons k v vs q qs hv _ ih =>
    intro m p hm y hy
    unfold bindL locOf
    refine ih (fun z hz => ?_) y hy
    by_cases hk : kindOf k = some .local
    · rw [if_pos hk]
      by_cases hzk : z = k
      · simp only [hzk, if_true]; exact hv
      · simp only [hzk, if_false]; exact hm z hz
    · rw [if_neg hk]
      have hzk : z ≠ k := fun e => hk (e ▸ hz)
      simp only [hzk, if_false]; exact hm z hz
theorem bindC_rep {f : Nat → Addr} {n : Nat} {h : Heap} {kindOf : Str → Option NameKind} {bs : List (Str × Value)} {ps : List (Str × PV)} (x : RepK f n h bs ps) :
    ∀ {m : Str → Option Value} {p : Str → Option PV}, (∀ y, kindOf y ≠ some .local → RepO f n h (m y) (p y)) → ∀ y, kindOf y ≠ some .local → RepO f n h (bindC kindOf bs m y) (locOf ps p y) := by
  induction x with
  | nil => intro m p hm y hy; exact hm y hy
  | @cons k v vs q qs hv _ ih =>
    intro m p hm y hy
    unfold bindC locOf
    refine ih (fun z hz => ?_) y hy
    by_cases hk : kindOf k = some .local
    · rw [if_pos hk]
      have hzk : z ≠ k := fun e => hz (e ▸ hk)
      simp only [hzk, if_false]; exact hm z hz
    · rw [if_neg hk]
      by_cases hzk : z = k
      · simp only [hzk, if_true]; exact hv
      · simp only [hzk, if_false]; exact hm z hz

section
variable {C : Cx} {lv : Lv} {env env' : Env} {fs : List Env} {σ σ₁ σ' : St} {f f' : Nat → Addr} {s s₁ s' : Shared}

theorem Frs.cons {h base : Heap} {env : Env} {outer : List Env} {L : Addr} {m : Str → Option Value} (hk : env.scope.kind ≠ .module) (hf : env.frame = some L) (hn : h.Ns L m) (hnew : base.get? L = none) (hr : Frs h base outer) : Frs h base (env :: outer) :=
  let ⟨o, _, _, ho, hd, _⟩ := hn
  ⟨hk, ⟨L, o, hf, hnew, ho, by rw [hd]; rfl⟩, hr⟩
structure Under (env env' : Env) (s s₁ : Shared) : Prop where
  keeps : ∀ b o, s.heap.get? b = some o → s₁.heap.get? b = some o
  size : s.heap.objs.size ≤ s₁.heap.objs.size
  newL : s.heap.objs.size ≤ env'.locals
  newC : ∀ x c, env'.cells.lookup x = some c → s.heap.objs.size ≤ c

theorem Rel.out' (R : Rel C fs env f σ s) (U : Under env env' s s₁) {b : Addr} {o : Obj} (hb : s.heap.get? b = some o) (hs : ∀ i, 0 < i → i < σ.n → b ≠ f i) : Out env' f σ.n b where
  o := hs
  l := Nat.ne_of_lt (Nat.lt_of_lt_of_le (Heap.lt_size hb) U.newL)
  c x c hc := Nat.ne_of_lt (Nat.lt_of_lt_of_le (Heap.lt_size hb) (U.newC x c hc))

theorem Rel.back (R : Rel C fs env f σ s) (U : Under env env' s s₁) (hn : σ₁.n = σ.n) (R' : Rel C (env' :: fs) env' f' σ' s') (E : Ext env' f σ₁ s₁ f' σ' s') (hp : Nat → Option AO) (hsub : ∀ i o, hp i = some o → σ'.hp i = some o) :
    Rel C fs env f' ⟨σ'.n, hp, σ.loc⟩ s' ∧ Ext env f σ s f' ⟨σ'.n, hp, σ.loc⟩ s' := by
  have hle : σ.n ≤ σ'.n := hn ▸ E.le
  have hag : ∀ i, i < σ.n → f' i = f i := fun i hi => E.agree i (hn ▸ hi)
  have hkp : ∀ b o, s.heap.get? b = some o → (∀ i, 0 < i → i < σ.n → b ≠ f i) → ∃ o', s'.heap.get? b = some o' ∧ Kept o o' := fun b o e h => E.keep b o (U.keeps b o e) (by rw [hn]; exact R.out' U e h)
  have hnew : ∀ i, σ.n ≤ i → i < σ'.n → s.heap.objs.size ≤ f' i := fun i h1 h2 => Nat.le_trans U.size (E.new i (hn ▸ h1) h2)
  have ht : ∀ a vs, s.heap.IsTuple a vs → s'.heap.IsTuple a vs := fun a vs x => by
    have := R.tupOut x
    obtain ⟨o, ho, hc, k, hd⟩ := x
    obtain ⟨o', e, q⟩ := hkp a o ho this.o
    exact ⟨_, e, q.cls.trans hc, k, q.data.trans hd⟩
  refine ⟨⟨R'.base, R'.inj, R'.kind, R'.fresh, fun i o e => R'.objs i o (hsub i o e), ?_, ?_, ?_, R.cinj, R.newL, R.newC, ?_, ?_, R'.frs.tail, R'.os, R'.gens, R'.tok⟩, ⟨hle, hag, hnew, fun b o e h => hkp b o e h.o, ?_, Nat.le_trans U.size E.size⟩⟩
  · obtain ⟨m, ⟨o, es, ep, ho, hd, hr⟩, hm⟩ := R.ns
    obtain ⟨o', e, q⟩ := hkp _ o ho (fun i _ hi => (R.sepL i hi).symm)
    exact ⟨m, ⟨_, es, ep, e, q.data.trans hd, hr⟩, fun x hx => RepO.mono hag hle ht (hm x hx)⟩
  · intro x hx
    obtain ⟨c, v, h1, ⟨o, ho, hd⟩, h3⟩ := R.cs x hx
    obtain ⟨o', e, q⟩ := hkp _ o ho (fun i _ hi => (R.sepC i hi x c h1).symm)
    exact ⟨c, v, h1, ⟨_, e, q.data.trans hd⟩, RepO.mono hag hle ht h3⟩
  · intro x c hc
    obtain ⟨v, o, ho, hd⟩ := R.call x c hc
    obtain ⟨o', e, q⟩ := hkp _ o ho (fun i _ hi => (R.sepC i hi x c hc).symm)
    exact ⟨v, _, e, q.data.trans hd⟩
  · intro i hi
    rcases Nat.lt_or_ge i σ.n with h | h
    · rw [hag i h]; exact R.sepL i h
    · obtain ⟨m, ⟨o, _, _, ho, _⟩, _⟩ := R.ns
      exact Nat.ne_of_gt (Nat.lt_of_lt_of_le (Heap.lt_size ho) (hnew i h hi))
  · intro i hi x c hc
    rcases Nat.lt_or_ge i σ.n with h | h
    · rw [hag i h]; exact R.sepC i h x c hc
    · obtain ⟨v, o, ho, _⟩ := R.call x c hc
      exact Nat.ne_of_gt (Nat.lt_of_lt_of_le (Heap.lt_size ho) (hnew i h hi))
  · exact (Dk.keeps U.keeps).trans E.grow

abbrev NoX : String → List PV → St → Prop := fun _ _ _ => False

structure FnAt (C : Cx) (a : Addr) (fd : FuncData) (body : List Stmt) : Prop where
  at_ : ∃ oc od osl, C.K.lookup a = some ⟨oc, od, .func fd, osl⟩
  code : codeIn C.K fd.code fd.qualname = true
  clo : fd.closure = []
  glob : fd.globals = mainGlobals
  bi : fd.builtins = builtinsNs
  body : fd.body = .stmts body
  co : fd.scope.isCoroutine = false
  gen : fd.scope.isGenerator = false
  kind : fd.scope.kind = .function
  cells : ∀ x, fd.scope.names.lookup x = some .cell ∨ fd.scope.names.lookup x = some .free → ∀ n, ((cellsFrom n fd.scope.names []).lookup x).isSome = true

def retOf : PFlow → PV
  | .ret v => v
  | _ => .none

def Binds (C : Cx) (lv : Lv) (env : Env) (σ : St) (fd : FuncData) (ps : List PV) (kw : List (Str × PV)) (bs : List (Str × PV)) : Prop :=
  ∀ f s vs ks, Rel C lv.fs env f σ s → RepL f σ.n s.heap vs ps → RepK f σ.n s.heap ks kw → ∃ binds, BindsTo s fd ⟨vs, ks⟩ binds ∧ RepK f σ.n s.heap binds bs

theorem RepK.names {f : Nat → Addr} {n : Nat} {h : Heap} {vs : List (Str × Value)} {ps : List (Str × PV)} (x : RepK f n h vs ps) : ∀ y ∈ vs, ∃ q, (y.1, q) ∈ ps := by
  induction x with
  | nil => intro y hy; cases hy
  | cons a r ih =>
    intro y hy
    rcases List.mem_cons.mp hy with rfl | hy
    · exact ⟨_, List.mem_cons_self ..⟩
    · obtain ⟨q, hq⟩ := ih y hy
      exact ⟨q, List.mem_cons_of_mem _ hq⟩

structure CCall (C : Cx) (lv : Lv) (env : Env) (fv : Value) (ps : List PV) (kw : List (Str × PV)) (σ : St) (Q : PV → St → Prop) (X : String → List PV → St → Prop) : Prop where
  run : ∀ A f s vs ks, OkA lv A → Rel C lv.fs env f σ s → RepL f σ.n s.heap vs ps → RepK f σ.n s.heap ks kw → codeAny C.M A (.call fv ⟨vs, ks⟩) (fun r s' => match r with | .ok (.ret v) => Post C lv.fs env Rep Q f σ s v s' | .ok _ => False | .error e => PostX C lv.fs env X f σ s e s') s
theorem CCall.call {C : Cx} {lv : Lv} {env : Env} {fv : Value} {ps : List PV} {kw : List (Str × PV)} {σ : St} {Q : PV → St → Prop} {X : String → List PV → St → Prop} (h : CCall C lv env fv ps kw σ Q X) : ACall C lv env fv ps kw σ Q X :=
  ⟨fun A f s vs ks hA R hv hk => wpAny_call (h.run A f s vs ks hA R hv hk)⟩

def BindsA (C : Cx) (lv : Lv) (env : Env) (σ : St) (fd : FuncData) (ps : List PV) (kw : List (Str × PV)) (bs : List (Str × PV)) (σb : St) : Prop :=
  ∀ f s vs ks, Rel C lv.fs env f σ s → RepL f σ.n s.heap vs ps → RepK f σ.n s.heap ks kw → ∀ (A : Around) (Q : List (Str × Value) → Shared → Prop) (E : Value → Shared → Prop),
    (∀ binds s' f', Rel C lv.fs env f' σb s' → Ext env f σ s f' σb s' → RepK f' σb.n s'.heap binds bs → Q binds s') → wpAny C.M A (bindArgs fd ⟨vs, ks⟩) Q E s
theorem Binds.toA {fd : FuncData} {ps : List PV} {kw bs : List (Str × PV)} (h : Binds C lv env σ fd ps kw bs) : BindsA C lv env σ fd ps kw bs σ := fun f s vs ks R hv hk A Q E hq => by
  obtain ⟨binds, hb, hr⟩ := h f s vs ks R hv hk
  exact hb _ _ _ _ (hq binds s f R .refl hr)

theorem c_fnB {σb : St} {a : Addr} {fd : FuncData} {body : List Stmt} {ps : List PV} {kw bs : List (Str × PV)} {Q : PV → St → Prop} {X : String → List PV → St → Prop} (F : FnAt C a fd body) (hd : lv.d < 30)
    (hb : BindsA C lv env σ fd ps kw bs σb) (hloc : σb.loc = σ.loc) (hk : ∀ y ∈ bs, fd.scope.names.lookup y.1 = some .local ∨ fd.scope.names.lookup y.1 = some .cell)
    (h : ∀ env' : Env, env'.scope = fd.scope → EnvOk env' → env'.frame = some env'.locals → ASs C ⟨lv.d + 1, lv.hn, env' :: lv.fs⟩ env' body ⟨σb.n, σb.hp, locOf bs fun _ => none⟩
      (fun fl σ' => ∃ hp, (∀ i o, hp i = some o → σ'.hp i = some o) ∧ Q (retOf fl) ⟨σ'.n, hp, σ.loc⟩) (fun c as σ' => ∃ hp, (∀ i o, hp i = some o → σ'.hp i = some o) ∧ X c as ⟨σ'.n, hp, σ.loc⟩)) :
    CCall C lv env (.ref a) ps kw σ Q X := by
  refine ⟨fun A f₀ s₀ vs ks hA R₀ hvs hks => ?_⟩
  obtain ⟨oc, od, osl, hK⟩ := F.at_
  refine codeAny_call_function (by have := hA.depth; have := hA.small; show A.depth < 1000; omega) (R₀.K _ _ hK) rfl F.co F.gen F.body (codeRec_of R₀.K F.code) (hb f₀ s₀ vs ks R₀ hvs hks _ _ _ fun binds s f R Eb hbr => ?_)
  rw [F.clo, F.glob, F.bi]
  have hl : σb.loc = σ.loc := hloc
  refine wp_toks (wpAny_newFunctionEnv_cells F.kind (fun x hx => ?_) fun env' he s₁ hc htk => ?_)
  · obtain ⟨q, hq⟩ := hbr.names x hx
    rcases hk _ hq with h1 | h1
    · exact .inl h1
    · exact .inr ⟨h1, F.cells _ (.inl h1) _⟩
  have hL : env'.locals = s.heap.objs.size := by rw [he]; rfl
  have hcl : env'.cells = cellsFrom (s.heap.objs.size + 1) fd.scope.names [] := by rw [he]; rfl
  have hsc : env'.scope = fd.scope := by rw [he]; rfl
  have hfr : env'.frame = some env'.locals := by rw [he]; rfl
  have hok : EnvOk env' := ⟨by rw [hsc]; exact F.kind, by rw [he]; rfl, by rw [he]; rfl⟩
  obtain ⟨⟨⟨h₁, tk, hs₁⟩, hns, hkeep, hfresh⟩, hcell, hapart, habove⟩ := hc
  have hL' : s.heap.objs.size ≤ env'.locals := by rw [hL]; exact Nat.le_refl _
  have hcn : ∀ x c, env'.cells.lookup x = some c → s.heap.objs.size ≤ c := fun x c hx => Nat.le_trans hL' (Nat.le_of_lt (habove x c (mem_of_lookup hx)))
  have hnb : ∀ b, s.heap.objs.size ≤ b → C.base.get? b = none := fun b hb => by
    cases hq : C.base.get? b with
    | none => rfl
    | some o => exact absurd (Heap.lt_size (R.base b o hq)) (Nat.not_lt.mpr hb)
  have hfi : ∀ i, i < σb.n → f i < s.heap.objs.size := fun i hi => let ⟨_, e, _⟩ := R.kind i hi; Heap.lt_size e
  have hsz : s.heap.objs.size ≤ s₁.heap.objs.size := by
    obtain ⟨o, _, _, ho, _⟩ := hns
    exact Nat.le_of_lt (Nat.lt_of_le_of_lt hL' (Heap.lt_size ho))
  have U : Under env env' s s₁ := ⟨hkeep, hsz, hL', hcn⟩
  have ht : ∀ a vs, s.heap.IsTuple a vs → s₁.heap.IsTuple a vs := fun a vs ⟨o, ho, r⟩ => ⟨o, hkeep _ _ ho, r⟩
  have hbr₁ : RepK f σb.n s₁.heap binds bs := hbr.mono (fun _ _ => rfl) (Nat.le_refl _) ht
  have R₁ : Rel C (env' :: lv.fs) env' f ⟨σb.n, σb.hp, locOf bs fun _ => none⟩ s₁ := by
    refine ⟨fun b o e => hkeep _ _ (R.base b o e), R.inj, fun i hi => let ⟨o, e, c⟩ := R.kind i hi; ⟨o, hkeep _ _ e, c⟩, R.fresh, fun i o e => ?_, ⟨_, hns, fun x hx => ?_⟩, fun x hx => ?_, ?_, ?_, hnb _ hL', fun x c hc => hnb _ (hcn x c hc), ?_, ?_, ?_, ?_, ?_, Nat.lt_of_lt_of_le R.tok htk⟩
    · obtain ⟨h1, h2⟩ := R.objs i o e
      exact ⟨h1, ORep.mono (fun _ _ => rfl) (Nat.le_refl _) ht (fun o e => hkeep _ _ e) h2⟩
    · exact bindL_rep (m := fun _ => none) (p := fun _ => none) hbr₁ (fun _ _ => trivial) x hx
    · have hx' : fd.scope.names.lookup x = some .cell ∨ fd.scope.names.lookup x = some .free := by
        have e : env'.kindOf x = fd.scope.names.lookup x := by show env'.scope.names.lookup x = _; rw [hsc]
        rw [e] at hx; exact hx
      obtain ⟨c, hc⟩ := Option.isSome_iff_exists.mp (F.cells x hx' (s.heap.objs.size + 1))
      rw [← hcl] at hc
      refine ⟨c, _, hc, hcell x c hc, ?_⟩
      refine bindC_rep (m := fun _ => none) (p := fun _ => none) hbr₁ (fun _ _ => trivial) x (fun q => ?_)
      rw [q] at hx; rcases hx with hx | hx <;> cases hx
    · intro x c hc; exact ⟨_, hcell x c hc⟩
    · intro x y c h1 h2; exact name_of_addr hapart (mem_of_lookup h1) (mem_of_lookup h2)
    · intro i hi; exact Nat.ne_of_lt (Nat.lt_of_lt_of_le (hfi i hi) hL')
    · intro i hi x c hc; exact Nat.ne_of_lt (Nat.lt_of_lt_of_le (hfi i hi) (hcn x c hc))
    · refine ⟨.cons (by rw [hok.kind]; decide) hfr hns (hnb _ hL') (R.frs.frs.dk (.keeps hkeep)), fun i hi q => ?_⟩
      rw [List.filterMap_cons, hfr] at q
      rcases List.mem_cons.mp q with q | q
      · exact absurd q (Nat.ne_of_lt (Nat.lt_of_lt_of_le (hfi i hi) hL'))
      · exact R.frs.sep i hi q
    · rw [hs₁]; exact R.os
    · rw [hs₁]; exact R.gens
  refine ⟨C.nolimit.keeps fun b o e => hkeep _ _ (R.base b o e), codeAny_func ?_⟩
  have hA' : OkA ⟨lv.d + 1, lv.hn, env' :: lv.fs⟩ (A.deeper env') := by
    refine ⟨?_, ?_, Around.frames_deeper hA.frames, hA.guards, hA.handled, hd⟩
    · show A.depth + 1 ≤ 400 + 4 * (lv.d + 1); have := hA.depth; omega
    · show A.units + 3 ≤ 100 + 20 * (lv.d + 1); have := hA.units; omega
  refine (h env' hsc hok hfr).use hA' R₁ (fun fl pfl σ' f' s' ⟨hp, hsub, hq⟩ hr R' E' => ?_) fun e s' ⟨c, as, σ', f', ⟨hp, hsub, hx⟩, hfl, R', E'⟩ => ?_
  · obtain ⟨R₂, E₂⟩ := R.back (σ₁ := ⟨σb.n, σb.hp, locOf bs fun _ => none⟩) U rfl R' E' hp hsub
    refine ⟨_, _, f', hq, ?_, hl ▸ R₂, hl ▸ Eb.trans E₂⟩
    cases hr with
    | ret hv => exact hv
    | _ => exact .none
  · refine leave_flight (k₀ := s.heap.objs.size) (Around.frames_deeper hA.frames) hfr R' (Nat.le_trans hsz E'.size) (hfl.weaken hsz) fun s'' R'' E'' hfl' => ?_
    have E₃ := E'' f ⟨σb.n, σb.hp, locOf bs fun _ => none⟩ s (Nat.le_refl _) ((Ext.keeps (s := s) (s' := s₁) hkeep hsz).trans E')
    obtain ⟨R₂, E₂⟩ := R.back (σ₁ := ⟨σb.n, σb.hp, locOf bs fun _ => none⟩) (s₁ := s) ⟨fun _ _ e => e, Nat.le_refl _, hL', hcn⟩ rfl R'' E₃ hp hsub
    exact ⟨c, as, _, f', hx, ((hfl' env).weaken Eb.size : Flight C env f' σ'.n s₀.heap.objs.size s''.heap e c as), hl ▸ R₂, hl ▸ Eb.trans E₂⟩
theorem c_fnX {a : Addr} {fd : FuncData} {body : List Stmt} {ps : List PV} {kw bs : List (Str × PV)} {Q : PV → St → Prop} {X : String → List PV → St → Prop} (F : FnAt C a fd body) (hd : lv.d < 30)
    (hb : Binds C lv env σ fd ps kw bs) (hk : ∀ y ∈ bs, fd.scope.names.lookup y.1 = some .local ∨ fd.scope.names.lookup y.1 = some .cell)
    (h : ∀ env' : Env, env'.scope = fd.scope → EnvOk env' → env'.frame = some env'.locals → ASs C ⟨lv.d + 1, lv.hn, env' :: lv.fs⟩ env' body ⟨σ.n, σ.hp, locOf bs fun _ => none⟩
      (fun fl σ' => ∃ hp, (∀ i o, hp i = some o → σ'.hp i = some o) ∧ Q (retOf fl) ⟨σ'.n, hp, σ.loc⟩) (fun c as σ' => ∃ hp, (∀ i o, hp i = some o → σ'.hp i = some o) ∧ X c as ⟨σ'.n, hp, σ.loc⟩)) :
    CCall C lv env (.ref a) ps kw σ Q X := c_fnB F hd hb.toA rfl hk h
theorem c_fn {a : Addr} {fd : FuncData} {body : List Stmt} {ps : List PV} {kw bs : List (Str × PV)} {Q : PV → St → Prop} {X : String → List PV → St → Prop} (F : FnAt C a fd body) (hd : lv.d < 30)
    (hb : Binds C lv env σ fd ps kw bs) (hk : ∀ y ∈ bs, fd.scope.names.lookup y.1 = some .local ∨ fd.scope.names.lookup y.1 = some .cell)
    (h : ∀ env' : Env, env'.scope = fd.scope → EnvOk env' → env'.frame = some env'.locals → ASs C ⟨lv.d + 1, lv.hn, env' :: lv.fs⟩ env' body ⟨σ.n, σ.hp, locOf bs fun _ => none⟩
      (fun fl σ' => ∃ hp, (∀ i o, hp i = some o → σ'.hp i = some o) ∧ Q (retOf fl) ⟨σ'.n, hp, σ.loc⟩) NoX) :
    CCall C lv env (.ref a) ps kw σ Q X := c_fnX F hd hb hk fun env' h1 h2 h3 => (h env' h1 h2 h3).mono (fun _ _ x => x) fun _ _ _ x => x.elim
theorem a_fn {a : Addr} {fd : FuncData} {body : List Stmt} {ps : List PV} {kw bs : List (Str × PV)} {Q : PV → St → Prop} {X : String → List PV → St → Prop} (F : FnAt C a fd body) (hd : lv.d < 30)
    (hb : Binds C lv env σ fd ps kw bs) (hk : ∀ y ∈ bs, fd.scope.names.lookup y.1 = some .local ∨ fd.scope.names.lookup y.1 = some .cell)
    (h : ∀ env' : Env, env'.scope = fd.scope → EnvOk env' → env'.frame = some env'.locals → ASs C ⟨lv.d + 1, lv.hn, env' :: lv.fs⟩ env' body ⟨σ.n, σ.hp, locOf bs fun _ => none⟩
      (fun fl σ' => ∃ hp, (∀ i o, hp i = some o → σ'.hp i = some o) ∧ Q (retOf fl) ⟨σ'.n, hp, σ.loc⟩) NoX) : ACall C lv env (.ref a) ps kw σ Q X := (c_fn F hd hb hk h).call
end
end Mine

namespace Mine

section
variable {C : Cx} {lv : Lv} {env : Env} {fs : List Env} {σ σ' : St} {f f' : Nat → Addr} {s s₀ s' : Shared} {X : String → List PV → St → Prop}

theorem Rel.outside {I : Addr} {o : Obj} (R : Rel C fs env f σ s) (hI : s.heap.get? I = some o) (hc : ∀ vs n, o.data = .seq vs n → o.cls ≠ .type "tuple") (hb : C.base.get? I = none) (hf : ∀ i, i < σ.n → f i ≠ I) (hl : I ≠ env.locals) (hcl : ∀ x c, env.cells.lookup x = some c → I ≠ c)
    (hk : ∀ b o, b ≠ I → s.heap.get? b = some o → s'.heap.get? b = some o) (hfr : FrsF f σ.n s'.heap C.base fs) (ho : s'.os = s.os) (hg : s'.gens = s.gens) (ht : s.toks ≤ s'.toks) : Rel C fs env f σ s' := by
  have htup : ∀ a vs, s.heap.IsTuple a vs → s'.heap.IsTuple a vs := fun a vs ⟨o₁, e₁, c₁, n, r⟩ => ⟨o₁, hk _ _ (fun q => by rw [q, hI] at e₁; cases e₁; exact hc _ _ r c₁) e₁, c₁, n, r⟩
  refine ⟨fun b o e => hk _ _ (fun q => by rw [q, hb] at e; cases e) (R.base b o e), R.inj, fun i hi => let ⟨o, e, c⟩ := R.kind i hi; ⟨o, hk _ _ (hf i hi) e, c⟩, R.fresh, fun i o e => ?_, ?_, ?_, ?_, R.cinj, R.newL, R.newC, R.sepL, R.sepC, hfr, ho.trans R.os, hg.trans R.gens, Nat.lt_of_lt_of_le R.tok ht⟩
  · obtain ⟨h1, h2⟩ := R.objs i o e
    exact ⟨h1, ORep.mono (fun _ _ => rfl) (Nat.le_refl _) htup (fun o e => hk _ _ (hf i h1) e) h2⟩
  · obtain ⟨m, ⟨o₁, es, ep, e, hd, r⟩, hm⟩ := R.ns
    exact ⟨m, ⟨o₁, es, ep, hk _ _ hl.symm e, hd, r⟩, fun x hx => RepO.mono (fun _ _ => rfl) (Nat.le_refl _) htup (hm x hx)⟩
  · intro x hx
    obtain ⟨c, v, h1, ⟨o₁, e, hd⟩, h3⟩ := R.cs x hx
    exact ⟨c, v, h1, ⟨o₁, hk _ _ (hcl x c h1).symm e, hd⟩, RepO.mono (fun _ _ => rfl) (Nat.le_refl _) htup h3⟩
  · intro x c hc'
    obtain ⟨v, o₁, e, hd⟩ := R.call x c hc'
    exact ⟨v, o₁, hk _ _ (hcl x c hc').symm e, hd⟩

theorem Rel.other {I : Addr} {o : Obj} (R : Rel C fs env f σ s) (hI : s.heap.get? I = some o) (hc : o.cls ≠ .type "tuple") (hD : isD o.data = false) (hcl : ∀ v, o.data ≠ .cell v) (hF : isF o.data = true) (hb : C.base.get? I = none) (hf : ∀ i, i < σ.n → f i ≠ I)
    (hk : ∀ b o, b ≠ I → s.heap.get? b = some o → s'.heap.get? b = some o) (ho : s'.os = s.os) (hg : s'.gens = s.gens) (ht : s.toks ≤ s'.toks) : Rel C fs env f σ s' := by
  refine R.outside hI (fun _ _ _ => hc) hb hf (fun q => ?_) (fun x c hx q => ?_) hk (R.frs.dk (fun b o₁ e hF' => ?_)) ho hg ht
  · obtain ⟨m, ⟨o₁, es, ep, e, hd, r⟩, hm⟩ := R.ns
    rw [← q, hI] at e; cases e; rw [hd] at hD; cases hD
  · obtain ⟨v, o₁, e, hd⟩ := R.call x c hx
    rw [← q, hI] at e; cases e; exact hcl _ hd
  · by_cases q : b = I
    · subst q; rw [hI] at e; cases e; rw [hD] at hF'; cases hF'
    · exact ⟨o₁, hk _ _ q e, hF'⟩

theorem Ext.other {I : Addr} {f₀ : Nat → Addr} {σ₀ : St} (E : Ext env f₀ σ₀ s₀ f σ s) (hI : s₀.heap.get? I = none) (hk : ∀ b o, b ≠ I → s.heap.get? b = some o → s'.heap.get? b = some o) (hs : s.heap.objs.size ≤ s'.heap.objs.size) : Ext env f₀ σ₀ s₀ f σ s' where
  le := E.le
  agree := E.agree
  new := E.new
  keep b o e h := by
    obtain ⟨o', e', k⟩ := E.keep b o e h
    exact ⟨o', hk _ _ (fun q => by rw [q, hI] at e; cases e) e', k⟩
  grow b o e d := by
    obtain ⟨o', e', r⟩ := E.grow b o e d
    exact ⟨o', hk _ _ (fun q => by rw [q, hI] at e; cases e) e', r⟩
  size := Nat.le_trans E.size hs

def plainIter : Value → Bool
  | .type n => !(["enumerate", "zip", "dict_itemiterator", "dict_reverseitemiterator", "odict_iterator", "itertools.zip_longest", "itertools.pairwise"].contains n)
  | _ => true
theorem letOwned_plain {M : Model} {A : Around} {E : Value → Shared → Prop} {s : Shared} {target : Expr} {I : Addr} {v : Value} {o : Obj} {Q : Unit → Shared → Prop} (ho : s.heap.get? I = some o) (hp : plainIter o.cls = true) (h : Q () s) :
    wpAny M A (letOwnedTupleGo target (.ref I) v) Q E s := by
  have key : ∀ a, wpAny M A (load I >>= fun o => (match o.cls, o.data with
      | .type n, .fields vs =>
        if (["enumerate", "zip", "dict_itemiterator", "dict_reverseitemiterator", "odict_iterator", "itertools.zip_longest", "itertools.pairwise"].contains n && vs[0]? == some (rawInt a)) = true then
          (rule "for.unpacks-the-owned-tuple" >>= fun _ => updateField I 0 .none)
        else pure ()
      | _, _ => pure () : Sem Unit)) Q E s := by
    intro a
    refine wpAny_bind (wpAny_load ho ?_)
    obtain ⟨c, d, dt, sl⟩ := o
    cases c <;> cases dt <;> first
      | exact wpAny_pure h
      | (rename_i n vs
         show wpAny M A (if (_ && _) = true then _ else _) Q E s
         have hq : (["enumerate", "zip", "dict_itemiterator", "dict_reverseitemiterator", "odict_iterator", "itertools.zip_longest", "itertools.pairwise"].contains n) = false := by
           have := hp; unfold plainIter at this; simpa using this
         rw [hq]
         exact wpAny_pure h)
  unfold letOwnedTupleGo
  cases target <;> first
    | exact wpAny_pure h
    | (cases v <;> first
        | exact wpAny_pure h
        | exact key _)

structure IterSpec (C : Cx) (lv : Lv) (f₁ : Nat → Addr) (n₁ : Nat) (I : Addr) (l : List PV) (ok : St → Prop) (at_ : Nat → Heap → Prop) : Prop where
  stable : ∀ k h h', at_ k h → (∀ o, h.get? I = some o → h'.get? I = some o) → at_ k h'
  obj : ∀ k h, at_ k h → ∃ o, h.get? I = some o ∧ o.cls ≠ .type "tuple" ∧ isF o.data = true ∧ plainIter o.cls = true
  self : ∀ (A : Around) (s : Shared) (k : Nat) (Q : Value → Shared → Prop) (E : Value → Shared → Prop), OkA lv A → at_ k s.heap → Q (.ref I) s → wpAny C.M A (pyIter (.ref I)) Q E s
  next : ∀ (env : Env) (A : Around) (f : Nat → Addr) (σ : St) (s : Shared) (k : Nat) (p : PV) (Q : Option Value → Shared → Prop) (E : Value → Shared → Prop), OkA lv A → Rel C lv.fs env f σ s → (∀ j, j < n₁ → j < σ.n ∧ f j = f₁ j) → at_ k s.heap → ok σ → l[k]? = some p →
    (∀ v s', at_ (k + 1) s'.heap → Rep f σ.n s'.heap v p → (∀ b o, b ≠ I → s.heap.get? b = some o → s'.heap.get? b = some o) → s.heap.objs.size ≤ s'.heap.objs.size → s'.os = s.os → s'.gens = s.gens → s.toks ≤ s'.toks → Q (some v) s') → wpAny C.M A (pyNext (.ref I)) Q E s
  stop : ∀ (env : Env) (A : Around) (f : Nat → Addr) (σ : St) (s : Shared) (Q : Option Value → Shared → Prop) (E : Value → Shared → Prop), OkA lv A → lv.hn = true → Rel C lv.fs env f σ s → (∀ j, j < n₁ → j < σ.n ∧ f j = f₁ j) → at_ l.length s.heap → ok σ →
    (∀ s', (∀ b o, b ≠ I → s.heap.get? b = some o → s'.heap.get? b = some o) → s.heap.objs.size ≤ s'.heap.objs.size → s'.os = s.os → s'.gens = s.gens → s.toks ≤ s'.toks → Q none s') → wpAny C.M A (pyNext (.ref I)) Q E s

structure IterT (C : Cx) (lv : Lv) (f₁ : Nat → Addr) (n₁ : Nat) (I : Addr) (l : List PV) (ok : St → Prop) (T : Expr → Prop) (at_ : Nat → Heap → Prop) : Prop where
  stable : ∀ k h h', at_ k h → (∀ o, h.get? I = some o → h'.get? I = some o) → at_ k h'
  obj : ∀ k h, at_ k h → ∃ o, h.get? I = some o ∧ o.cls ≠ .type "tuple" ∧ isF o.data = true
  next : ∀ (env : Env) (A : Around) (f : Nat → Addr) (σ : St) (s : Shared) (k : Nat) (p : PV) (Q : Option Value → Shared → Prop) (E : Value → Shared → Prop), OkA lv A → Rel C lv.fs env f σ s → (∀ j, j < n₁ → j < σ.n ∧ f j = f₁ j) → at_ k s.heap → ok σ → l[k]? = some p →
    (∀ v s', (∀ (target : Expr) (Q' : Unit → Shared → Prop) (E' : Value → Shared → Prop), T target → (∀ s'', at_ (k + 1) s''.heap → Rep f σ.n s''.heap v p → (∀ b o, b ≠ I → s.heap.get? b = some o → s''.heap.get? b = some o) → s.heap.objs.size ≤ s''.heap.objs.size → s''.os = s.os → s''.gens = s.gens → s.toks ≤ s''.toks → Q' () s'') →
      wpAny C.M A (letOwnedTupleGo target (.ref I) v) Q' E' s') → Q (some v) s') → wpAny C.M A (pyNext (.ref I)) Q E s
  stop : ∀ (env : Env) (A : Around) (f : Nat → Addr) (σ : St) (s : Shared) (Q : Option Value → Shared → Prop) (E : Value → Shared → Prop), OkA lv A → lv.hn = true → Rel C lv.fs env f σ s → (∀ j, j < n₁ → j < σ.n ∧ f j = f₁ j) → at_ l.length s.heap → ok σ →
    (∀ s', (∀ b o, b ≠ I → s.heap.get? b = some o → s'.heap.get? b = some o) → s.heap.objs.size ≤ s'.heap.objs.size → s'.os = s.os → s'.gens = s.gens → s.toks ≤ s'.toks → Q none s') → wpAny C.M A (pyNext (.ref I)) Q E s
theorem IterSpec.toT {f₁ : Nat → Addr} {n₁ : Nat} {I : Addr} {l : List PV} {ok : St → Prop} {at_ : Nat → Heap → Prop} (W : IterSpec C lv f₁ n₁ I l ok at_) : IterT C lv f₁ n₁ I l ok (fun _ => True) at_ where
  stable := W.stable
  obj k h x := let ⟨o, h1, h2, h3, _⟩ := W.obj k h x; ⟨o, h1, h2, h3⟩
  next env A f σ s k p Q E hA R hag hat hok hp h := W.next env A f σ s k p Q E hA R hag hat hok hp fun v s' hat' hv hkp hsz hos hgs htk => h v s' fun target Q' E' _ h' => by
    obtain ⟨o, ho, _, _, hpl⟩ := W.obj _ _ hat'
    exact letOwned_plain ho hpl (h' s' hat' hv hkp hsz hos hgs htk)
  stop := W.stop

def AAssign (C : Cx) (lv : Lv) (env : Env) (target : Expr) (p : PV) (σ : St) (Q : St → Prop) (X : String → List PV → St → Prop) : Prop :=
  Op1 C lv env repU (fun v => assign target env v) p σ (fun _ σ' => Q σ') X

theorem a_name {x : Str} {pos : Pos} {p : PV} {Q : St → Prop} (he : EnvOk env) (hx : env.kindOf x = some .local ∨ env.kindOf x = some .cell) (h : Q (σ.set x p)) : AAssign C lv env (.Name x pos) p σ Q X :=
  ⟨fun A f s v hA R hv => wpAny_assign_Name (R.store he.kind hv hx fun s' R' E' => ⟨(), _, f, h, trivial, R', E'⟩)⟩

def HeldX (C : Cx) (lv : Lv) (env : Env) (X : String → List PV → St → Prop) (f : Nat → Addr) (σ : St) (s : Shared) (e : Value) (s' : Shared) : Prop :=
  ∃ cls args σ' f' a, e = .ref a ∧ X cls args σ' ∧ FlT C f' σ'.n s.heap.objs.size s'.heap a cls args (some (rawInt env.locals)) ∧ Rel C lv.fs env f' σ' s' ∧ Ext env f σ s f' σ' s'

theorem noted_of {A : Around} {e : Value} (hA : OkA lv A) (hF : FrameOk lv env) (h : PostX C lv.fs env X f σ s e s') : notedBy C.M A env (fun e s' => HeldX C lv env X f σ s e s') e s' := by
  obtain ⟨cls, args, σ', f', hx, hfl, R, E⟩ := h
  obtain ⟨outer, ho⟩ := hF.top
  have hfr := hA.frames
  rw [ho] at hfr R
  refine note_flight hfr hF.frame R E.size hfl fun s'' a ea R'' E'' hfl' => ⟨cls, args, σ', f', a, ea, hx, hfl', by rw [ho]; exact R'', E'' _ _ _ (Nat.le_refl _) E⟩
theorem came_of {A : Around} {e : Value} (hF : FrameOk lv env) (h : HeldX C lv env X f σ s e s') : cameBackBy C.M A env (fun e s' => PostX C lv.fs env X f σ s e s') e s' := by
  obtain ⟨cls, args, σ', f', a, rfl, hx, hfl, R, E⟩ := h
  exact back_flight hF.frame R hfl fun s'' R'' E'' hfl' => ⟨cls, args, σ', f', hx, hfl', R'', E'' _ _ _ (Nat.le_refl _) E⟩

theorem for_go {target : Expr} {body orelse : List Stmt} {I : Addr} {l : List PV} {ok : St → Prop} {T : Expr → Prop} {at_ : Nat → Heap → Prop} {Q : PFlow → St → Prop} {A : Around} (J : Nat → St → Prop) (hA : OkA lv A) (hn : lv.hn = true) (hF : FrameOk lv env) (hT : T target) (W : IterT C lv f σ.n I l ok T at_)
    (hJ : ∀ k σ, J k σ → ok σ)
    (turn : ∀ k p σ₁, l[k]? = some p → J k σ₁ → AAssign C lv env target p σ₁ (fun σ₂ => ASs C lv env body σ₂ (fun fl σ₃ => match fl with
      | .next => J (k + 1) σ₃ | .cont => J (k + 1) σ₃ | .brk => Q .next σ₃ | .ret v => Q (.ret v) σ₃) X) X)
    (done : ∀ σ₁, J l.length σ₁ → ASs C lv env orelse σ₁ Q X)
    (R : Rel C lv.fs env f σ s) {f₀ : Nat → Addr} {σ₀ : St} (E : Ext env f₀ σ₀ s₀ f σ s) (hI₀ : s₀.heap.get? I = none) (hIb : C.base.get? I = none) (hout : Out env f σ.n I) (hI0 : ∀ i, i < σ.n → f i ≠ I) (hat : at_ 0 s.heap) (h0 : J 0 σ) :
    codeAny C.M A (.forLoop target (.ref I) body orelse env) (fun r s' => match r with | .ok fl => Post C lv.fs env RepF Q f₀ σ₀ s₀ fl s' | .error e => cameBackBy C.M A env (fun e s' => PostX C lv.fs env X f₀ σ₀ s₀ e s') e s') s := by
  refine codeAny_mono (R := fun r s' => match r with | .ok fl => Post C lv.fs env RepF Q f₀ σ₀ s₀ fl s' | .error e => HeldX C lv env X f₀ σ₀ s₀ e s') ?_ fun r s' h => by
    cases r with
    | ok _ => exact h
    | error e => exact came_of hF h
  generalize hf₁ : f = f₁ at W
  generalize hn₁ : σ.n = n₁ at W
  refine codeAny_forLoop_any (fun n s => ∃ k σ f, n + k = l.length + 1 ∧ k ≤ l.length ∧ J k σ ∧ Rel C lv.fs env f σ s ∧ Ext env f₀ σ₀ s₀ f σ s ∧ at_ k s.heap ∧ (∀ i, i < σ.n → f i ≠ I) ∧ (∀ j, j < n₁ → j < σ.n ∧ f j = f₁ j)) ?_ (l.length + 1) ⟨0, σ, f, by omega, Nat.zero_le _, h0, R, E, hat, hI0, by subst hn₁ hf₁; exact fun j hj => ⟨hj, rfl⟩⟩
  rintro n s ⟨k, σ, f, hnk, hk, hj, R, E, hat, hIf, hag⟩
  obtain ⟨oI, hoI, hcI, hFI⟩ := W.obj k _ hat
  have hDI : isD oI.data = false := by cases h : oI.data <;> rw [h] at hFI <;> first | rfl | cases hFI
  have hCI : ∀ v, oI.data ≠ .cell v := fun v q => by rw [q] at hFI; cases hFI
  have oI_out : Out env f σ.n I := ⟨fun i _ hi => (hIf i hi).symm, hout.l, hout.c⟩
  have xE : ∀ e s', PostX C lv.fs env X f₀ σ₀ s₀ e s' → notedBy C.M A env (fun e s' => HeldX C lv env X f₀ σ₀ s₀ e s') e s' := fun e s' h => noted_of hA hF h
  by_cases hlt : k < l.length
  · obtain ⟨p, hp⟩ : ∃ p, l[k]? = some p := ⟨l[k], List.getElem?_eq_getElem hlt⟩
    refine W.next env A f σ s k p _ _ hA R hag hat (hJ k σ hj) hp fun v s₁ go => go target _ _ hT fun s' hat' hv hkp hsz hos hgs htk => ?_
    obtain ⟨oI', hoI', _, hFI'⟩ := W.obj _ _ hat'
    have R' := R.other (s' := s') hoI hcI hDI hCI hFI hIb hIf hkp hos hgs htk
    have E' := E.other hI₀ hkp hsz
    have ex : ∀ {f₂ : Nat → Addr} {σ₂ : St} {s₂ : Shared}, Ext env f σ s' f₂ σ₂ s₂ → at_ (k + 1) s₂.heap ∧ (∀ i, i < σ₂.n → f₂ i ≠ I) ∧ (∀ j, j < n₁ → j < σ₂.n ∧ f₂ j = f₁ j) := fun {f₂ σ₂ s₂} E₂ => by
      have oo : Out env f σ.n I := oI_out
      obtain ⟨o₂, e₂, k₂⟩ := E₂.keep I oI' hoI' oo
      have hD' : isD oI'.data = false := by cases h : oI'.data <;> rw [h] at hFI' <;> first | rfl | cases hFI'
      refine ⟨W.stable _ _ _ hat' (fun o e => ?_), fun i hi => ?_, fun j hj => ⟨Nat.lt_of_lt_of_le (hag j hj).1 E₂.le, (E₂.agree j (hag j hj).1).trans (hag j hj).2⟩⟩
      · rw [hoI'] at e; cases e; rw [e₂, k₂.eq hD']
      · rcases Nat.lt_or_ge i σ.n with h | h
        · rw [E₂.agree i h]; exact hIf i h
        · exact Nat.ne_of_gt (Nat.lt_of_lt_of_le (Heap.lt_size hoI') (E₂.new i h hi))
    refine wpAny_mono ((turn k p σ hp hj).run A f s' v hA R' hv) (fun _ s₂ ⟨_, σ₂, f₂, h₂, _, R₂, E₂⟩ => ?_) fun e s₂ h => xE e s₂ (PostX.trans E' h)
    refine h₂.use hA R₂ (fun fl pfl σ₃ f₃ s₃ h₃ hr R₃ E₃ => ?_) fun e s₃ h => xE e s₃ (PostX.trans (E'.trans E₂) h)
    have E₄ := E₂.trans E₃
    obtain ⟨a3, b3, c3⟩ := ex E₄
    cases hr with
    | next => exact ⟨n - 1, by omega, k + 1, σ₃, f₃, by omega, hlt, h₃, R₃, E'.trans E₄, a3, b3, c3⟩
    | cont => exact ⟨n - 1, by omega, k + 1, σ₃, f₃, by omega, hlt, h₃, R₃, E'.trans E₄, a3, b3, c3⟩
    | brk => exact ⟨.next, σ₃, f₃, h₃, .next, R₃, E'.trans E₄⟩
    | ret hv => exact ⟨_, σ₃, f₃, h₃, .ret hv, R₃, E'.trans E₄⟩
  · obtain rfl : k = l.length := by omega
    refine W.stop env A f σ s _ _ hA hn R hag hat (hJ _ σ hj) fun s' hkp hsz hos hgs htk => ?_
    have R' := R.other (s' := s') hoI hcI hDI hCI hFI hIb hIf hkp hos hgs htk
    have E' := E.other hI₀ hkp hsz
    exact (done σ hj).use hA R' (fun fl pfl σ₃ f₃ s₃ h₃ hr R₃ E₃ => ⟨pfl, σ₃, f₃, h₃, hr, R₃, E'.trans E₃⟩) fun e s₃ h => xE e s₃ (PostX.trans E' h)

def Iterable (C : Cx) (lv : Lv) (env : Env) (p : PV) (l : List PV) (ok : St → Prop) (σ : St) : Prop :=
  ∀ (A : Around) (f : Nat → Addr) (s : Shared) (v : Value) (Q : Value → Shared → Prop) (E : Value → Shared → Prop), OkA lv A → Rel C lv.fs env f σ s → Rep f σ.n s.heap v p →
    (∀ I at_ s', IterSpec C lv f σ.n I l ok at_ → at_ 0 s'.heap → s.heap.objs.size ≤ I → (∀ b o, s.heap.get? b = some o → s'.heap.get? b = some o) → s.heap.objs.size ≤ s'.heap.objs.size → s'.os = s.os → s'.gens = s.gens → s.toks ≤ s'.toks → Q (.ref I) s') → wpAny C.M A (pyIter v) Q E s

def IterableT (C : Cx) (lv : Lv) (env : Env) (p : PV) (l : List PV) (ok : St → Prop) (T : Expr → Prop) (σ : St) : Prop :=
  ∀ (A : Around) (f : Nat → Addr) (s : Shared) (v : Value) (Q : Value → Shared → Prop) (E : Value → Shared → Prop), OkA lv A → Rel C lv.fs env f σ s → Rep f σ.n s.heap v p →
    (∀ I at_ s', IterT C lv f σ.n I l ok T at_ → at_ 0 s'.heap → s.heap.objs.size ≤ I → (∀ b o, s.heap.get? b = some o → s'.heap.get? b = some o) → s.heap.objs.size ≤ s'.heap.objs.size → s'.os = s.os → s'.gens = s.gens → s.toks ≤ s'.toks → Q (.ref I) s') → wpAny C.M A (pyIter v) Q E s
theorem Iterable.toT {p : PV} {l : List PV} {ok : St → Prop} (h : Iterable C lv env p l ok σ) : IterableT C lv env p l ok (fun _ => True) σ :=
  fun A f s v Q E hA R hv k => h A f s v Q E hA R hv fun I at_ s' W => k I at_ s' W.toT

theorem s_forT {target iter : Expr} {body orelse : List Stmt} {pos : Pos} {Q : PFlow → St → Prop} (hn : lv.hn = true) (hF : FrameOk lv env)
    (h : AE C lv env iter σ (fun p σ₁ => ∃ (l : List PV) (ok : St → Prop) (J : Nat → St → Prop) (T : Expr → Prop), T target ∧ IterableT C lv env p l ok T σ₁ ∧ J 0 σ₁ ∧ (∀ k σ, J k σ → ok σ) ∧
      (∀ k p σ₁, l[k]? = some p → J k σ₁ → AAssign C lv env target p σ₁ (fun σ₂ => ASs C lv env body σ₂ (fun fl σ₃ => match fl with
        | .next => J (k + 1) σ₃ | .cont => J (k + 1) σ₃ | .brk => Q .next σ₃ | .ret v => Q (.ret v) σ₃) X) X) ∧
      (∀ σ₁, J l.length σ₁ → ASs C lv env orelse σ₁ Q X)) X)
    (hs : ∀ x, foldedSetIterable iter env x = pure x := by intro _; rfl) :
    AS C lv env (.For target iter body orelse pos) σ Q X := by
  refine ⟨fun A f s hA R => ?_⟩
  refine wpAny_For (h.use hA R (fun v p σ₁ f₁ s₁ h₁ hv R₁ E₁ => ?_) fun _ _ x => x) hs
  obtain ⟨l, ok, J, T, hT, hit, h0, hJ, turn, done⟩ := h₁
  refine hit A f₁ s₁ v _ _ hA R₁ hv fun I at_ s' W hat hI hk hsz hos hgs htk => ?_
  have R' := R₁.keeps hk hos hgs htk
  have E' : Ext env f₁ σ₁ s₁ f₁ σ₁ s' := .keeps hk hsz
  have hIn : ∀ b o, s₁.heap.get? b = some o → b ≠ I := fun b o e => Nat.ne_of_lt (Nat.lt_of_lt_of_le (Heap.lt_size e) hI)
  have hnone : s₁.heap.get? I = none := by
    cases hq : s₁.heap.get? I with
    | none => rfl
    | some o => exact absurd rfl (hIn _ _ hq)
  have hIf : ∀ i, i < σ₁.n → f₁ i ≠ I := fun i hi => let ⟨_, e, _⟩ := R₁.kind i hi; hIn _ _ e
  refine for_go J hA hn hF hT W hJ turn done R' (E₁.trans E') (Heap.get?_none_of_le (Nat.le_trans E₁.size hI)) ?_ ⟨fun i _ hi => (hIf i hi).symm, ?_, ?_⟩ hIf hat h0
  · cases hq : C.base.get? I with
    | none => rfl
    | some o => exact absurd rfl (hIn _ _ (R₁.base _ _ hq))
  · obtain ⟨m, ⟨o, _, _, e, _⟩, _⟩ := R₁.ns
    exact (hIn _ _ e).symm
  · intro x c hc
    obtain ⟨v, o, e, _⟩ := R₁.call x c hc
    exact (hIn _ _ e).symm
theorem s_for {target iter : Expr} {body orelse : List Stmt} {pos : Pos} {Q : PFlow → St → Prop} (hn : lv.hn = true) (hF : FrameOk lv env)
    (h : AE C lv env iter σ (fun p σ₁ => ∃ (l : List PV) (ok : St → Prop) (J : Nat → St → Prop), Iterable C lv env p l ok σ₁ ∧ J 0 σ₁ ∧ (∀ k σ, J k σ → ok σ) ∧
      (∀ k p σ₁, l[k]? = some p → J k σ₁ → AAssign C lv env target p σ₁ (fun σ₂ => ASs C lv env body σ₂ (fun fl σ₃ => match fl with
        | .next => J (k + 1) σ₃ | .cont => J (k + 1) σ₃ | .brk => Q .next σ₃ | .ret v => Q (.ret v) σ₃) X) X) ∧
      (∀ σ₁, J l.length σ₁ → ASs C lv env orelse σ₁ Q X)) X)
    (hs : ∀ x, foldedSetIterable iter env x = pure x := by intro _; rfl) :
    AS C lv env (.For target iter body orelse pos) σ Q X :=
  s_forT hn hF (h.mono (fun p σ₁ ⟨l, ok, J, hit, r⟩ => ⟨l, ok, J, fun _ => True, trivial, hit.toT, r⟩) fun _ _ _ x => x) hs
end
end Mine

namespace Mine

theorem closure_of (env : Env) : ∀ (names : List (Str × NameKind)), (∀ x, (x, NameKind.free) ∈ names → ∃ c, env.cells.lookup x = some c) →
    ∀ acc : List (Str × Addr), (∀ x c, acc.lookup x = some c → env.cells.lookup x = some c) →
    ∃ cl, (forIn names acc (fun (p : Str × NameKind) (cs : List (Str × Addr)) => if (p.2 == NameKind.free) = true then (do let y ← cellOf env p.1; pure (ForInStep.yield ((p.1, y) :: cs))) else pure (ForInStep.yield cs)) : Sem (List (Str × Addr))) = pure cl ∧
      (∀ x c, cl.lookup x = some c → env.cells.lookup x = some c) ∧ (∀ x, (x, NameKind.free) ∈ names ∨ (∃ c, acc.lookup x = some c) → ∃ c, cl.lookup x = some c)
  | [], _, acc, ha => ⟨acc, rfl, ha, fun x h => h.elim (fun q => nomatch q) id⟩
  | (n, k) :: r, hn, acc, ha => by
    have hr : ∀ x, (x, NameKind.free) ∈ r → ∃ c, env.cells.lookup x = some c := fun x hx => hn x (List.mem_cons_of_mem _ hx)
    by_cases hk : (k == NameKind.free) = true
    · obtain rfl : k = .free := by simpa using hk
      obtain ⟨c, hc⟩ := hn n List.mem_cons_self
      have e : cellOf env n = pure c := by unfold cellOf; rw [hc]
      obtain ⟨cl, h1, h2, h3⟩ := closure_of env r hr ((n, c) :: acc) (fun x d hx => by
        rw [List.lookup_cons] at hx
        by_cases q : (x == n) = true
        · simp only [q] at hx; cases hx; rw [beq_iff_eq.mp q]; exact hc
        · simp only [q] at hx; exact ha x d hx)
      refine ⟨cl, ?_, h2, fun x hx => h3 x ?_⟩
      · rw [List.forIn_cons]
        simp only [hk, if_true, e]
        exact h1
      · rcases hx with hx | ⟨d, hd⟩
        · rcases List.mem_cons.mp hx with q | q
          · cases q; exact .inr ⟨c, by simp⟩
          · exact .inl q
        · by_cases q : (x == n) = true
          · exact .inr ⟨c, by simp [List.lookup_cons, q]⟩
          · exact .inr ⟨d, by simp only [List.lookup_cons, q]; exact hd⟩
    · obtain ⟨cl, h1, h2, h3⟩ := closure_of env r hr acc ha
      refine ⟨cl, ?_, h2, fun x hx => h3 x ?_⟩
      · rw [List.forIn_cons]
        simp only [hk]
        exact h1
      · rcases hx with hx | hx
        · rcases List.mem_cons.mp hx with q | q
          · cases q; exact absurd rfl hk
          · exact .inl q
        · exact .inr hx

theorem closureFor_of {env : Env} {scope : Scope} (h : ∀ x, (x, NameKind.free) ∈ scope.names → ∃ c, env.cells.lookup x = some c) :
    ∃ cl, closureFor scope env = pure cl ∧ (∀ x c, cl.lookup x = some c → env.cells.lookup x = some c) ∧ (∀ x, (x, NameKind.free) ∈ scope.names → ∃ c, cl.lookup x = some c) := by
  obtain ⟨cl, h1, h2, h3⟩ := closure_of env scope.names h [] (fun x c hx => by cases hx)
  refine ⟨cl, ?_, h2, fun x hx => h3 x (.inl hx)⟩
  unfold closureFor
  refine Eq.trans ?_ h1
  simp only [bind_pure]

structure Sc (env : Env) (names : List (Str × NameKind)) : Prop where
  ok : EnvOk env
  loc : ∀ x, names.lookup x = some .local → env.kindOf x = some .local
  cel : ∀ x, names.lookup x = some .cell → env.kindOf x = some .cell
  fre : ∀ x, names.lookup x = some .free → env.kindOf x = some .cell ∨ env.kindOf x = some .free
  glo : ∀ x, names.lookup x = some .globalImplicit → env.kindOf x = some .globalImplicit

theorem Sc.of {env : Env} {sc : Scope} (h : env.scope = sc) (ok : EnvOk env) : Sc env sc.names := by
  have e : ∀ x, env.kindOf x = sc.names.lookup x := fun x => by show env.scope.names.lookup x = _; rw [h]
  exact ⟨ok, fun x h => (e x).trans h, fun x h => (e x).trans h, fun x h => .inr ((e x).trans h), fun x h => (e x).trans h⟩

theorem lookup_relabel {env : Env} : ∀ (names : List (Str × NameKind)) (x : Str),
    (names.map fun (n, k) => if (k == NameKind.free && env.scope.kind == .function && env.kindOf n == some .cell) then (n, NameKind.cell) else (n, k)).lookup x =
      (names.lookup x).map fun k => if (k == NameKind.free && env.scope.kind == .function && env.kindOf x == some .cell) then NameKind.cell else k
  | [], _ => rfl
  | (n, k) :: r, x => by
    have ih := lookup_relabel (env := env) r x
    show List.lookup x ((if (k == NameKind.free && env.scope.kind == .function && env.kindOf n == some .cell) = true then (n, NameKind.cell) else (n, k)) :: _) = _
    cases hx : x == n with
    | true =>
      obtain rfl : x = n := beq_iff_eq.mp hx
      by_cases hc : (k == NameKind.free && env.scope.kind == .function && env.kindOf x == some .cell) = true
      · rw [if_pos hc]; simp only [List.lookup_cons, hx, Option.map_some]; rw [if_pos hc]
      · rw [if_neg hc]; simp only [List.lookup_cons, hx, Option.map_some]; rw [if_neg hc]
    | false =>
      by_cases hc : (k == NameKind.free && env.scope.kind == .function && env.kindOf n == some .cell) = true
      · rw [if_pos hc]; simp only [List.lookup_cons, hx]; exact ih
      · rw [if_neg hc]; simp only [List.lookup_cons, hx]; exact ih

theorem Sc.comp {env : Env} {scope : Scope} {C : Addr} {cl : List (Str × Addr)} (ok : EnvOk env) (hk : scope.kind = .function) : Sc (compEnvC scope cl C env) scope.names := by
  have e : ∀ x, (compEnvC scope cl C env).kindOf x = (scope.names.lookup x).map fun k => if (k == NameKind.free && env.scope.kind == .function && env.kindOf x == some .cell) then NameKind.cell else k := fun x => lookup_relabel scope.names x
  refine ⟨⟨hk, ok.glob, ok.bi⟩, fun x h => by rw [e, h]; rfl, fun x h => by rw [e, h]; rfl, fun x h => ?_, fun x h => by rw [e, h]; rfl⟩
  rw [e, h]
  simp only [Option.map_some]
  split
  · exact .inl rfl
  · exact .inr rfl

section
variable {C : Cx} {lv : Lv} {env cenv : Env} {fs : List Env} {σ σ₁ τ : St} {f f' : Nat → Addr} {s s₁ s' s'' : Shared} {X : String → List PV → St → Prop}

theorem Rel.backC (R : Rel C fs env f σ s) (hk : ∀ b o, s.heap.get? b = some o → s₁.heap.get? b = some o) (hsz : s.heap.objs.size ≤ s₁.heap.objs.size) (hL : s.heap.objs.size ≤ cenv.locals) (hcl : ∀ x c, cenv.cells.lookup x = some c → env.cells.lookup x = some c)
    (hn : σ₁.n = σ.n) (R' : Rel C fs cenv f' τ s') (E : Ext cenv f σ₁ s₁ f' τ s')
    (hloc : ∀ x c, cenv.cells.lookup x = some c → (cenv.kindOf x = some .cell ∨ cenv.kindOf x = some .free) ∧ τ.loc x = σ.loc x) (hsb : Heap.SameBut cenv.locals s'.heap s''.heap)
    (ho : s''.os = s'.os) (hg : s''.gens = s'.gens) (ht : s'.toks ≤ s''.toks) (hp : Nat → Option AO) (hsub : ∀ i o, hp i = some o → τ.hp i = some o) :
    Rel C fs env f' ⟨τ.n, hp, σ.loc⟩ s'' ∧ Ext env f σ s f' ⟨τ.n, hp, σ.loc⟩ s'' := by
  have hle : σ.n ≤ τ.n := hn ▸ E.le
  have hag : ∀ i, i < σ.n → f' i = f i := fun i hi => E.agree i (hn ▸ hi)
  have hnL : ∀ b o, s.heap.get? b = some o → b ≠ cenv.locals := fun b o e => Nat.ne_of_lt (Nat.lt_of_lt_of_le (Heap.lt_size e) hL)
  have hkp : ∀ b o, s.heap.get? b = some o → (∀ i, 0 < i → i < σ.n → b ≠ f i) → (∀ x c, cenv.cells.lookup x = some c → b ≠ c) → ∃ o', s''.heap.get? b = some o' ∧ Kept o o' := fun b o e h h2 => by
    obtain ⟨o', e', k'⟩ := E.keep b o (hk b o e) ⟨by rw [hn]; exact h, hnL b o e, h2⟩
    exact ⟨o', (hsb.2 b (hnL b o e)).trans e', k'⟩
  have hnew : ∀ i, σ.n ≤ i → i < τ.n → s.heap.objs.size ≤ f' i := fun i h1 h2 => Nat.le_trans hsz (E.new i (hn ▸ h1) h2)
  have hkp' : ∀ b o, b ≠ cenv.locals → s'.heap.get? b = some o → s''.heap.get? b = some o := fun b o q e => (hsb.2 b q).trans e
  obtain ⟨mC, oC, esC, epC, eC, dC, rC⟩ := R'.ns |>.imp fun m h => h.1
  have ht' : ∀ a vs, s'.heap.IsTuple a vs → s''.heap.IsTuple a vs := fun a vs ⟨o, e, c, k, d⟩ => ⟨o, hkp' _ _ (fun q => by rw [q, eC] at e; cases e; rw [d] at dC; cases dC) e, c, k, d⟩
  have htup : ∀ a vs, s.heap.IsTuple a vs → s''.heap.IsTuple a vs := fun a vs x => by
    have hout := R.tupOut x
    obtain ⟨o, ho, hc, k, hd⟩ := x
    obtain ⟨o', e, q⟩ := hkp a o ho hout.o fun x c hx => hout.c x c (hcl x c hx)
    exact ⟨_, e, q.cls.trans hc, k, q.data.trans hd⟩
  have hgrow' : ∀ b o, s.heap.get? b = some o → isD o.data = true → ∃ o', s''.heap.get? b = some o' ∧ isD o'.data = true := fun b o e d => by
    obtain ⟨o', e', d'⟩ := E.grow b o (hk b o e) d
    exact ⟨o', hkp' _ _ (hnL b o e) e', d'⟩
  refine ⟨⟨fun b o e => hkp' _ _ (fun q => by rw [q, R'.newL] at e; cases e) (R'.base b o e), R'.inj, fun i hi => let ⟨o, e, c⟩ := R'.kind i hi; ⟨o, hkp' _ _ (R'.sepL i hi) e, c⟩, R'.fresh, fun i o e => ?_, ?_, ?_, ?_, R.cinj, R.newL, R.newC, ?_, ?_, ⟨R.frs.frs.dk hgrow', R'.frs.sep⟩, ho.trans R'.os, hg.trans R'.gens, Nat.lt_of_lt_of_le R'.tok ht⟩,
    ⟨hle, hag, hnew, fun b o e h => hkp b o e h.o fun x c hx => h.c x c (hcl x c hx), ?_, Nat.le_trans (Nat.le_trans hsz E.size) (Nat.le_of_eq hsb.1.symm)⟩⟩
  · obtain ⟨h1, h2⟩ := R'.objs i o (hsub i o e)
    exact ⟨h1, ORep.mono (fun _ _ => rfl) (Nat.le_refl _) ht' (fun o e => hkp' _ _ (R'.sepL i h1) e) h2⟩
  · obtain ⟨m, ⟨o, es, ep, ho', hd, hr⟩, hm⟩ := R.ns
    obtain ⟨o', e, q⟩ := hkp _ o ho' (fun i _ hi => (R.sepL i hi).symm) (fun x c hx q => by
      obtain ⟨v, o₁, e₁, d₁⟩ := R.call x c (hcl x c hx)
      rw [← q, ho'] at e₁; cases e₁; rw [hd] at d₁; cases d₁)
    exact ⟨m, ⟨_, es, ep, e, q.data.trans hd, hr⟩, fun x hx => RepO.mono hag hle htup (hm x hx)⟩
  · intro x hx
    obtain ⟨c, v, h1, ⟨o, ho', hd⟩, h3⟩ := R.cs x hx
    by_cases q : ∃ y, cenv.cells.lookup y = some c
    · obtain ⟨y, hy⟩ := q
      obtain rfl : y = x := R.cinj y x c (hcl y c hy) h1
      obtain ⟨hkd, hlo⟩ := hloc y c hy
      obtain ⟨c', v', k1, ⟨o₁, e₁, d₁⟩, k3⟩ := R'.cs y hkd
      rw [hy] at k1; cases k1
      exact ⟨c, v', h1, ⟨o₁, hkp' _ _ (hnL _ _ ho') e₁, d₁⟩, by rw [← hlo]; exact RepO.mono (fun _ _ => rfl) (Nat.le_refl _) ht' k3⟩
    · obtain ⟨o', e, k'⟩ := hkp _ o ho' (fun i _ hi => (R.sepC i hi x c h1).symm) (fun y d hy e => q ⟨y, e ▸ hy⟩)
      exact ⟨c, v, h1, ⟨_, e, k'.data.trans hd⟩, RepO.mono hag hle htup h3⟩
  · intro x c hc
    obtain ⟨v, o, ho', hd⟩ := R.call x c hc
    by_cases q : ∃ y, cenv.cells.lookup y = some c
    · obtain ⟨y, hy⟩ := q
      obtain ⟨v', o₁, e₁, d₁⟩ := R'.call y c hy
      exact ⟨v', o₁, hkp' _ _ (hnL _ _ ho') e₁, d₁⟩
    · obtain ⟨o', e, k'⟩ := hkp _ o ho' (fun i _ hi => (R.sepC i hi x c hc).symm) (fun y d hy e => q ⟨y, e ▸ hy⟩)
      exact ⟨v, _, e, k'.data.trans hd⟩
  · intro i hi
    rcases Nat.lt_or_ge i σ.n with h | h
    · rw [hag i h]; exact R.sepL i h
    · obtain ⟨m, ⟨o, _, _, ho', _⟩, _⟩ := R.ns
      exact Nat.ne_of_gt (Nat.lt_of_lt_of_le (Heap.lt_size ho') (hnew i h hi))
  · intro i hi x c hc
    rcases Nat.lt_or_ge i σ.n with h | h
    · rw [hag i h]; exact R.sepC i h x c hc
    · obtain ⟨v, o, ho', _⟩ := R.call x c hc
      exact Nat.ne_of_gt (Nat.lt_of_lt_of_le (Heap.lt_size ho') (hnew i h hi))
  · exact hgrow'

def ATests (C : Cx) (lv : Lv) (env : Env) (ifs : List Expr) (σ : St) (Q : Bool → St → Prop) (X : String → List PV → St → Prop) : Prop :=
  AW C lv env repB (forIn ifs true fun c r => if r = true then do let ok ← isTrue c env (eval c env); pure (ForInStep.yield ok) else pure (ForInStep.yield r)) σ Q X
theorem at_one {c : Expr} {Q : Bool → St → Prop} (h : AT C lv env c σ Q X) : ATests C lv env [c] σ Q X := ⟨fun A f s hA R => wpAny_tests_one (h.run A f s hA R)⟩


def CTurn (C : Cx) (lv : Lv) (cenv : Env) (target elt : Expr) (ifs : List Expr) (a : Nat) (J : Nat → List PV → St → Prop) (k : Nat) (acc : List PV) (p : PV) (τ : St) : Prop :=
  AAssign C lv cenv target p τ (fun τ₁ => ATests C lv cenv ifs τ₁ (fun b τ₂ => (b = true → AE C lv cenv elt τ₂ (fun e τ₃ => τ₃.hp a = some (.list acc) ∧ acc.length < 16777216 ∧ J (k + 1) (acc ++ [e]) (τ₃.upd a (.list (acc ++ [e])))) NoX) ∧ (b = false → J (k + 1) acc τ₂)) NoX) NoX

theorem codeAny_compLoop_any {prog : Program} {w : World} {A : Around} {s : Shared} {R : Result → Shared → Prop} {elt target iter : Expr} {ifs : List Expr} {scope : Scope} {pos : Pos} {it acc : Value} {env : Env} (I : Nat → Shared → Prop)
    (turn : ∀ n s, I n s → wpAny (model prog w) A (pyNext it) (fun r s₁ => match r with
      | none => R (.ok .next) s₁
      | some v => wpAny (model prog w) A (letOwnedTupleGo target it v) (fun _ s₀ => wpAny (model prog w) A (assign target env v) (fun _ s₂ =>
          wpAny (model prog w) A (forIn ifs true fun c r => if r = true then do let ok ← isTrue c env (eval c env); pure (ForInStep.yield ok) else pure (ForInStep.yield r)) (fun ok s₃ =>
            if ok = true then wpAny (model prog w) A (eval elt env) (fun x s₄ =>
              wpAny (model prog w) A (call (.builtin "list.append") [acc, x]) (fun _ s₅ => ∃ m, m < n ∧ I m s₅) (notedBy (model prog w) A env fun e s' => R (.error e) s') s₄) (notedBy (model prog w) A env fun e s' => R (.error e) s') s₃
            else ∃ m, m < n ∧ I m s₃) (notedBy (model prog w) A env fun e s' => R (.error e) s') s₂) (notedBy (model prog w) A env fun e s' => R (.error e) s') s₀) (notedBy (model prog w) A env fun e s' => R (.error e) s') s₁) (notedBy (model prog w) A env fun e s' => R (.error e) s') s)
    (n : Nat) (h : I n s) : codeAny (model prog w) A (.compLoop (.ListComp elt [⟨target, iter, ifs, 0⟩] scope pos) 0 it acc env) R s := by
  refine codeAny_loop rfl I (fun n s hI => ?_) n h
  show wpAny _ A ((compTurn (.ListComp elt [⟨target, iter, ifs, 0⟩] scope pos) 0 it acc env).onRaise (fun x => do noteFrame x env; theTreesLotGoes x)) _ _ s
  refine wpAny_noted ?_
  rw [compTurn_list]
  refine wpAny_bind (wpAny_standAt (wpAny_bind (wpAny_mono (turn n s hI) (fun r s₁ h₁ => ?_) fun _ _ h' => h')))
  cases r with
  | none => exact wpAny_pure h₁
  | some v =>
    refine wpAny_bind (wpAny_mono h₁ (fun _ s₀ h₀ => ?_) fun _ _ h' => h')
    refine wpAny_bind (wpAny_mono h₀ (fun _ s₂ h₂ => wpAny_bind (wpAny_mono h₂ (fun ok s₃ h₃ => ?_) fun _ _ h' => h')) fun _ _ h' => h')
    cases ok with
    | false => exact wpAny_pure ⟨rfl, h₃⟩
    | true => exact wpAny_bind (wpAny_bind (wpAny_mono h₃ (fun x s₄ h₄ => wpAny_bind (wpAny_mono h₄ (fun _ s₅ h₅ => wpAny_pure (wpAny_pure ⟨rfl, h₅⟩)) fun _ _ h' => h')) fun _ _ h' => h'))

theorem comp_loop {target elt iter : Expr} {ifs : List Expr} {scope : Scope} {pos : Pos} {I : Addr} {l : List PV} {ok : St → Prop} {at_ : Nat → Heap → Prop} {A : Around} (J : Nat → List PV → St → Prop) (hA : OkA lv A) (hn : lv.hn = true) {n₁ : Nat} {f₁ : Nat → Addr} (W : IterSpec C lv f₁ n₁ I l ok at_) (hag₀ : ∀ j, j < n₁ → j < τ.n ∧ f j = f₁ j) {a : Nat} (ha0 : 0 < a)
    (hJ : ∀ k acc σ, J k acc σ → ok σ) (turn : ∀ k acc p τ, l[k]? = some p → J k acc τ → CTurn C lv cenv target elt ifs a J k acc p τ)
    (R : Rel C lv.fs cenv f τ s) {f₀ : Nat → Addr} {σ₀ : St} {s₀ : Shared} {acc0 : List PV} (E : Ext cenv f₀ σ₀ s₀ f τ s) (hI₀ : s₀.heap.get? I = none) (hIb : C.base.get? I = none) (hIl : I ≠ cenv.locals) (hIc : ∀ x c, cenv.cells.lookup x = some c → I ≠ c) (hI0 : ∀ i, i < τ.n → f i ≠ I) (hat : at_ 0 s.heap) (h0 : J 0 acc0 τ) (haf : a < τ.n) :
    codeAny C.M A (.compLoop (.ListComp elt [⟨target, iter, ifs, 0⟩] scope pos) 0 (.ref I) (.ref (f a)) cenv) (fun r s' => ∃ acc τ' f', r = .ok .next ∧ J l.length acc τ' ∧ Rel C lv.fs cenv f' τ' s' ∧ Ext cenv f₀ σ₀ s₀ f' τ' s' ∧ f' a = f a ∧ a < τ'.n) s := by
  refine codeAny_compLoop_any (fun n s => ∃ k acc σ f', n + k = l.length + 1 ∧ k ≤ l.length ∧ J k acc σ ∧ Rel C lv.fs cenv f' σ s ∧ Ext cenv f₀ σ₀ s₀ f' σ s ∧ at_ k s.heap ∧ (∀ i, i < σ.n → f' i ≠ I) ∧ f' a = f a ∧ a < σ.n ∧ (∀ j, j < n₁ → j < σ.n ∧ f' j = f₁ j)) ?_ (l.length + 1) ⟨0, acc0, τ, f, by omega, Nat.zero_le _, h0, R, E, hat, hI0, rfl, haf, hag₀⟩
  rintro n s ⟨k, acc, σ, f', hnk, hk, hj, R, E, hat, hIf, hfa, han, hag⟩
  obtain ⟨oI, hoI, hcI, hFI, _⟩ := W.obj k _ hat
  have hDI : isD oI.data = false := by cases h : oI.data <;> rw [h] at hFI <;> first | rfl | cases hFI
  have hCI : ∀ v, oI.data ≠ .cell v := fun v q => by rw [q] at hFI; cases hFI
  have nx : ∀ {R' : Value → Shared → Prop} {σ' : St} {f₁ : Nat → Addr} {s₁ : Shared} (e : Value) (s' : Shared), PostX C lv.fs cenv NoX f₁ σ' s₁ e s' → R' e s' := fun e s' ⟨_, _, _, _, hx, _, _, _⟩ => hx.elim
  by_cases hlt : k < l.length
  · obtain ⟨p, hp⟩ : ∃ p, l[k]? = some p := ⟨l[k], List.getElem?_eq_getElem hlt⟩
    refine W.next cenv A f' σ s k p _ _ hA R hag hat (hJ k acc σ hj) hp fun v s' hat' hv hkp hsz hos hgs htk => ?_
    obtain ⟨oI', hoI', _, hFI', hPI'⟩ := W.obj _ _ hat'
    have R' := R.other (s' := s') hoI hcI hDI hCI hFI hIb hIf hkp hos hgs htk
    have E' := E.other hI₀ hkp hsz
    have ex : ∀ {f₂ : Nat → Addr} {σ₂ : St} {s₂ : Shared}, Ext cenv f' σ s' f₂ σ₂ s₂ → at_ (k + 1) s₂.heap ∧ (∀ i, i < σ₂.n → f₂ i ≠ I) ∧ f₂ a = f a ∧ a < σ₂.n ∧ (∀ j, j < n₁ → j < σ₂.n ∧ f₂ j = f₁ j) := fun {f₂ σ₂ s₂} E₂ => by
      obtain ⟨o₂, e₂, k₂⟩ := E₂.keep I oI' hoI' ⟨fun i _ hi => (hIf i hi).symm, hIl, hIc⟩
      have hD' : isD oI'.data = false := by cases h : oI'.data <;> rw [h] at hFI' <;> first | rfl | cases hFI'
      refine ⟨W.stable _ _ _ hat' (fun o e => ?_), fun i hi => ?_, (E₂.agree a han).trans hfa, Nat.lt_of_lt_of_le han E₂.le, fun j hj => ⟨Nat.lt_of_lt_of_le (hag j hj).1 E₂.le, (E₂.agree j (hag j hj).1).trans (hag j hj).2⟩⟩
      · rw [hoI'] at e; cases e; rw [e₂, k₂.eq hD']
      · rcases Nat.lt_or_ge i σ.n with h | h
        · rw [E₂.agree i h]; exact hIf i h
        · exact Nat.ne_of_gt (Nat.lt_of_lt_of_le (Heap.lt_size hoI') (E₂.new i h hi))
    refine letOwned_plain hoI' hPI' ?_
    refine wpAny_mono ((turn k acc p σ hp hj).run A f' s' v hA R' hv) (fun _ s₂ ⟨_, σ₂, f₂, h₂, _, R₂, E₂⟩ => ?_) (fun e s₂ h => nx e s₂ h)
    refine h₂.use hA R₂ (fun b b' σ₃ f₃ s₃ h₃ hb R₃ E₃ => ?_) (fun e s₃ h => nx e s₃ h)
    cases hb
    cases b with
    | false =>
      have E₄ := E₂.trans E₃
      obtain ⟨a3, b3, c3, d3, g3⟩ := ex E₄
      exact ⟨n - 1, by omega, k + 1, acc, σ₃, f₃, by omega, hlt, h₃.2 rfl, R₃, E'.trans E₄, a3, b3, c3, d3, g3⟩
    | true =>
      refine (h₃.1 rfl).use hA R₃ (fun x e σ₄ f₄ s₄ h₄ hx R₄ E₄ => ?_) (fun e s₄ h => nx e s₄ h)
      obtain ⟨hacc, hlen, hj'⟩ := h₄
      have E₅ := (E₂.trans E₃).trans E₄
      obtain ⟨a3, b3, c3, d3, g3⟩ := ex E₅
      obtain ⟨_, vs, m, hget, hvs⟩ := R₄.objs a _ hacc
      rw [← c3]
      have hl := hvs.length
      refine append_at hget (fun h' hsb hget' => ?_) (by rw [List.size_toArray, hl, sizeLine_eq]; omega)
      obtain ⟨R₅, E₆⟩ := R₄.upd (s' := { s₄ with heap := h' }) (ao' := .list (acc ++ [e])) hacc ha0 hget hget' rfl rfl hsb rfl rfl (Nat.le_refl _)
        ⟨vs ++ [x], m + 1, by rw [hget']; simp, by
          have ht : ∀ b ws, s₄.heap.IsTuple b ws → h'.IsTuple b ws := fun b ws ⟨o₁, e₁, c₁, r₁⟩ => ⟨o₁, (hsb.2 b fun q => by rw [q, hget] at e₁; cases e₁; exact absurd c₁ (by simp)).trans e₁, c₁, r₁⟩
          exact RepL.append (hvs.mono (fun _ _ => rfl) (Nat.le_refl _) ht) (.cons (hx.mono (fun _ _ => rfl) (Nat.le_refl _) ht) .nil)⟩
      obtain ⟨a4, b4, c4, d4, g4⟩ := ex (E₅.trans E₆)
      exact ⟨n - 1, by omega, k + 1, acc ++ [e], _, f₄, by omega, hlt, hj', R₅, E'.trans (E₅.trans E₆), a4, b4, rfl, d4, g4⟩
  · obtain rfl : k = l.length := by omega
    refine W.stop cenv A f' σ s _ _ hA hn R hag hat (hJ _ acc σ hj) fun s' hkp hsz hos hgs htk => ?_
    have R' := R.other (s' := s') hoI hcI hDI hCI hFI hIb hIf hkp hos hgs htk
    exact ⟨acc, σ, f', rfl, hj, R', E.other hI₀ hkp hsz, hfa, han⟩

def CSpec (C : Cx) (lv : Lv) (env : Env) (scope : Scope) (target elt : Expr) (ifs : List Expr) (p : PV) (σ₁ : St) (Q : PV → St → Prop) : Prop :=
  ∃ (l : List PV) (ok : St → Prop) (J : Nat → List PV → St → Prop), 0 < σ₁.n ∧ Iterable C lv env p l ok σ₁ ∧
    (∀ loc : Str → Option PV, (∀ x, scope.names.lookup x = some .free → loc x = σ₁.loc x) → J 0 [] ⟨σ₁.n + 1, fun i => if i = σ₁.n then some (.list []) else σ₁.hp i, loc⟩) ∧
    (∀ k acc τ, J k acc τ → ok τ ∧ ∀ x, scope.names.lookup x = some .free → τ.loc x = σ₁.loc x) ∧
    (∀ cenv : Env, Sc cenv scope.names → ∀ k acc p τ, l[k]? = some p → J k acc τ → CTurn C lv cenv target elt ifs σ₁.n J k acc p τ) ∧
    (∀ acc τ, J l.length acc τ → ∃ hp, (∀ i o, hp i = some o → τ.hp i = some o) ∧ Q (.ref σ₁.n) ⟨τ.n, hp, σ₁.loc⟩)


structure CompEnd (C : Cx) (lv : Lv) (env : Env) (f : Nat → Addr) (σ : St) (s : Shared) (Q : PV → St → Prop) (D L : Addr) (s' : Shared) : Prop where
  ex : ∃ (f' : Nat → Addr) (n : Nat) (hp : Nat → Option AO), Q (.ref σ.n) ⟨n, hp, σ.loc⟩ ∧ σ.n < n ∧ f' σ.n = D ∧ (∃ m, s'.heap.Ns L m) ∧ C.base.get? L = none ∧ s.heap.objs.size ≤ L ∧ (∀ i, i < n → f' i ≠ L) ∧
    Rel C lv.fs env f' ⟨n, hp, σ.loc⟩ s' ∧ Ext env f σ s f' ⟨n, hp, σ.loc⟩ s'

theorem Rel.letgo {σ₅ : St} {L : Addr} {s₅ : Shared} {h' : Heap} (R : Rel C fs env f σ s) (hL : s.heap.objs.size ≤ L) (R₅ : Rel C fs env f' σ₅ s₅) (E₅ : Ext env f σ s f' σ₅ s₅) (hns : ∃ m, s₅.heap.Ns L m) (hb : C.base.get? L = none) (hf : ∀ i, i < σ₅.n → f' i ≠ L) (hsb : Heap.SameBut L s₅.heap h') :
    Rel C fs env f' σ₅ { s₅ with heap := h' } ∧ Ext env f σ s f' σ₅ { s₅ with heap := h' } := by
  have hnL : ∀ b o, s.heap.get? b = some o → b ≠ L := fun b o e => Nat.ne_of_lt (Nat.lt_of_lt_of_le (Heap.lt_size e) hL)
  have hk : ∀ b o, b ≠ L → s₅.heap.get? b = some o → h'.get? b = some o := fun b o q e => (hsb.2 b q).trans e
  obtain ⟨m, o, es, ep, e, d, r⟩ := hns
  refine ⟨R₅.outside (s' := { s₅ with heap := h' }) e (fun vs n q => by rw [d] at q; cases q) hb hf ?_ ?_ hk ?_ rfl rfl (Nat.le_refl _), ⟨E₅.le, E₅.agree, E₅.new, fun b o e h => ?_, fun b o e d => ?_, Nat.le_trans E₅.size (Nat.le_of_eq hsb.1.symm)⟩⟩
  · obtain ⟨m, ⟨o, _, _, e, _⟩, _⟩ := R.ns
    exact (hnL _ _ e).symm
  · intro x c hc
    obtain ⟨v, o, e, _⟩ := R.call x c hc
    exact (hnL _ _ e).symm
  · refine ⟨R.frs.frs.dk (fun b o e d => ?_), R₅.frs.sep⟩
    obtain ⟨o', e', d'⟩ := E₅.grow b o e d
    exact ⟨o', hk _ _ (hnL b o e) e', d'⟩
  · obtain ⟨o', e', k'⟩ := E₅.keep b o e h
    exact ⟨o', hk _ _ (hnL b o e) e', k'⟩
  · obtain ⟨o', e', r'⟩ := E₅.grow b o e d
    exact ⟨o', hk _ _ (hnL b o e) e', r'⟩

theorem comp_core {elt target iter : Expr} {ifs : List Expr} {scope : Scope} {pos : Pos} {p : PV} {v : Value} {A : Around} {Q : PV → St → Prop} (hA : OkA lv A) (hn : lv.hn = true) (ok : EnvOk env) (hk : scope.kind = .function) (hnc : ∀ x ∈ scope.names, x.2 ≠ .cell)
    (hfree : ∀ x, scope.names.lookup x = some .free → env.kindOf x = some .cell ∨ env.kindOf x = some .free)
    (R : Rel C lv.fs env f σ s) (hv : Rep f σ.n s.heap v p) (h : CSpec C lv env scope target elt ifs p σ Q) {cl : List (Str × Addr)} (hcl : ∀ x c, cl.lookup x = some c → env.cells.lookup x = some c) (hcl2 : ∀ x, scope.names.lookup x = some .free → ∃ c, cl.lookup x = some c) (hcl3 : ∀ x c, cl.lookup x = some c → scope.names.lookup x = some .free)
    {E : Value → Shared → Prop} {R' : Value → Addr → Result → Shared → Prop} (hR : ∀ D L s', CompEnd C lv env f σ s Q D L s' → R' (.ref D) L (.ok .next) s') :
    wpAny C.M A (pyIter v) (fun it s₂ => wpAny C.M A (newList []) (fun acc s₃ => wpAny C.M A (newFunctionEnv scope env.globals cl [] env.qual none .none (some env)) (fun cenv s₄ =>
        codeAny C.M A (.compStart (.ListComp elt [⟨target, iter, ifs, 0⟩] scope pos) 0 it acc { cenv with scope := relabel scope env }) (R' acc cenv.locals) s₄) E s₃) E s₂) E s := by
  obtain ⟨l, okk, J, hpos, hit, h0, hJ, turn, done⟩ := h
  refine hit A f s v _ _ hA R hv fun I at_ s₂ W hat hI hk₂ hsz₂ hos hgs htk => ?_
  have hIn : ∀ b o, s.heap.get? b = some o → b ≠ I := fun b o e => Nat.ne_of_lt (Nat.lt_of_lt_of_le (Heap.lt_size e) hI)
  have R₂ := R.keeps hk₂ hos hgs htk
  have E₂ : Ext env f σ s f σ s₂ := .keeps hk₂ hsz₂
  unfold newList
  refine wpAny_newObj_type ?_ (by size_fits)
  obtain ⟨R₃, E₃⟩ := R₂.alloc (s' := { s₂ with heap := s₂.heap.push { cls := .type "list", data := .seq [].toArray } }) (a := s₂.heap.objs.size) (ao := .list []) (fun b o e => Heap.get?_push_of_some _ e) (by rw [Heap.size_push]; omega) (Nat.le_refl _) (Heap.get?_push_size _ rfl) (by simp) rfl rfl (Nat.le_refl _)
    ⟨[], 0, Heap.get?_push_size _ rfl, .nil⟩
  generalize hs₃ : ({ s₂ with heap := s₂.heap.push { cls := .type "list", data := .seq [].toArray } } : Shared) = s₃ at R₃ E₃ ⊢
  generalize hf₃ : (fun i => if i = σ.n then s₂.heap.objs.size else f i) = f₃ at R₃ E₃
  have hfD : f₃ σ.n = s₂.heap.objs.size := by rw [← hf₃]; simp
  have hk₃ : ∀ b o, s₂.heap.get? b = some o → s₃.heap.get? b = some o := fun b o e => by rw [← hs₃]; exact Heap.get?_push_of_some _ e
  have hat₃ := W.stable _ _ _ hat (fun o e => hk₃ _ _ e)
  refine wpAny_newFunctionEnv hnc (fun x hx => (nomatch hx)) (fun h' hns hsb => ?_) hk
  generalize hL : s₃.heap.objs.size = L at hns hsb ⊢
  have hkL : ∀ b o, s₃.heap.get? b = some o → h'.get? b = some o := fun b o e => by
    have hb : b ≠ L := by rw [← hL]; exact Nat.ne_of_lt (Heap.lt_size e)
    exact (hsb.2 b hb).trans (Heap.get?_push_of_some _ e)
  have hszL : s₃.heap.objs.size ≤ h'.objs.size := by rw [hsb.1, Heap.size_push]; omega
  show codeAny C.M A (.compStart (.ListComp elt [⟨target, iter, ifs, 0⟩] scope pos) 0 (.ref I) (.ref s₂.heap.objs.size) (compEnvC scope cl L env)) (R' (.ref s₂.heap.objs.size) L) _
  generalize hc : compEnvC scope cl L env = cenv
  have hcl' : cenv.locals = L := by rw [← hc]; rfl
  have hcc : cenv.cells = cl := by rw [← hc]; rfl
  have hsc : Sc cenv scope.names := by rw [← hc]; exact Sc.comp ok hk
  have hkind : ∀ x, cenv.kindOf x = (scope.names.lookup x).map fun k => if (k == NameKind.free && env.scope.kind == .function && env.kindOf x == some .cell) then NameKind.cell else k := fun x => by rw [← hc]; exact lookup_relabel scope.names x
  have hloc1 : ∀ x, cenv.kindOf x = some .local → scope.names.lookup x = some .local := fun x h => by
    rw [hkind] at h
    cases hq : scope.names.lookup x with
    | none => rw [hq] at h; cases h
    | some k =>
      rw [hq] at h
      simp only [Option.map_some, Option.some.injEq] at h
      split at h
      · cases h
      · rw [h]
  have hfre1 : ∀ x, cenv.kindOf x = some .cell ∨ cenv.kindOf x = some .free → scope.names.lookup x = some .free := fun x h => by
    cases hq : scope.names.lookup x with
    | none => rw [hkind, hq] at h; rcases h with h | h <;> cases h
    | some k =>
      have hkc : k ≠ .cell := hnc (x, k) (mem_of_lookup hq)
      rw [hkind, hq] at h
      simp only [Option.map_some, Option.some.injEq] at h
      by_cases hkf : k = .free
      · rw [hkf]
      · have : (k == NameKind.free) = false := by simpa using hkf
        simp only [this, Bool.false_and, Bool.false_eq_true, if_false] at h
        rcases h with h | h
        · exact absurd h hkc
        · exact absurd h hkf
  let loc0 : Str → Option PV := fun x => if scope.names.lookup x = some .free then σ.loc x else none
  have hbL : C.base.get? L = none := by
    cases hq : C.base.get? L with
    | none => rfl
    | some o => exact absurd (Heap.lt_size (R₃.base _ _ hq)) (by rw [hL]; exact Nat.lt_irrefl _)
  have hs4 : ∀ tk, s₃.toks ≤ tk → Rel C lv.fs cenv f₃ ⟨σ.n + 1, fun i => if i = σ.n then some (.list []) else σ.hp i, loc0⟩ { s₃ with heap := h', toks := tk } := fun tk htk => by
    have ht : ∀ a vs, s₃.heap.IsTuple a vs → h'.IsTuple a vs := fun a vs ⟨o, e, r⟩ => ⟨o, hkL _ _ e, r⟩
    refine ⟨fun b o e => hkL _ _ (R₃.base b o e), R₃.inj, fun i hi => let ⟨o, e, c⟩ := R₃.kind i hi; ⟨o, hkL _ _ e, c⟩, R₃.fresh, fun i o e => ?_, ⟨_, by rw [hcl']; exact hns, fun x hx => ?_⟩, fun x hx => ?_, ?_, ?_, by rw [hcl']; exact hbL, ?_, ?_, ?_, R₃.frs.dk (.keeps hkL), R₃.os, R₃.gens, Nat.lt_of_lt_of_le R₃.tok htk⟩
    · obtain ⟨h1, h2⟩ := R₃.objs i o e
      exact ⟨h1, ORep.mono (fun _ _ => rfl) (Nat.le_refl _) ht (fun o e => hkL _ _ e) h2⟩
    · have : loc0 x = none := by show (if _ then _ else _) = _; rw [if_neg (by rw [hloc1 x hx]; simp)]
      show RepO _ _ _ _ (loc0 x)
      rw [this]; trivial
    · have hx' := hfre1 x hx
      obtain ⟨c, hcx⟩ := hcl2 x hx'
      obtain ⟨c', v', k1, k2, k3⟩ := R₃.cs x (hfree x hx')
      have : c = c' := Option.some.inj ((hcl x c hcx).symm.trans k1)
      subst this
      refine ⟨c, v', by rw [hcc]; exact hcx, k2.keeps hkL, ?_⟩
      show RepO _ _ _ _ (loc0 x)
      have : loc0 x = σ.loc x := if_pos hx'
      rw [this]; exact RepO.mono (fun _ _ => rfl) (Nat.le_refl _) ht k3
    · intro x c hx
      rw [hcc] at hx
      obtain ⟨v', k⟩ := R₃.call x c (hcl x c hx)
      exact ⟨v', k.keeps hkL⟩
    · intro x y c h1 h2; rw [hcc] at h1 h2; exact R₃.cinj x y c (hcl x c h1) (hcl y c h2)
    · intro x c hx; rw [hcc] at hx; exact R₃.newC x c (hcl x c hx)
    · intro i hi
      obtain ⟨o, e, _⟩ := R₃.kind i hi
      rw [hcl', ← hL]; exact Nat.ne_of_lt (Heap.lt_size e)
    · intro i hi x c hx; rw [hcc] at hx; exact R₃.sepC i hi x c (hcl x c hx)
  have Rc := hs4 (s₃.toks + ([] : List (Str × Value)).length) (Nat.le_add_right _ _)
  generalize hs₄ : ({ s₃ with heap := h', toks := s₃.toks + ([] : List (Str × Value)).length } : Shared) = s₄ at Rc ⊢
  have hh4 : s₄.heap = h' := by rw [← hs₄]
  have hI₂ : ∃ o, s₂.heap.get? I = some o := let ⟨o, e, _⟩ := W.obj _ _ hat; ⟨o, e⟩
  have hI₃ : ∃ o, s₃.heap.get? I = some o := let ⟨o, e⟩ := hI₂; ⟨o, hk₃ _ _ e⟩
  have hI2 : ∀ b o, s.heap.get? b = some o → b ≠ I := hIn
  have hIb : C.base.get? I = none := by
    cases hq : C.base.get? I with
    | none => rfl
    | some o => exact absurd rfl (hIn _ _ (R.base _ _ hq))
  have hIL : I ≠ cenv.locals := by
    obtain ⟨o, e⟩ := hI₃
    rw [hcl', ← hL]; exact Nat.ne_of_lt (Heap.lt_size e)
  have hIc : ∀ x c, cenv.cells.lookup x = some c → I ≠ c := fun x c hx => by
    rw [hcc] at hx
    obtain ⟨v', o, e, _⟩ := R.call x c (hcl x c hx)
    exact (hIn _ _ e).symm
  have hIf : ∀ i, i < σ.n + 1 → f₃ i ≠ I := fun i hi => by
    rcases Nat.lt_or_ge i σ.n with h | h
    · have : f₃ i = f i := by rw [← hf₃]; exact if_neg (Nat.ne_of_lt h)
      rw [this]
      obtain ⟨o, e, _⟩ := R.kind i h
      exact hIn _ _ e
    · obtain rfl : i = σ.n := by omega
      obtain ⟨o, e⟩ := hI₂
      rw [hfD]; exact Nat.ne_of_gt (Heap.lt_size e)
  have hat4 : at_ 0 s₄.heap := by rw [hh4]; exact W.stable _ _ _ hat₃ (fun o e => hkL _ _ e)
  have hnone : s.heap.get? I = none := by
    cases hq : s.heap.get? I with
    | none => rfl
    | some o => exact absurd rfl (hIn _ _ hq)
  -- the loop runs from here; what stood at s is what counts
  have hkk : ∀ b o, s.heap.get? b = some o → s₄.heap.get? b = some o := fun b o e => by rw [hh4]; exact hkL _ _ (hk₃ _ _ (hk₂ _ _ e))
  have hszk : s.heap.objs.size ≤ s₄.heap.objs.size := by
    rw [hh4]
    have h1 : s₂.heap.objs.size ≤ s₃.heap.objs.size := by rw [← hs₃]; show _ ≤ (s₂.heap.push _).objs.size; rw [Heap.size_push]; omega
    omega
  have hLs : s.heap.objs.size ≤ L := by
    rw [← hL]
    have h1 : s₂.heap.objs.size ≤ s₃.heap.objs.size := by rw [← hs₃]; show _ ≤ (s₂.heap.push _).objs.size; rw [Heap.size_push]; omega
    omega
  -- a start for the block's own view: nothing but the list and the table is new
  have Ec : Ext cenv f σ s f₃ ⟨σ.n + 1, fun i => if i = σ.n then some (.list []) else σ.hp i, loc0⟩ s₄ := by
    refine ⟨Nat.le_succ _, fun i hi => by rw [← hf₃]; exact if_neg (Nat.ne_of_lt hi), fun i h1 h2 => ?_, fun b o e _ => ⟨o, hkk _ _ e, .refl o⟩, .keeps hkk, hszk⟩
    obtain rfl : i = σ.n := by simp only at h2; omega
    rw [hfD]; exact hsz₂
  have hJ' : ∀ k acc τ, J k acc τ → okk τ := fun k acc τ h => (hJ k acc τ h).1
  have loop : ∀ I', I' = I → codeAny C.M A (.compLoop (.ListComp elt [⟨target, iter, ifs, 0⟩] scope pos) 0 (.ref I') (.ref s₂.heap.objs.size) cenv) (R' (.ref s₂.heap.objs.size) L) s₄ := by
    rintro I' rfl
    rw [← hfD]
    refine codeAny_mono (comp_loop (a := σ.n) (acc0 := []) J hA hn W (fun j hj => ⟨Nat.lt_succ_of_lt hj, by rw [← hf₃]; exact if_neg (Nat.ne_of_lt hj)⟩) hpos hJ' (turn cenv hsc) Rc Ec hnone hIb hIL hIc hIf hat4 (h0 loc0 fun x hx => if_pos hx) (Nat.lt_succ_self _)) ?_
    rintro r s' ⟨acc, τ', f', rfl, hj, Rl, El, hfa, han⟩
    obtain ⟨hp, hsub, hq⟩ := done acc τ' hj
    refine hR _ _ _ ⟨f', τ'.n, hp, hq, han, hfa, ?_, hbL, hLs, fun i hi => by have := Rl.sepL i hi; rw [hcl'] at this; exact this, ?_⟩
    · obtain ⟨m, hm, _⟩ := Rl.ns
      exact ⟨m, by rw [← hcl']; exact hm⟩
    · have hb := Rel.backC (s₁ := s) (σ₁ := σ) (s'' := s') R (fun b o e => e) (Nat.le_refl _) (by rw [hcl']; exact hLs) (fun x c hx => by rw [hcc] at hx; exact hcl x c hx) rfl Rl El
        (fun x c hx => by
          rw [hcc] at hx
          have hxf := hcl3 x c hx
          exact ⟨hsc.fre x hxf, (hJ _ _ _ hj).2 x hxf⟩) (.refl _ _) rfl rfl (Nat.le_refl _) hp hsub
      exact hb
  refine codeAny_compStart_list (loop I rfl) (W.self A s₄ 0 _ _ hA hat4 (loop I rfl))

theorem closure_only (env : Env) : ∀ (names : List (Str × NameKind)), (∀ x, (x, NameKind.free) ∈ names → ∃ c, env.cells.lookup x = some c) → ∀ (acc cl : List (Str × Addr)),
    (forIn names acc (fun (p : Str × NameKind) (cs : List (Str × Addr)) => if (p.2 == NameKind.free) = true then (do let y ← cellOf env p.1; pure (ForInStep.yield ((p.1, y) :: cs))) else pure (ForInStep.yield cs)) : Sem (List (Str × Addr))) = pure cl →
    ∀ x c, cl.lookup x = some c → (x, NameKind.free) ∈ names ∨ acc.lookup x = some c
  | [], _, acc, cl, h, x, c, hx => by
    rw [List.forIn_nil] at h
    have : acc = cl := by cases h; rfl
    rw [this]; exact .inr hx
  | (n, k) :: r, hn, acc, cl, h, x, c, hx => by
    have hr : ∀ x, (x, NameKind.free) ∈ r → ∃ c, env.cells.lookup x = some c := fun x hx => hn x (List.mem_cons_of_mem _ hx)
    rw [List.forIn_cons] at h
    by_cases hk : (k == NameKind.free) = true
    · obtain rfl : k = .free := by simpa using hk
      obtain ⟨c₀, hc₀⟩ := hn n List.mem_cons_self
      have e : cellOf env n = pure c₀ := by unfold cellOf; rw [hc₀]
      simp only [hk, if_true, e] at h
      rcases closure_only env r hr ((n, c₀) :: acc) cl h x c hx with q | q
      · exact .inl (List.mem_cons_of_mem _ q)
      · by_cases hxn : (x == n) = true
        · rw [beq_iff_eq.mp hxn]; exact .inl List.mem_cons_self
        · rw [List.lookup_cons] at q; simp only [hxn] at q; exact .inr q
    · simp only [hk] at h
      rcases closure_only env r hr acc cl h x c hx with q | q
      · exact .inl (List.mem_cons_of_mem _ q)
      · exact .inr q

structure BlockOk (env : Env) (scope : Scope) : Prop where
  kind : scope.kind = .function
  nocell : ∀ x ∈ scope.names, x.2 ≠ .cell
  free : ∀ x, scope.names.lookup x = some .free → env.kindOf x = some .cell ∨ env.kindOf x = some .free
  uniq : ∀ x k, (x, k) ∈ scope.names → scope.names.lookup x = some k

theorem BlockOk.closure {scope : Scope} (b : BlockOk env scope) (R : Rel C fs env f σ s) : ∃ cl, closureFor scope env = pure cl ∧ (∀ x c, cl.lookup x = some c → env.cells.lookup x = some c) ∧ (∀ x, scope.names.lookup x = some .free → ∃ c, cl.lookup x = some c) ∧
    (∀ x c, cl.lookup x = some c → scope.names.lookup x = some .free) := by
  have hn : ∀ x, (x, NameKind.free) ∈ scope.names → ∃ c, env.cells.lookup x = some c := fun x hx => let ⟨c, _, h, _⟩ := R.cs x (b.free x (b.uniq x _ hx)); ⟨c, h⟩
  obtain ⟨cl, h1, h2, h3⟩ := closureFor_of hn
  refine ⟨cl, h1, h2, fun x hx => h3 x (mem_of_lookup hx), fun x c hx => ?_⟩
  have h1' := h1
  unfold closureFor at h1'
  simp only [bind_pure] at h1'
  rcases closure_only env scope.names hn [] cl h1' x c hx with q | q
  · exact b.uniq x _ q
  · cases q

theorem e_listcomp {elt target iter : Expr} {ifs : List Expr} {scope : Scope} {pos : Pos} {Q : PV → St → Prop} (ok : EnvOk env) (hn : lv.hn = true) (b : BlockOk env scope)
    (h : AE C lv env iter σ (fun p σ₁ => CSpec C lv env scope target elt ifs p σ₁ Q) X) (hs : ∀ x, foldedSetIterable iter env x = pure x := by intro _; rfl) :
    AE C lv env (.ListComp elt [⟨target, iter, ifs, 0⟩] scope pos) σ Q X := by
  refine ⟨fun A f s hA R => ?_⟩
  obtain ⟨cl, h1, h2, h3, h4⟩ := b.closure R
  show wpAny C.M A (comprehension (.ListComp elt [⟨target, iter, ifs, 0⟩] scope pos) scope env (firstIterPos [⟨target, iter, ifs, 0⟩] pos) (newList []) false (eval iter env) none) _ _ s
  refine wpAny_comprehension_free (g := ⟨target, iter, ifs, 0⟩) (gs := []) rfl hs h1 b.kind (fun x hx hl => by have := b.uniq x.1 x.2 hx; rw [hl] at this; exact this) ?_
  refine h.use hA R (fun v p σ₁ f₁ s₁ hc hv R₁ E₁ => ?_) fun _ _ x => x
  refine comp_core hA hn ok b.kind b.nocell b.free R₁ hv hc h2 h3 h4 fun D L s' hend => ?_
  obtain ⟨f', n, hp, hq, hlt, hD, hns, hbL, hLs, hfL, R', E'⟩ := hend.ex
  obtain ⟨m, hm⟩ := hns
  refine ⟨m, hm, fun h' hsb => ?_⟩
  obtain ⟨R₅, E₅⟩ := R₁.letgo hLs R' E' ⟨m, hm⟩ hbL hfL hsb
  exact ⟨_, _, f', hq, by rw [← hD]; exact .ref hlt, R₅, E₁.trans E₅⟩

end
end Mine

namespace Mine

section
variable {C : Cx} {lv : Lv} {env : Env} {σ : St}

theorem IterSpec.walks {I : Addr} {l : List PV} {P : Nat → Value → Prop} {St' : Nat → Heap → Prop} {f₁ : Nat → Addr} {n₁ : Nat} (hW : ∀ A : Around, A.handled = none → Walks C.prog C.w A I [I] [I] l.length P St')
    (hitem : ∀ (i : Nat) (v : Value) (p : PV), P i v → l[i]? = some p → ∀ f n h, Rep f n h v p) (hobj : ∀ k h, St' k h → ∃ o, h.get? I = some o ∧ o.cls ≠ .type "tuple" ∧ isF o.data = true ∧ plainIter o.cls = true) (hn : lv.hn = true) : IterSpec C lv f₁ n₁ I l (fun _ => True) St' where
  stable k h h' st hk := (hW {} rfl).frame k h h' st fun b hb o e => by rw [List.mem_singleton.mp hb] at e ⊢; exact hk o e
  obj := hobj
  self A s k Q E hA st h := (hW A (hA.handled hn)).self k s Q E st h
  next env A f σ s k p Q E hA R _ st _ hp h := by
    have hk : k < l.length := (List.getElem?_eq_some_iff.mp hp).1
    refine wp_grow ((hW A (hA.handled hn)).item k s _ _ hk st fun v h' tk hP st' hkeep hs ht => ?_)
    exact h v _ st' (hitem k v p hP hp _ _ _) (fun b o hb e => hkeep b o (by simpa using hb) e) hs rfl rfl ht
  stop env A f σ s Q E hA _ R _ st _ h := by
    refine wp_grow ((hW A (hA.handled hn)).done s _ _ st fun h' tk hkeep hs ht => ?_)
    exact h _ (fun b o hb e => hkeep b o (by simpa using hb) e) hs rfl rfl ht

def signs (x : Str) : List PV := x.cps.toList.map fun c => .str ⟨#[c]⟩

theorem it_str {x : Str} (hn : lv.hn = true) : Iterable C lv env (.str x) (signs x) (fun _ => True) σ := by
  intro A f s v Q E hA R hv h
  cases hv
  refine wpAny_pyIter_strU ?_
  have hlen : (signs x).length = x.cps.size := by simp [signs]
  have hsign : ∀ (i : Nat) (v : Value) (p : PV), SignAt x i v → (signs x)[i]? = some p → ∀ f n h, Rep f n h v p := by
    rintro i v p ⟨c, u, hc, rfl⟩ hp f n h
    simp only [signs, List.getElem?_map] at hp
    rw [Array.getElem?_toList, hc] at hp
    cases hp; exact .str _ _
  unfold strIterType
  cases ha : x.cps.all (· < 128)
  · refine h _ (fun i h => h.IsStrIter s.heap.objs.size "str_iterator" x _ i) _ (IterSpec.walks (fun A hA => by rw [hlen]; exact Walks.strWide hA _ x _) hsign (fun k h ⟨o, e, hc, hd⟩ => ⟨o, e, by rw [hc]; simp, by rw [hd]; rfl, by rw [hc]; decide +kernel⟩) hn) ⟨_, Heap.get?_push_size _ rfl, rfl, rfl⟩ (Nat.le_refl _) (fun b o e => Heap.get?_push_of_some _ e) (by rw [Heap.size_push]; omega) rfl rfl (Nat.le_refl _)
  · refine h _ (fun i h => h.IsStrIter s.heap.objs.size "str_ascii_iterator" x _ i) _ (IterSpec.walks (fun A hA => by rw [hlen]; exact Walks.strAscii hA _ x _) hsign (fun k h ⟨o, e, hc, hd⟩ => ⟨o, e, by rw [hc]; simp, by rw [hd]; rfl, by rw [hc]; decide +kernel⟩) hn) ⟨_, Heap.get?_push_size _ rfl, rfl, rfl⟩ (Nat.le_refl _) (fun b o e => Heap.get?_push_of_some _ e) (by rw [Heap.size_push]; omega) rfl rfl (Nat.le_refl _)

theorem it_list {i : Nat} {l : List PV} (hn : lv.hn = true) (hi : σ.hp i = some (.list l)) : Iterable C lv env (.ref i) l (fun σ' => σ'.hp i = some (.list l)) σ := by
  intro A f s v Q E hA R hv h
  cases hv with
  | ref hlt =>
    obtain ⟨_, vs, k, hget, hvs⟩ := R.objs i _ hi
    have hL : s.heap.IsList (f i) vs.toArray := ⟨_, hget, rfl, _, rfl⟩
    have hne : f i ≠ s.heap.objs.size := Nat.ne_of_lt (Heap.lt_size hget)
    refine wpAny_pyIter_list hL ?_
    refine h s.heap.objs.size (fun k h => h.IsListIter s.heap.objs.size (f i) k) _ ?_ ⟨_, Heap.get?_push_size _ rfl, rfl, rfl⟩ (Nat.le_refl _) (fun b o e => Heap.get?_push_of_some _ e) (by rw [Heap.size_push]; omega) rfl rfl (Nat.le_refl _)
    refine ⟨fun k h h' x hk => x.at hk, fun k h ⟨o, e, hc, hd⟩ => ⟨o, e, by rw [hc]; simp, by rw [hd]; rfl, by rw [hc]; decide +kernel⟩, fun A s k Q E hA st hq => wpAny_pyIter_listiter st hq, ?_, ?_⟩
    · intro env' A' f' σ' s' k p Q' E' hA' R' hag st hok hp hq
      obtain ⟨_, vs', k', hget', hvs'⟩ := R'.objs i _ hok
      obtain ⟨w, hw, hrep⟩ := hvs'.get hp
      rw [(hag i hlt).2] at hget'
      refine wp_grow (wpAny_pyNext_list_item st ⟨_, hget', rfl, _, rfl⟩ (x := w) (by simpa using hw) fun h' st' hsb hs ht => ?_)
      refine hq w _ st' (hrep.mono (fun _ _ => rfl) (Nat.le_refl _) fun a ws ⟨o₁, e₁, c₁, r₁⟩ => ⟨o₁, (hsb.2 a fun q => ?_).trans e₁, c₁, r₁⟩) (fun b o hb e => (hsb.2 b hb).trans e) hs rfl rfl ht
      obtain ⟨oI, eI, cI, _⟩ := st
      rw [q, eI] at e₁; cases e₁; rw [cI] at c₁; simp at c₁
    · intro env' A' f' σ' s' Q' E' hA' _ R' hag st hok hq
      obtain ⟨_, vs', k', hget', hvs'⟩ := R'.objs i _ hok
      rw [(hag i hlt).2] at hget'
      refine wp_grow (wpAny_pyNext_list_end (hA'.handled hn) st ⟨_, hget', rfl, _, rfl⟩ (by simp [hvs'.length]) fun h' hext hs ht => ?_)
      exact hq _ (fun b o hb e => hext b o hb e) hs rfl rfl ht
end
end Mine

namespace Mine

section
variable {C : Cx} {lv : Lv} {env : Env} {σ : St} {X : String → List PV → St → Prop}

theorem o_add_int {a b : Int} {Q : PV → St → Prop} (h : Q (.int (a + b)) σ) : Op2 C lv env Rep (binaryOp .Add) (.int a) (.int b) σ Q X := by
  refine ⟨fun A f s v w hA R hv hw => ?_⟩; (first | obtain ⟨_, rfl⟩ := Rep.intI hv | obtain ⟨_, rfl⟩ := Rep.strI hv | obtain rfl := Rep.boolI hv | obtain rfl := Rep.noneI hv | obtain rfl := Rep.objI hv); (first | obtain ⟨_, rfl⟩ := Rep.intI hw | obtain ⟨_, rfl⟩ := Rep.strI hw | obtain rfl := Rep.boolI hw | obtain rfl := Rep.noneI hw | obtain rfl := Rep.objI hw)
  exact P.add_int (Post.here R h (.int _ _) (Nat.le_succ _))
theorem o_mod_int {a b : Int} {Q : PV → St → Prop} (hb : b ≠ 0) (h : Q (.int (a.fmod b)) σ) : Op2 C lv env Rep (binaryOp .Mod) (.int a) (.int b) σ Q X := by
  refine ⟨fun A f s v w hA R hv hw => ?_⟩; (first | obtain ⟨_, rfl⟩ := Rep.intI hv | obtain ⟨_, rfl⟩ := Rep.strI hv | obtain rfl := Rep.boolI hv | obtain rfl := Rep.noneI hv | obtain rfl := Rep.objI hv); (first | obtain ⟨_, rfl⟩ := Rep.intI hw | obtain ⟨_, rfl⟩ := Rep.strI hw | obtain rfl := Rep.boolI hw | obtain rfl := Rep.noneI hw | obtain rfl := Rep.objI hw)
  exact mod_int' hb (Post.here R h (.int _ _) (Nat.le_succ _))
theorem o_div_int {a b : Int} {Q : PV → St → Prop} (hb : b ≠ 0) (hs : b.natAbs < 1073741824) (h : Q (.int (a.fdiv b)) σ) : Op2 C lv env Rep (binaryOp .FloorDiv) (.int a) (.int b) σ Q X := by
  refine ⟨fun A f s v w hA R hv hw => ?_⟩; (first | obtain ⟨_, rfl⟩ := Rep.intI hv | obtain ⟨_, rfl⟩ := Rep.strI hv | obtain rfl := Rep.boolI hv | obtain rfl := Rep.noneI hv | obtain rfl := Rep.objI hv); (first | obtain ⟨_, rfl⟩ := Rep.intI hw | obtain ⟨_, rfl⟩ := Rep.strI hw | obtain rfl := Rep.boolI hw | obtain rfl := Rep.noneI hw | obtain rfl := Rep.objI hw)
  exact floordiv_int hb (Post.here R h (.int _ _) (Nat.le_succ _)) (Or.inl (PyProof.noPylong_small hs))
theorem o_eq_int {a b : Int} {Q : PV → St → Prop} (h : Q (.bool (a == b)) σ) : Op2 C lv env Rep (compareOp .Eq) (.int a) (.int b) σ Q X := by
  refine ⟨fun A f s v w hA R hv hw => ?_⟩; (first | obtain ⟨_, rfl⟩ := Rep.intI hv | obtain ⟨_, rfl⟩ := Rep.strI hv | obtain rfl := Rep.boolI hv | obtain rfl := Rep.noneI hv | obtain rfl := Rep.objI hv); (first | obtain ⟨_, rfl⟩ := Rep.intI hw | obtain ⟨_, rfl⟩ := Rep.strI hw | obtain rfl := Rep.boolI hw | obtain rfl := Rep.noneI hw | obtain rfl := Rep.objI hw)
  exact P.eq_int (Post.now R h (.bool _))
theorem o_lt_int {a b : Int} {Q : PV → St → Prop} (h : Q (.bool (decide (a < b))) σ) : Op2 C lv env Rep (compareOp .Lt) (.int a) (.int b) σ Q X := by
  refine ⟨fun A f s v w hA R hv hw => ?_⟩; (first | obtain ⟨_, rfl⟩ := Rep.intI hv | obtain ⟨_, rfl⟩ := Rep.strI hv | obtain rfl := Rep.boolI hv | obtain rfl := Rep.noneI hv | obtain rfl := Rep.objI hv); (first | obtain ⟨_, rfl⟩ := Rep.intI hw | obtain ⟨_, rfl⟩ := Rep.strI hw | obtain rfl := Rep.boolI hw | obtain rfl := Rep.noneI hw | obtain rfl := Rep.objI hw)
  exact P.lt_int (Post.now R h (.bool _))
theorem tr_bool {b : Bool} {Q : Bool → St → Prop} (h : Q b σ) : Op1 C lv env repB truthy (.bool b) σ Q X := by
  refine ⟨fun A f s v hA R hv => ?_⟩; (first | obtain ⟨_, rfl⟩ := Rep.intI hv | obtain ⟨_, rfl⟩ := Rep.strI hv | obtain rfl := Rep.boolI hv | obtain rfl := Rep.noneI hv | obtain rfl := Rep.objI hv)
  exact wpAny_truthy_bool (Post.now R h rfl)
theorem tr_none {Q : Bool → St → Prop} (h : Q false σ) : Op1 C lv env repB truthy .none σ Q X := by
  refine ⟨fun A f s v hA R hv => ?_⟩; (first | obtain ⟨_, rfl⟩ := Rep.intI hv | obtain ⟨_, rfl⟩ := Rep.strI hv | obtain rfl := Rep.boolI hv | obtain rfl := Rep.noneI hv | obtain rfl := Rep.objI hv)
  exact truthy_none (Post.now R h rfl)
def PV.isNone : PV → Bool
  | .none => true
  | _ => false
theorem rep_none {f : Nat → Addr} {n : Nat} {h : Heap} {v : Value} {p : PV} (r : Rep f n h v p) (hp : ∀ w, p ≠ .obj w) : (v == .none) = p.isNone := by
  cases r <;> first | rfl | exact absurd rfl (hp _)
theorem o_isnot_none {p : PV} {Q : PV → St → Prop} (hp : ∀ w, p ≠ .obj w) (h : Q (.bool (!p.isNone)) σ) : Op2 C lv env Rep (compareOp .IsNot) p .none σ Q X := by
  refine ⟨fun A f s v w hA R hv hw => ?_⟩; cases hw
  refine isNot_none ?_
  rw [rep_none hv hp]; exact Post.now R h (.bool _)

theorem o_ne_str {x y : Str} {Q : PV → St → Prop} (h : Q (.bool (x != y)) σ) : Op2 C lv env Rep (compareOp .NotEq) (.str x) (.str y) σ Q X := by
  refine ⟨fun A f s v w hA R hv hw => ?_⟩; (first | obtain ⟨_, rfl⟩ := Rep.intI hv | obtain ⟨_, rfl⟩ := Rep.strI hv | obtain rfl := Rep.boolI hv | obtain rfl := Rep.noneI hv | obtain rfl := Rep.objI hv); (first | obtain ⟨_, rfl⟩ := Rep.intI hw | obtain ⟨_, rfl⟩ := Rep.strI hw | obtain rfl := Rep.boolI hw | obtain rfl := Rep.noneI hw | obtain rfl := Rep.objI hw)
  exact ne_str (Post.now R h (.bool _))
theorem o_add_str {x y : Str} {Q : PV → St → Prop} (hl : x.length + y.length ≤ 16777216) (h : Q (.str (x ++ y)) σ) : Op2 C lv env Rep (binaryOp .Add) (.str x) (.str y) σ Q X := by
  refine ⟨fun A f s v w hA R hv hw => ?_⟩; (first | obtain ⟨_, rfl⟩ := Rep.intI hv | obtain ⟨_, rfl⟩ := Rep.strI hv | obtain rfl := Rep.boolI hv | obtain rfl := Rep.noneI hv | obtain rfl := Rep.objI hv); (first | obtain ⟨_, rfl⟩ := Rep.intI hw | obtain ⟨_, rfl⟩ := Rep.strI hw | obtain rfl := Rep.boolI hw | obtain rfl := Rep.noneI hw | obtain rfl := Rep.objI hw)
  exact wp_toks (add_str (fun t' tk ht => Post.here R h (.str _ _) ht) (by rw [sizeLine_eq]; exact hl))
theorem o_notin_str {x : Str} {c : Nat} {Q : PV → St → Prop} (h : Q (.bool (!decide (c ∈ x.cps.toList))) σ) : Op2 C lv env Rep (compareOp .NotIn) (.str ⟨#[c]⟩) (.str x) σ Q X := by
  refine ⟨fun A f s v w hA R hv hw => ?_⟩; (first | obtain ⟨_, rfl⟩ := Rep.intI hv | obtain ⟨_, rfl⟩ := Rep.strI hv | obtain rfl := Rep.boolI hv | obtain rfl := Rep.noneI hv | obtain rfl := Rep.objI hv); (first | obtain ⟨_, rfl⟩ := Rep.intI hw | obtain ⟨_, rfl⟩ := Rep.strI hw | obtain rfl := Rep.boolI hw | obtain rfl := Rep.noneI hw | obtain rfl := Rep.objI hw)
  refine notIn_str ?_
  rw [StrLaws.found_one]; exact Post.now R h (.bool _)

theorem c_len_list {i : Nat} {l : List PV} {Q : PV → St → Prop} (hi : σ.hp i = some (.list l)) (hl : l.length ≤ 16777216) (h : Q (.int l.length) σ) : ACall C lv env (.builtin "len") [.ref i] [] σ Q X := by
  refine ⟨fun A f s vs ks hA R hv hk => ?_⟩
  cases hk
  cases hv with
  | cons hv hr =>
    cases hr
    cases hv with
    | ref hlt =>
      obtain ⟨_, vs, k, hget, hvs⟩ := R.objs i _ hi
      refine len_list ⟨_, hget, rfl, _, rfl⟩ (by rw [List.size_toArray, hvs.length]; omega) ?_
      rw [List.size_toArray, hvs.length]
      exact Post.here R h (.int _ _) (by omega)
theorem c_chr {a : Int} {Q : PV → St → Prop} (h0 : 0 ≤ a) (h1 : a ≤ 1114111) (h : Q (.str ⟨#[a.toNat]⟩) σ) : ACall C lv env (.builtin "chr") [.int a] [] σ Q X := by
  refine ⟨fun A f s vs ks hA R hv hk => ?_⟩
  cases hk
  cases hv with | cons hv hr => cases hr; cases hv; exact chr_of_range h0 h1 (Post.here R h (.str _ _) (by omega))
theorem c_ord {c : Nat} {Q : PV → St → Prop} (h : Q (.int c) σ) : ACall C lv env (.builtin "ord") [.str ⟨#[c]⟩] [] σ Q X := by
  refine ⟨fun A f s vs ks hA R hv hk => ?_⟩
  cases hk
  cases hv with | cons hv hr => cases hr; cases hv; exact P.ord_of_char (Post.here R h (.int _ _) (by omega))
theorem c_range1 {a : Int} {Q : PV → St → Prop} (h : Q (.ref σ.n) (σ.alloc (.range 0 a))) : ACall C lv env (.type "range") [.int a] [] σ Q X := by
  refine ⟨fun A f s vs ks hA R hv hk => ?_⟩
  cases hk
  cases hv with
  | cons hv hr =>
    cases hr; cases hv
    refine call_range_1 ?_
    obtain ⟨R', E'⟩ := R.alloc (s' := { s with heap := s.heap.push { cls := .type "range", data := .fields #[.int 0 s.toks, .int a _, .int 1 (s.toks + 1)] }, toks := s.toks + 1 + 1 }) (ao := .range 0 a) (fun b o e => Heap.get?_push_of_some _ e) (by show _ ≤ (s.heap.push _).objs.size; rw [Heap.size_push]; omega) (Nat.le_refl _) (Heap.get?_push_size _ rfl) (by simp) rfl rfl (by show s.toks ≤ s.toks + 1 + 1; omega)
      ⟨_, _, _, Heap.get?_push_size _ rfl⟩
    refine ⟨_, _, _, h, ?_, R', E'⟩
    have : (fun i => if i = σ.n then s.heap.objs.size else f i) σ.n = s.heap.objs.size := if_pos rfl
    rw [show Value.ref s.heap.objs.size = Value.ref ((fun i => if i = σ.n then s.heap.objs.size else f i) σ.n) from by rw [this]]
    exact .ref (Nat.lt_succ_self _)

def intsFrom (a : Int) (n : Nat) : List PV := (List.range n).map fun i : Nat => .int (a + (i : Int))
theorem it_range {i : Nat} {a b : Int} (hn : lv.hn = true) (hi : σ.hp i = some (.range a b)) (hs : Builtin.Range.small a b 1 = true) (hab : a ≤ b) : Iterable C lv env (.ref i) (intsFrom a (b - a).toNat) (fun _ => True) σ := by
  intro A f s v Q E hA R hv h
  cases hv with
  | ref hlt =>
    obtain ⟨_, t, u, w, hr⟩ := R.objs i _ hi
    refine wpAny_pyIter_range hr hs ?_
    have hsz : Builtin.Range.rangeSize a b 1 = (((b - a).toNat : Nat) : Int) := by
      unfold Builtin.Range.rangeSize
      rw [if_pos (by decide)]
      split
      · rw [Int.ediv_one]; omega
      · omega
    have hlen : (intsFrom a (b - a).toNat).length = (b - a).toNat := by simp [intsFrom]
    refine h s.heap.objs.size (fun i h => IsRangeIter h s.heap.objs.size (a + (i : Nat) * 1) (((b - a).toNat : Int) - (i : Nat)) 1) _ (IterSpec.walks (fun A hA => by rw [hlen]; exact Walks.range hA _ a 1 _) ?_ (fun k h e => ⟨_, e, by simp, rfl, show plainIter (.type "range_iterator") = true from by decide +kernel⟩) hn) ?_ (Nat.le_refl _) (fun b o e => Heap.get?_push_of_some _ e) (by rw [Heap.size_push]; omega) rfl rfl (Nat.le_refl _)
    · rintro i v p ⟨t', rfl⟩ hp f n h
      simp only [intsFrom, List.getElem?_map] at hp
      cases hq : (List.range (b - a).toNat)[i]? with
      | none => rw [hq] at hp; cases hp
      | some j =>
        rw [hq] at hp
        have : j = i := by
          obtain ⟨hlt, e⟩ := List.getElem?_eq_some_iff.mp hq
          simp at e; exact e.symm
        subst this
        cases hp
        rw [show a + (j : Int) * 1 = a + (j : Int) from by omega]
        exact .int _ _
    · show IsRangeIter _ _ _ _ _
      rw [hsz]
      simp only [Int.natCast_zero, Int.zero_mul, Int.add_zero, Int.sub_zero]
      exact Heap.get?_push_size _ rfl
end
end Mine

namespace Mine

section
variable {C : Cx} {lv : Lv} {env : Env} {σ : St} {X : String → List PV → St → Prop}

theorem rep_new {f : Nat → Addr} {n : Nat} {h : Heap} {a : Addr} : Rep (fun i => if i = n then a else f i) (n + 1) h (.ref a) (.ref n) := by
  have h2 := Rep.ref (f := fun i => if i = n then a else f i) (n := n + 1) (h := h) (i := n) (Nat.lt_succ_self _)
  simp only [if_true] at h2; exact h2

theorem new_list {fs : List Env} {f : Nat → Addr} {s : Shared} {vs : List Value} {ps : List PV} {Q : PV → St → Prop} (R : Rel C fs env f σ s) (hvs : RepL f σ.n s.heap vs ps) (h : Q (.ref σ.n) (σ.alloc (.list ps))) :
    Post C fs env Rep Q f σ s (.ref s.heap.objs.size) { s with heap := s.heap.push { cls := .type "list", data := .seq vs.toArray } } := by
  have hf : ∀ i, i < σ.n → (fun i => if i = σ.n then s.heap.objs.size else f i) i = f i := fun i hi => if_neg (Nat.ne_of_lt hi)
  have ht : ∀ a ws, s.heap.IsTuple a ws → (s.heap.push { cls := .type "list", data := .seq vs.toArray }).IsTuple a ws := fun a ws ⟨o, e, r⟩ => ⟨o, Heap.get?_push_of_some _ e, r⟩
  obtain ⟨R', E'⟩ := R.alloc (s' := { s with heap := s.heap.push { cls := .type "list", data := .seq vs.toArray } }) (ao := .list ps) (fun b o e => Heap.get?_push_of_some _ e) (by show _ ≤ (s.heap.push _).objs.size; rw [Heap.size_push]; omega) (Nat.le_refl _) (Heap.get?_push_size _ rfl) (by simp) rfl rfl (Nat.le_refl _)
    ⟨vs, 0, Heap.get?_push_size _ rfl, hvs.mono hf (Nat.le_succ _) ht⟩
  exact ⟨_, _, _, h, rep_new, R', E'⟩

theorem e_list {elts : List Expr} {pos : Pos} {Q : PV → St → Prop} (h : AL C lv env elts pos σ (fun ps σ₁ => ps.length ≤ 16777216 ∧ Q (.ref σ₁.n) (σ₁.alloc (.list ps))) X) : AE C lv env (.List elts pos) σ Q X :=
  ⟨fun A f s hA R => wpAny_List (h.use hA R (fun vs ps σ₁ f₁ s₁ h₁ hvs R₁ E₁ => ⟨by rw [hvs.length, sizeLine_eq]; exact h₁.1, Post.trans E₁ (new_list R₁ hvs h₁.2)⟩) fun _ _ x => x)⟩
theorem e_tuple {elts : List Expr} {k : Nat} {pos : Pos} {Q : PV → St → Prop} (h : AL C lv env elts pos σ (fun ps σ₁ => ps.length ≤ 16777216 ∧ Q (.tup ps) σ₁) X) : AE C lv env (.Tuple elts k pos) σ Q X :=
  ⟨fun A f s hA R => wpAny_Tuple (h.use hA R (fun vs ps σ₁ f₁ s₁ h₁ hvs R₁ E₁ => ⟨by rw [hvs.length, sizeLine_eq]; exact h₁.1, Post.trans E₁ (Post.grown R₁ (fun b o e => Heap.get?_push_of_some _ e) (by show _ ≤ (s₁.heap.push _).objs.size; rw [Heap.size_push]; omega) rfl rfl (Nat.le_refl _) h₁.2
    (.tup (vs := vs) ⟨_, Heap.get?_push_size _ rfl, rfl, _, rfl⟩ (hvs.mono (fun _ _ => rfl) (Nat.le_refl _) fun a ws ⟨o, e, r⟩ => ⟨o, Heap.get?_push_of_some _ e, r⟩)))⟩) fun _ _ x => x)⟩

theorem e_sub {value slice : Expr} {pos : Pos} {Q : PV → St → Prop} (h : AE C lv env value σ (fun a σ₁ => AE C lv env slice σ₁ (fun b σ₂ => Op2 C lv env Rep (subscriptTail value slice) a b σ₂ Q X) X) X) : AE C lv env (.Subscript value slice pos) σ Q X :=
  ⟨fun A f s hA R => Subscript_ (h.use hA R (fun va a σ₁ f₁ s₁ h₁ ra R₁ E₁ => h₁.use hA R₁ (fun vb b σ₂ f₂ s₂ h₂ rb R₂ E₂ =>
    wpAny_mono (h₂.run A f₂ s₂ va vb hA R₂ (ra.ext R₁ E₂) rb) (fun _ _ x => Post.trans (E₁.trans E₂) x) fun _ _ x => PostX.trans (E₁.trans E₂) x) fun _ _ x => PostX.trans E₁ x) fun _ _ x => x)⟩

theorem o_sub_str {value slice : Expr} {x : Str} {i : Int} {c : Nat} {Q : PV → St → Prop} (h0 : 0 ≤ i) (h1 : i < 16777216) (hc : x.cps[i.toNat]? = some c) (h : Q (.str ⟨#[c]⟩) σ)
    (hs : ∀ o i, subscripted slice false o i = operate [o, i] (getItem o i) := by intro _ _; rfl) : Op2 C lv env Rep (subscriptTail value slice) (.str x) (.int i) σ Q X := by
  refine ⟨fun A f s v w hA R hv hw => ?_⟩; (first | obtain ⟨_, rfl⟩ := Rep.intI hv | obtain ⟨_, rfl⟩ := Rep.strI hv | obtain rfl := Rep.boolI hv | obtain rfl := Rep.noneI hv | obtain rfl := Rep.objI hv); (first | obtain ⟨_, rfl⟩ := Rep.intI hw | obtain ⟨_, rfl⟩ := Rep.strI hw | obtain rfl := Rep.boolI hw | obtain rfl := Rep.noneI hw | obtain rfl := Rep.objI hw)
  have hlt : i < x.length := by
    have := (Array.getElem?_eq_some_iff.mp hc).1
    show i < (x.cps.size : Int); omega
  refine tail_any (typeIs_str _ _ _) slot_str_getitem.lookup (getItem_str (c := c) (by simp; omega) (by rw [seqIndex_of h0 hlt]; exact hc) (Post.here R h (.str _ _) (Nat.le_succ _))) (hs _ _)
theorem o_sub_list {value slice : Expr} {j : Nat} {l : List PV} {i : Int} {p : PV} {Q : PV → St → Prop} (hj : σ.hp j = some (.list l)) (h0 : 0 ≤ i) (h1 : i < 16777216) (hp : l[i.toNat]? = some p) (h : Q p σ)
    (hs : ∀ o i, subscripted slice false o i = operate [o, i] (getItem o i) := by intro _ _; rfl) : Op2 C lv env Rep (subscriptTail value slice) (.ref j) (.int i) σ Q X := by
  refine ⟨fun A f s v w hA R hv hw => ?_⟩; cases hw
  cases hv with
  | ref hlt =>
    obtain ⟨_, vs, k, hget, hvs⟩ := R.objs j _ hj
    obtain ⟨w, hw, hr⟩ := hvs.get hp
    have hL : s.heap.IsList (f j) vs.toArray := ⟨_, hget, rfl, _, rfl⟩
    exact tail_any hL.typeIs slot_list_getitem.lookup (wpAny_getItem_list (x := w) hL h0 (by omega) (by simpa using hw) (Post.now R h hr)) (hs _ _)
theorem o_sub_tup {value slice : Expr} {l : List PV} {i : Int} {p : PV} {Q : PV → St → Prop} (h0 : 0 ≤ i) (h1 : i < 16777216) (hp : l[i.toNat]? = some p) (h : Q p σ)
    (hs : ∀ o i, subscripted slice false o i = operate [o, i] (getItem o i) := by intro _ _; rfl) : Op2 C lv env Rep (subscriptTail value slice) (.tup l) (.int i) σ Q X := by
  refine ⟨fun A f s v w hA R hv hw => ?_⟩; cases hw
  cases hv with
  | tup ht hvs =>
    obtain ⟨w, hw, hr⟩ := hvs.get hp
    have hlt : i < l.length := by have := (List.getElem?_eq_some_iff.mp hp).1; omega
    exact item_tupleT ht (by omega) (by omega) (seqIndex_of h0 (by rw [hvs.length]; exact hlt)) hw (Post.now R h hr) (hs _ _)

abbrev AP (C : Cx) (lv : Lv) (env : Env) (e : Option Expr) (σ : St) (Q : PV → St → Prop) (X : String → List PV → St → Prop) : Prop := AW C lv env Rep (evalPart e env) σ Q X
theorem ap_none {Q : PV → St → Prop} (h : Q .none σ) : AP C lv env none σ Q X := ⟨fun A f s hA R => wpAny_pure (Post.now R h .none)⟩
structure ASl (C : Cx) (lv : Lv) (env : Env) (o lo hi : PV) (σ : St) (Q : PV → St → Prop) (X : String → List PV → St → Prop) : Prop where
  run : ∀ A f s vo vl vh, OkA lv A → Rel C lv.fs env f σ s → Rep f σ.n s.heap vo o → Rep f σ.n s.heap vl lo → Rep f σ.n s.heap vh hi → (∃ T id, typeLookup (.type T) "__getitem__" = pure (some (.builtin id)) ∧ s.TypeIs vo T) ∧
    wpAny C.M A (getItem vo (.ref s.heap.objs.size)) (Post C lv.fs env Rep Q f σ s) (PostX C lv.fs env X f σ s) { s with heap := s.heap.push { cls := .type "slice", data := .fields #[vl, vh, .none] } }

theorem typeIs_push {s : Shared} {v : Value} {T : String} {o : Obj} (h : s.TypeIs v T) : Shared.TypeIs { s with heap := s.heap.push o } v T := by
  cases v <;> first | exact h | (obtain ⟨o', e, c⟩ := h; exact ⟨o', Heap.get?_push_of_some _ e, c⟩)

theorem e_slice {value : Expr} {lower upper : Option Expr} {p pos : Pos} {Q : PV → St → Prop} (h : AE C lv env value σ (fun o σ₁ => AP C lv env lower σ₁ (fun lo σ₂ => AP C lv env upper σ₂ (fun hi σ₃ => ASl C lv env o lo hi σ₃ Q X) X) X) X) :
    AE C lv env (.Subscript value (.Slice lower upper none p) pos) σ Q X := by
  refine ⟨fun A f s hA R => ?_⟩
  refine Subscript_ (h.use hA R (fun vo o σ₁ f₁ s₁ h₁ ro R₁ E₁ => ?_) fun _ _ x => x)
  refine wpAny_Slice (h₁.use hA R₁ (fun vl lo σ₂ f₂ s₂ h₂ rl R₂ E₂ => ?_) fun _ _ x => PostX.trans E₁ x)
  refine h₂.use hA R₂ (fun vh hi σ₃ f₃ s₃ h₃ rh R₃ E₃ => ?_) fun _ _ x => PostX.trans (E₁.trans E₂) x
  rw [evalPart_none]
  refine wpAny_pure ?_
  obtain ⟨⟨T, id, hl, hT⟩, hg⟩ := h₃.run A f₃ s₃ vo vl vh hA R₃ ((ro.ext R₁ E₂).ext R₂ E₃) (rl.ext R₂ E₃) rh
  exact tail_any (ops := [.ref s₃.heap.objs.size, vo]) (typeIs_push hT) hl (wpAny_mono hg (fun _ _ x => Post.trans ((E₁.trans E₂).trans E₃) x) fun _ _ x => PostX.trans ((E₁.trans E₂).trans E₃) x) rfl

inductive Bnd : PV → Option Int → Prop
  | none : Bnd .none none
  | int (i : Int) : Bnd (.int i) (some i)
def cut {α : Type} (l : List α) (lo hi : Option Int) : List α := (l.drop (lo.elim 0 (clipAt l.length))).take (hi.elim l.length (clipAt l.length) - lo.elim 0 (clipAt l.length))

theorem sl_list {j : Nat} {l : List PV} {lo hi : PV} {a b : Option Int} {Q : PV → St → Prop} (hj : σ.hp j = some (.list l)) (ha : Bnd lo a) (hb : Bnd hi b) (hl : l.length ≤ 16777216) (h : Q (.ref σ.n) (σ.alloc (.list (cut l a b)))) : ASl C lv env (.ref j) lo hi σ Q X := by
  refine ⟨fun A f s vo vl vh hA R ro rl rh => ?_⟩
  cases ro with
  | ref hlt =>
    obtain ⟨_, vs, k, hget, hvs⟩ := R.objs j _ hj
    have hL : s.heap.IsList (f j) vs.toArray := ⟨_, hget, rfl, _, rfl⟩
    refine ⟨⟨"list", _, list_getitem_lookup, hL.typeIs⟩, ?_⟩
    have hpl : IsPart vl a := by cases ha <;> cases rl <;> constructor
    have hph : IsPart vh b := by cases hb <;> cases rh <;> constructor
    have hk : ∀ b o, s.heap.get? b = some o → (s.heap.push { cls := .type "slice", data := .fields #[vl, vh, .none] }).get? b = some o := fun b o e => Heap.get?_push_of_some _ e
    have R' := R.keeps (s' := { s with heap := s.heap.push { cls := .type "slice", data := .fields #[vl, vh, .none] } }) hk rfl rfl (Nat.le_refl _)
    have E' : Ext env f σ s f σ { s with heap := s.heap.push { cls := .type "slice", data := .fields #[vl, vh, .none] } } := .keeps hk (by show _ ≤ (s.heap.push _).objs.size; rw [Heap.size_push]; omega)
    refine wpAny_getItem_list_slice (hL.push _) (Heap.IsSliceOf.new ..) hpl hph .none (by simp) ?_ (by rw [List.size_toArray, hvs.length, sizeLine_eq]; exact hl)
    rw [slicePick_plain]
    have hc : RepL f σ.n s.heap ((vs.toArray.toList.drop (a.elim 0 (clipAt vs.toArray.size))).take (b.elim vs.toArray.size (clipAt vs.toArray.size) - a.elim 0 (clipAt vs.toArray.size))) (cut l a b) := by
      have e : vs.toArray.size = l.length := by simp [hvs.length]
      rw [e]
      exact (hvs.drop _).take _
    exact Post.trans E' (new_list R' (hc.mono (fun _ _ => rfl) (Nat.le_refl _) fun a ws ⟨o, e, r⟩ => ⟨o, hk _ _ e, r⟩) h)

end
end Mine

namespace Mine
theorem pa_pat : PlainAttrs "re.Pattern" := ⟨⟨"object.__getattribute__", by rw [typeLookup_type, builtinLookup_eq_fast]; kernel_rfl, by decide +kernel⟩, by rw [typeLookup_type, builtinLookup_eq_fast]; kernel_rfl⟩
theorem slot_search : Slot "re.Pattern" "search" "re.Pattern.search" :=
  .of (owner := "re.Pattern") (n := "search") (by rw [typeLookup_type, builtinLookup_eq_fast]; kernel_rfl) (by decide +kernel) (by decide +kernel) (by decide +kernel)
    (by first | exact .inl (by decide +kernel) | exact .inr (by decide +kernel)) (by rw [isSubtype_type]; kernel_rfl)
theorem type_search : typeOf (.builtin "re.Pattern.search") = pure (.type "method_descriptor") := by show builtinType _ = _; rw [builtinType_eq_fast]; kernel_rfl
theorem entry_search : entryFor table "re.Pattern.search" = some Builtin.«re.Pattern.search» := entryFor_of_tree (by kernel_rfl)
theorem owner_pat : Manifest.owners.lookup (String.ofList ['n','r','e','t','t','a','P','.','e','r'].reverse) = some Manifest.sig_re_Pattern := by kernel_rfl
theorem args_search (a b : Value) : argsOk "re.Pattern.search" ⟨[a, b], []⟩ := by
  unfold argsOk
  rw [signature?_of (id := "re.Pattern.search") (n := ['h','c','r','a','e','s']) (o := ['n','r','e','t','t','a','P','.','e','r']) (by kernel_rfl) owner_pat]
  kernel_rfl
end Mine

namespace Mine
open PySem.Sre PySem.Builtin.Re

structure SetCode (code : Array Nat) (test : Nat → Bool) : Prop where
  hdr : ∃ b, header code = (1, b) ∧ b ≠ 0 ∧ ops[code.getD b 0]? = some .IN ∧ b < code.size ∧ b + itemWidth code b < code.size ∧ ops[code.getD (b + itemWidth code b) 0]? = some .SUCCESS
    ∧ ∀ c seen, ∃ seen', accepts code b c seen = .ok (test c, seen')
  info : ops[code.getD 0 0]? = some .INFO
  four : code.getD 2 0 = 4
  set : ∀ c seen, ∃ seen', inSet code c code.size 5 true seen = .ok (test c, seen')

theorem admitted_none {code : Array Nat} {test : Nat → Bool} (S : SetCode code test) (m : M) (hm : m.code = code) : ∀ fuel s seen, m.lim ≤ m.text.size → (∀ i, s ≤ i → i < m.lim → test (m.text.getD i 0) = false) →
    ∃ seen', M.admitted m fuel s seen = .ok (none, seen')
  | 0, s, seen, _, _ => ⟨_, rfl⟩
  | fuel + 1, s, seen, hl, h => by
    unfold M.admitted
    by_cases hs : s ≥ m.lim
    · rw [if_pos hs]; exact ⟨_, rfl⟩
    · rw [if_neg hs, hm]
      obtain ⟨seen', h'⟩ := S.set (m.text.getD s 0) seen
      rw [h', h s (Nat.le_refl _) (by omega)]
      exact admitted_none S m hm fuel (s + 1) seen' hl fun i h1 h2 => h i (by omega) h2

theorem admitted_some {code : Array Nat} {test : Nat → Bool} (S : SetCode code test) (m : M) (hm : m.code = code) : ∀ fuel s seen, m.lim + 1 ≤ s + fuel → (∃ i, s ≤ i ∧ i < m.lim ∧ test (m.text.getD i 0) = true) →
    ∃ k seen', M.admitted m fuel s seen = .ok (some k, seen') ∧ k < m.lim ∧ test (m.text.getD k 0) = true
  | 0, s, seen, hl, ⟨i, h1, h2, _⟩ => by omega
  | fuel + 1, s, seen, hl, ⟨i, h1, h2, h3⟩ => by
    unfold M.admitted
    rw [if_neg (by omega), hm]
    obtain ⟨seen', h'⟩ := S.set (m.text.getD s 0) seen
    rw [h']
    cases ht : test (m.text.getD s 0)
    · have : s ≠ i := fun e => by subst e; rw [ht] at h3; cases h3
      exact admitted_some S m hm fuel (s + 1) seen' (by omega) ⟨i, by omega, h2, h3⟩
    · exact ⟨s, seen', rfl, by omega, ht⟩

theorem no_run {m : M} (h1 : m.outcome = none) (h2 : m.frames = []) : ((m.say false).runFor 4).outcome = some .failed := by
  have hs : (m.say false).step = { m.say false with outcome := some .failed } := by
    unfold M.step
    rw [if_neg (by show ¬ (m.outcome.isSome = true); rw [h1]; decide)]
    show (match some false, m.frames with | some yes, [] => _ | some yes, f :: rest => _ | none, _ => _) = _
    rw [h2]; rfl
  show (if (m.say false).outcome.isSome then m.say false else M.runFor 3 (m.say false).step).outcome = _
  rw [if_neg (by show ¬ (m.outcome.isSome = true); rw [h1]; decide), hs]
  rfl
theorem first_set {code : Array Nat} {test : Nat → Bool} (S : SetCode code test) {m : M} (hc : m.code = code) : ¬ ((!m.hasFirstSet) = true) := by
  unfold M.hasFirstSet; rw [hc, S.info, S.four]; decide
theorem from_none {code : Array Nat} {test : Nat → Bool} (S : SetCode code test) {m : M} (hc : m.code = code) (hl : m.lim = m.text.size) (h1 : m.outcome = none) (h2 : m.frames = [])
    (h : ∀ i, i < m.text.size → test (m.text.getD i 0) = false) : ((m.attemptFrom 0 true).runFor 4).outcome = some .failed := by
  unfold M.attemptFrom
  rw [if_neg (first_set S hc)]
  obtain ⟨seen', h'⟩ := admitted_none S m hc (m.lim + 1 - 0) 0 m.seen (by omega) fun i _ hi => h i (by omega)
  rw [h']
  exact no_run (m := { m with seen := seen' }) h1 h2
theorem search_none {code : Array Nat} {test : Nat → Bool} (S : SetCode code test) (text : Array Nat) (h : ∀ i, i < text.size → test (text.getD i 0) = false) :
    ((forSearch code text 0 0 text.size false).runFor 4).outcome = some .failed := by
  obtain ⟨b, hb, hb0, _⟩ := S.hdr
  unfold forSearch
  rw [hb]
  by_cases hl : 0 > text.size ∨ text.size - 0 < 1
  · simp only [gt_iff_lt] at hl ⊢
    rw [if_pos (by simpa using hl)]
    exact no_run rfl rfl
  · rw [if_neg (by simpa using hl)]
    exact from_none S rfl rfl rfl rfl h

theorem step_exec {m : M} (h1 : m.outcome = none) (h2 : m.answer = none) (h3 : m.pc < m.code.size) : m.step = m.exec := by
  unfold M.step
  rw [if_neg (by rw [h1]; decide), h2]
  show (if m.pc < m.code.size then m.exec else _) = _
  rw [if_pos h3]
theorem runFor_succ {m : M} {n : Nat} (h1 : m.outcome = none) : m.runFor (n + 1) = m.step.runFor n := by
  show (if m.outcome.isSome then m else M.runFor n m.step) = _
  rw [if_neg (by rw [h1]; decide)]
theorem exec_in {m : M} {seen' : Sre.Seen} (ho : ops[m.word 0]? = some .IN) (hp : m.pos < m.lim) (ha : accepts m.code m.pc (m.text.getD m.pos 0) (m.seen.add (m.word 0)) = .ok (true, seen')) :
    m.exec = { m with seen := seen', pc := m.pc + itemWidth m.code m.pc, pos := m.pos + 1 } := by
  unfold M.exec
  rw [ho]
  show (if m.pos ≥ m.lim then _ else match accepts m.code m.pc (m.text.getD m.pos 0) (m.seen.add (m.word 0)) with | .error why => _ | .ok (false, seen) => _ | .ok (true, seen) => _) = _
  rw [if_neg (by omega), ha]
theorem exec_success {m : M} (ho : ops[m.word 0]? = some .SUCCESS) (hw : m.wholeText = false) (hm : m.mustAdvance = false) : m.exec = { m with seen := m.seen.add (m.word 0), handed := m.pos, answer := some true } := by
  unfold M.exec
  rw [ho]
  show (if (m.outermost && ((m.wholeText && m.pos != m.lim) || (m.mustAdvance && m.pos == m.start))) = true then _ else _) = _
  rw [hw, hm, if_neg (by simp)]
  rfl
theorem from_some {code : Array Nat} {test : Nat → Bool} (S : SetCode code test) {m : M} (hc : m.code = code) (hl : m.lim = m.text.size) (h1 : m.outcome = none) (h2 : m.frames = []) (ha : m.answer = none)
    (hw : m.weight = 0) (hpc : m.pc = (header code).2) (hwt : m.wholeText = false)
    (h : ∃ i, i < m.text.size ∧ test (m.text.getD i 0) = true) : ((m.attemptFrom 0 true).runFor 4).outcome = some .matched := by
  obtain ⟨b, hb, hb0, hin, hlt, hlt2, hsu, hacc⟩ := S.hdr
  unfold M.attemptFrom
  rw [if_neg (first_set S hc)]
  obtain ⟨i, hi, ht⟩ := h
  obtain ⟨k, seen', h', hk, hkt⟩ := admitted_some S m hc (m.lim + 1 - 0) 0 m.seen (by omega) ⟨i, Nat.zero_le _, by omega, ht⟩
  rw [h']
  have e0 : ({ m with mustAdvance := false, seen := seen' }.attemptAt k true : M) = { m with mustAdvance := false, seen := seen', start := k, lastmark := -1, lastindex := -1, frames := [{ wait := .nextStart, pc := b, pos := k, outermost := true }], weight := 1, pc := b, pos := k, handed := k, outermost := true } := by
    unfold M.attemptAt M.attempt
    rw [if_neg (by show ¬ (m.weight + 1 + 0 > 16777216); omega)]
    show ({ m with mustAdvance := false, seen := seen', start := k, lastmark := -1, lastindex := -1, frames := _ :: m.frames, weight := m.weight + 1 + 0, pc := m.pc, pos := k, handed := k, outermost := true } : M) = _
    rw [h2, hw, hpc, hb]
  show (M.runFor 4 ({ m with mustAdvance := false, seen := seen' }.attemptAt k true)).outcome = _
  rw [e0]
  obtain ⟨seen₂, hacc⟩ := hacc (m.text.getD k 0) (seen'.add (code.getD (b + 0) 0))
  rw [hkt] at hacc
  subst hc
  rw [runFor_succ (by exact h1), step_exec (by exact h1) (by exact ha) (by exact hlt), exec_in (seen' := seen₂) (by exact hin) (by exact hk) (by exact hacc)]
  rw [runFor_succ (by exact h1), step_exec (by exact h1) (by exact ha) (by exact hlt2), exec_success (by exact hsu) (by exact hwt) rfl]
  rw [runFor_succ (by exact h1)]
  have e3 : ∀ x : M, x.outcome = none → x.answer = some true → x.frames = [{ wait := .nextStart, pc := b, pos := k, outermost := true }] → (x.step.runFor 1).outcome = some .matched := by
    intro x q1 q2 q3
    have hx : x.step = M.resume { x with answer := none, frames := [], weight := x.weight - (1 + 0), pc := b, pos := k, outermost := true } { wait := .nextStart, pc := b, pos := k, outermost := true } true := by
      unfold M.step
      rw [if_neg (by rw [q1]; decide), q2, q3]
      rfl
    rw [hx]
    have hy : ∀ y : M, M.resume y { wait := .nextStart, pc := b, pos := k, outermost := true } true = y.say true := fun y => rfl
    rw [hy, runFor_succ (by exact q1)]
    unfold M.step
    rw [if_neg (by show ¬ (x.outcome.isSome = true); rw [q1]; decide)]
    rfl
  exact e3 _ h1 rfl rfl
theorem search_some {code : Array Nat} {test : Nat → Bool} (S : SetCode code test) (text : Array Nat) (h : ∃ i, i < text.size ∧ test (text.getD i 0) = true) :
    ((forSearch code text 0 0 text.size false).runFor 4).outcome = some .matched := by
  obtain ⟨b, hb, hb0, _⟩ := S.hdr
  unfold forSearch
  obtain ⟨i, hi, ht⟩ := h
  have hn : ∀ q : Nat × Nat, q.1 = 1 → ¬ ((decide (0 > text.size) || decide (text.size - 0 < q.1)) = true) := by
    intro q hq hh
    rw [hq, Bool.or_eq_true, decide_eq_true_eq, decide_eq_true_eq] at hh
    omega
  rw [if_neg (hn _ (by rw [hb]))]
  exact from_some S rfl rfl rfl rfl rfl rfl rfl rfl ⟨i, hi, ht⟩

def codeN : Array Nat := #[14, 10, 4, 1, 1, 22, 0, 31, 16, 127, 0, 13, 7, 22, 0, 31, 16, 127, 0, 1]
def codeV : Array Nat := #[14, 14, 4, 1, 1, 9, 4294966783, 0, 0, 2147483648, 0, 0, 0, 0, 0, 13, 11, 9, 4294966783, 0, 0, 2147483648, 0, 0, 0, 0, 0, 1]
def testN (c : Nat) : Bool := decide (c ≤ 31) || c == 127
def testV (c : Nat) : Bool := decide (c ≤ 8) || (decide (10 ≤ c) && decide (c ≤ 31)) || c == 127

theorem set9 {code : Array Nat} {test : Nat → Bool} {i : Nat} {fuel : Nat} (hw : code.getD i 0 = 9) (h0 : code.getD (i + 9) 0 = 0) (ht : ∀ c, (decide (c < 256) && (code.getD (i + (1 + c / 32)) 0).testBit (c % 32)) = test c) (c : Nat) (seen : Sre.Seen) :
    ∃ seen', inSet code c (fuel + 2) i true seen = .ok (test c, seen') := by
  unfold inSet
  simp only [Nat.add_zero]
  rw [hw]
  show ∃ seen', (if (decide (c < 256) && (code.getD (i + (1 + c / 32)) 0).testBit (c % 32)) = true then _ else _) = _
  rw [ht c]
  cases test c
  · rw [if_neg (by decide)]
    unfold inSet
    simp only [Nat.add_zero]
    rw [h0]
    exact ⟨_, rfl⟩
  · exact ⟨_, rfl⟩
theorem big_of {code : Array Nat} {test : Nat → Bool} {i : Nat} (h1 : ∀ c, c < 256 → (decide (c < 256) && (code.getD (i + (1 + c / 32)) 0).testBit (c % 32)) = test c) (h2 : ∀ c, 256 ≤ c → test c = false) :
    ∀ c, (decide (c < 256) && (code.getD (i + (1 + c / 32)) 0).testBit (c % 32)) = test c := by
  intro c
  by_cases h : c < 256
  · exact h1 c h
  · rw [h2 c (by omega), decide_eq_false h]; rfl
theorem bigV : ∀ c, 256 ≤ c → testV c = false := by
  intro c h; unfold testV; simp; omega
theorem setV : SetCode codeV testV where
  hdr := ⟨15, by decide +kernel, by decide, by kernel_rfl, by decide +kernel, by decide +kernel, by kernel_rfl, fun c seen => set9 (code := codeV) (fuel := 26) (i := 17) (by decide +kernel) (by decide +kernel) (big_of (by decide +kernel) bigV) c seen⟩
  info := by kernel_rfl
  four := by decide +kernel
  set := fun c seen => set9 (fuel := 26) (i := 5) (by decide +kernel) (by decide +kernel) (big_of (by decide +kernel) bigV) c seen
theorem set22 {i : Nat} {fuel : Nat} (hi : i = 5 ∨ i = 13) (c : Nat) (seen : Sre.Seen) : ∃ seen', inSet codeN c (fuel + 3) i true seen = .ok (testN c, seen') := by
  have h0 : codeN.getD i 0 = 22 := by rcases hi with rfl | rfl <;> decide +kernel
  have h1 : codeN.getD (i + 1) 0 = 0 := by rcases hi with rfl | rfl <;> decide +kernel
  have h2 : codeN.getD (i + 2) 0 = 31 := by rcases hi with rfl | rfl <;> decide +kernel
  have h3 : codeN.getD (i + 3) 0 = 16 := by rcases hi with rfl | rfl <;> decide +kernel
  have h4 : codeN.getD (i + 3 + 1) 0 = 127 := by rcases hi with rfl | rfl <;> decide +kernel
  have h5 : codeN.getD (i + 3 + 2) 0 = 0 := by rcases hi with rfl | rfl <;> decide +kernel
  unfold inSet
  simp only [Nat.add_zero]
  rw [h0]
  show ∃ seen', (if (decide (codeN.getD (i + 1) 0 ≤ c) && decide (c ≤ codeN.getD (i + 2) 0)) = true then _ else _) = _
  rw [h1, h2]
  by_cases hc : c ≤ 31
  · rw [if_pos (by simpa using hc), show testN c = true from by unfold testN; simp [hc]]
    exact ⟨_, rfl⟩
  rw [if_neg (by simpa using hc)]
  unfold inSet
  simp only [Nat.add_zero]
  rw [h3]
  show ∃ seen', (if (c == codeN.getD (i + 3 + 1) 0) = true then _ else _) = _
  rw [h4]
  by_cases hc' : c = 127
  · rw [if_pos (by simpa using hc'), show testN c = true from by unfold testN; simp [hc']]
    exact ⟨_, rfl⟩
  rw [if_neg (by simpa using hc'), show testN c = false from by unfold testN; simp [hc']; omega]
  unfold inSet
  simp only [Nat.add_zero]
  rw [h5]
  exact ⟨_, rfl⟩
theorem setN : SetCode codeN testN where
  hdr := ⟨11, by decide +kernel, by decide, by kernel_rfl, by decide +kernel, by decide +kernel, by kernel_rfl, fun c seen => set22 (fuel := 17) (i := 13) (.inr rfl) c seen⟩
  info := by kernel_rfl
  four := by decide +kernel
  set := fun c seen => set22 (fuel := 17) (i := 5) (.inl rfl) c seen
end Mine

namespace Mine
open PySem.Sre PySem.Builtin.Re
section
variable {C : Cx} {lv : Lv} {env : Env} {σ : St} {X : String → List PV → St → Prop}

structure PatAt (C : Cx) (pat : Addr) (code : Array Nat) : Prop where
  at_ : ∃ o, C.K.lookup pat = some o ∧ o.cls = .type "re.Pattern" ∧ o.dict = none
  reads : ∀ x t, peek C.K ⟨C.prog, C.w.params⟩ (reTarget "re.Pattern.search" "search" ⟨[.ref pat, .str x t], []⟩) =
    some { pattern := .ref pat, string := .str x t, code := code, text := x.cps, kind := 0, groups := 0, pos := min 0 x.cps.size, lim := min ((2 ^ 63 - 1 : Int)).toNat x.cps.size }

theorem m_search {pat : Addr} {code : Array Nat} (P : PatAt C pat code) : Meth C lv env (.obj (.ref pat)) "search" (.builtin "re.Pattern.search") σ := by
  intro A f s v pl Q E hA R hv h
  cases hv
  obtain ⟨o, ho, hc, hd⟩ := P.at_
  have hg := R.K _ _ ho
  exact getMethod_builtin ⟨o, hg, hc⟩ pa_pat slot_search type_search (fun a e => by cases e; exact ⟨o, hg, hd⟩) (h s.toks (Nat.le_refl _))

theorem wp_rules {M : Model} {A : Around} {E : Value → Shared → Prop} {s : Shared} {Q : Unit → Shared → Prop} (p : Nat → Bool) (g : Nat → String) (h : Q () s) : ∀ l : List Nat,
    wpAny M A (forIn l PUnit.unit (fun i _ => (if p i = true then (rule (g i) >>= fun _ => pure (ForInStep.yield PUnit.unit)) else pure (ForInStep.yield PUnit.unit) : Sem (ForInStep PUnit)))) (fun _ => Q ()) E s
  | [] => wpAny_pure h
  | i :: l => by
    rw [List.forIn_cons]
    refine wpAny_bind ?_
    cases p i
    · exact wpAny_pure (wp_rules p g h l)
    · exact wpAny_bind (wpAny_rule (wpAny_pure (wp_rules p g h l)))

theorem run_failed {M : Model} {A : Around} {E : Value → Shared → Prop} {s : Shared} {Q : Option Sre.M → Shared → Prop} {m : Sre.M} (hm : (m.runFor 4).outcome = some .failed) (h : Q none s) : wpAny M A (reRunToEnd m) Q E s := by
  unfold reRunToEnd
  refine wpAny_bind (m := reDrive (2 ^ 64) m) ?_
  rw [show (2 ^ 64 : Nat) = (2 ^ 64 - 1) + 1 from rfl]
  unfold reDrive
  show wpAny M A (if (m.runFor 4).outcome.isSome = true then pure (m.runFor 4) else _) _ _ _
  rw [if_pos (by rw [hm]; rfl)]
  refine wpAny_pure ?_
  refine wpAny_bind (wp_rules (Q := fun _ s' => wpAny _ _ (match (m.runFor 4).outcome with | some .matched => pure (some (m.runFor 4)) | some .failed => pure none | some (.stuck why) => unsupported s!"_sre:{why}" | none => unsupported "internal:sre:no-outcome") _ _ s') _ _ ?_ _)
  rw [hm]
  exact wpAny_pure h
theorem run_matched {M : Model} {A : Around} {E : Value → Shared → Prop} {s : Shared} {Q : Option Sre.M → Shared → Prop} {m : Sre.M} (hm : (m.runFor 4).outcome = some .matched) (h : Q (some (m.runFor 4)) s) : wpAny M A (reRunToEnd m) Q E s := by
  unfold reRunToEnd
  refine wpAny_bind (m := reDrive (2 ^ 64) m) ?_
  rw [show (2 ^ 64 : Nat) = (2 ^ 64 - 1) + 1 from rfl]
  unfold reDrive
  show wpAny M A (if (m.runFor 4).outcome.isSome = true then pure (m.runFor 4) else _) _ _ _
  rw [if_pos (by rw [hm]; rfl)]
  refine wpAny_pure ?_
  refine wpAny_bind (wp_rules (Q := fun _ s' => wpAny _ _ (match (m.runFor 4).outcome with | some .matched => pure (some (m.runFor 4)) | some .failed => pure none | some (.stuck why) => unsupported s!"_sre:{why}" | none => unsupported "internal:sre:no-outcome") _ _ s') _ _ ?_ _)
  rw [hm]
  exact wpAny_pure h

theorem post_thing2 {fs : List Env} {f : Nat → Addr} {s : Shared} {o₁ o₂ : Obj} {T : String} {Q : PV → St → Prop} (R : Rel C fs env f σ s) (hT : o₂.cls = .type T) (hfr : o₂.isFreed = false) (hn : T ≠ "tuple") (h : Q (.ref σ.n) (σ.alloc (.thing T))) :
    Post C fs env Rep Q f σ s (.ref (s.heap.push o₁).objs.size) { s with heap := (s.heap.push o₁).push o₂ } := by
  obtain ⟨R', E'⟩ := R.alloc (s' := { s with heap := (s.heap.push o₁).push o₂ }) (a := (s.heap.push o₁).objs.size) (ao := .thing T) (fun b o' e => Heap.get?_push_of_some _ (Heap.get?_push_of_some _ e))
    (by show _ ≤ ((s.heap.push _ : Heap).push _).objs.size; rw [Heap.size_push, Heap.size_push]; omega) (by rw [Heap.size_push]; omega) (Heap.get?_push_size _ hfr) (by rw [hT]; intro e; exact hn (by injection e)) rfl rfl (Nat.le_refl _) ⟨_, Heap.get?_push_size _ hfr, hT⟩
  exact ⟨_, _, _, h, rep_new, R', E'⟩
theorem c_search {pat : Addr} {code : Array Nat} {test : Nat → Bool} (P : PatAt C pat code) (S : SetCode code test) {x : Str} {Q : PV → St → Prop} (hx : x.length ≤ 16777216)
    (h0 : x.cps.toList.any test = false → Q .none σ) (h1 : x.cps.toList.any test = true → Q (.ref σ.n) (σ.alloc (.thing "re.Match"))) : ACall C lv env (.builtin "re.Pattern.search") [.obj (.ref pat), .str x] [] σ Q X := by
  refine ⟨fun A f s vs ks hA R hv hk => ?_⟩
  cases hk
  cases hv with
  | cons hv hr =>
  cases hv
  cases hr with
  | cons hv hr =>
  cases hr
  cases hv with
  | str x t =>
  obtain ⟨o, ho, hc, hd⟩ := P.at_
  have hg := R.K _ _ ho
  have hx' : x.cps.size ≤ 16777216 := hx
  refine wpAny_call (codeAny_call_builtin slot_search.plain entry_search (slot_search.check _ _ _ _ _ _ _ _ ⟨o, hg, hc⟩ (args_search _ _) ?_))
  unfold Builtin.«re.Pattern.search»
  refine wpAny_bind ((Looks.of_peek R.K (P.reads x t)).here ?_)
  unfold reAnswer
  rw [show min (2 ^ 63 - 1 : Int).toNat x.cps.size = x.cps.size from by
    rw [show (2 ^ 63 - 1 : Int).toNat = 2 ^ 63 - 1 from by decide]; exact Nat.min_eq_right (by omega), Nat.zero_min]
  cases ha : x.cps.toList.any test
  · have hn := search_none S x.cps (fun i hi => by
      have := List.any_eq_false.mp ha (x.cps.getD i 0) (by
        rw [Array.getD, dif_pos hi]; exact Array.getElem_mem_toList _)
      simpa using this)
    refine wpAny_bind (run_failed hn ?_)
    exact wpAny_pure (Post.now R (h0 ha) .none)
  · obtain ⟨c, hc1, hc2⟩ := List.any_eq_true.mp ha
    obtain ⟨i, hi, e⟩ := List.getElem_of_mem hc1
    rw [Array.length_toList] at hi
    have hs := search_some S x.cps ⟨i, hi, by rw [Array.getD, dif_pos hi]; rw [Array.getElem_toList] at e; simp only [Array.getInternal_eq_getElem]; rw [e]; exact hc2⟩
    refine wpAny_bind (run_matched hs ?_)
    refine wpAny_bind (m := reNewMatch _ _ _ _ _ _) ?_
    unfold reNewMatch
    show wpAny _ _ (newTuple [_, _] >>= fun t => newFields "re.Match" _) _ _ _
    refine wpAny_bind (wpAny_newTuple ?_)
    refine wpAny_newObj_type ?_
    refine wpAny_pure ?_
    exact post_thing2 R rfl rfl (by decide) (h1 ha)

theorem tr_match {i : Nat} {Q : Bool → St → Prop} (hi : σ.hp i = some (.thing "re.Match")) (h : Q true σ) : Op1 C lv env repB truthy (.ref i) σ Q X := by
  refine ⟨fun A f s v hA R hv => ?_⟩
  cases hv with
  | ref hlt =>
    obtain ⟨_, o, hg, hc⟩ := R.objs i _ hi
    have hT : s.TypeIs (.ref (f i)) "re.Match" := ⟨o, hg, hc⟩
    unfold truthy
    refine wpAny_bind (m := callSpecial? (.ref (f i)) (Str.ofString "__bool__")) (wpAny_callSpecial?_none hT (by rw [typeLookup_type, builtinLookup_eq_fast]; kernel_rfl) ?_)
    refine wpAny_bind (wpAny_specialOf hT (r := none) (by rw [typeLookup_type, builtinLookup_eq_fast]; kernel_rfl) ?_)
    exact wpAny_pure (Post.now R h rfl)
end
end Mine

namespace Mine
section
variable {C : Cx} {lv : Lv} {env : Env} {σ : St} {X : String → List PV → St → Prop}

theorem m_lower {x : Str} : Meth C lv env (.str x) "lower" (.builtin "str.lower") σ := by
  intro A f s v pl Q E hA R hv h; cases hv; exact GM.lower (h s.toks (Nat.le_refl _))

mutual
inductive ADat (hp : Nat → Option AO) : PV → PyData → Prop
  | none : ADat hp .none .none
  | bool (b : Bool) : ADat hp (.bool b) (.bool b)
  | int (i : Int) : ADat hp (.int i) (.int i)
  | str (x : Str) : ADat hp (.str x) (.str x)
  | tup {l : List PV} {ds : List PyData} : ADatL hp l ds → ADat hp (.tup l) (.tuple ds)
  | list {i : Nat} {l : List PV} {ds : List PyData} : hp i = some (.list l) → ADatL hp l ds → ADat hp (.ref i) (.list ds)
inductive ADatL (hp : Nat → Option AO) : List PV → List PyData → Prop
  | nil : ADatL hp [] []
  | cons {p : PV} {l : List PV} {d : PyData} {ds : List PyData} : ADat hp p d → ADatL hp l ds → ADatL hp (p :: l) (d :: ds)
end
mutual
theorem ADat.reads {fs : List Env} {f : Nat → Addr} {s : Shared} (R : Rel C fs env f σ s) : ∀ {p : PV} {d : PyData} {v : Value}, ADat σ.hp p d → Rep f σ.n s.heap v p → ∃ as, Reads s.heap v d as
  | _, _, _, .none, hv => by cases hv; exact ⟨_, .none⟩
  | _, _, _, .bool b, hv => by cases hv; exact ⟨_, .bool b⟩
  | _, _, _, .int i, hv => by cases hv; exact ⟨_, .int i _⟩
  | _, _, _, .str x, hv => by cases hv; exact ⟨_, .str x _⟩
  | _, _, _, .tup hl, hv => by
    cases hv with
    | tup ht hvs =>
      obtain ⟨o, e, c, k, hd⟩ := ht
      obtain ⟨as, hr⟩ := ADatL.reads R hl hvs
      exact ⟨_, .tuple e c hd hr⟩
  | _, _, _, .list hi hl, hv => by
    cases hv with
    | ref hlt =>
      obtain ⟨_, vs, k, hget, hvs⟩ := R.objs _ _ hi
      obtain ⟨as, hr⟩ := ADatL.reads R hl hvs
      exact ⟨_, .list hget rfl rfl hr⟩
theorem ADatL.reads {fs : List Env} {f : Nat → Addr} {s : Shared} (R : Rel C fs env f σ s) : ∀ {l : List PV} {ds : List PyData} {vs : List Value}, ADatL σ.hp l ds → RepL f σ.n s.heap vs l → ∃ as, ReadsAll s.heap vs ds as
  | _, _, _, .nil, hv => by cases hv; exact ⟨_, .nil⟩
  | _, _, _, .cons hp hl, hv => by
    cases hv with
    | cons hv hr =>
      obtain ⟨as, h1⟩ := ADat.reads R hp hv
      obtain ⟨bs, h2⟩ := ADatL.reads R hl hr
      exact ⟨_, .cons h1 h2⟩
end
theorem o_eq {p q : PV} {d d' : PyData} {Q : PV → St → Prop} (hp : ADat σ.hp p d) (hq : ADat σ.hp q d') (h1 : SeqAt.shaped d = true) (h2 : SeqAt.shaped d' = true) (h : Q (.bool (PyData.eqv d d')) σ) : Op2 C lv env Rep (compareOp .Eq) p q σ Q X := by
  refine ⟨fun A f s v w hA R hv hw => ?_⟩
  obtain ⟨as, ra⟩ := hp.reads R hv
  obtain ⟨bs, rb⟩ := hq.reads R hw
  have hu : A.units + 64 < cLine := by have := hA.units; have := hA.small; show _ < 9900; omega
  exact SeqAt.compareEq_shaped ra rb h1 h2 hu (Post.now R h (.bool _))
theorem o_ne {p q : PV} {d d' : PyData} {Q : PV → St → Prop} (hp : ADat σ.hp p d) (hq : ADat σ.hp q d') (h1 : SeqAt.shaped d = true) (h2 : SeqAt.shaped d' = true) (h : Q (.bool (!PyData.eqv d d')) σ) : Op2 C lv env Rep (compareOp .NotEq) p q σ Q X := by
  refine ⟨fun A f s v w hA R hv hw => ?_⟩
  obtain ⟨as, ra⟩ := hp.reads R hv
  obtain ⟨bs, rb⟩ := hq.reads R hw
  have hu : A.units + 64 < cLine := by have := hA.units; have := hA.small; show _ < 9900; omega
  exact SeqAt.compareNe_shaped ra rb h1 h2 hu (Post.now R h (.bool _))

theorem m_append {i : Nat} {l : List PV} (hi : σ.hp i = some (.list l)) : Meth C lv env (.ref i) "append" (.builtin "list.append") σ := by
  intro A f s v pl Q E hA R hv h
  cases hv with
  | ref hlt =>
    obtain ⟨_, vs, k, hget, hvs⟩ := R.objs _ _ hi
    exact getMethod_list_append hget rfl rfl (h s.toks (Nat.le_refl _))
theorem c_append {i : Nat} {l : List PV} {p : PV} {Q : PV → St → Prop} (hi : σ.hp i = some (.list l)) (h0 : 0 < i) (hl : l.length ≤ 16777216) (h : Q .none (σ.upd i (.list (l ++ [p])))) : ACall C lv env (.builtin "list.append") [.ref i, p] [] σ Q X := by
  refine ⟨fun A f s vs ks hA R hv hk => ?_⟩
  cases hk
  cases hv with
  | cons hv hr =>
  cases hv with
  | ref hlt =>
  cases hr with
  | cons hv hr =>
  cases hr
  rename_i v
  obtain ⟨_, vs, k, hget, hvs⟩ := R.objs _ _ hi
  refine append_at hget (fun h' hs ho' => ?_) (by rw [List.size_toArray, hvs.length, sizeLine_eq]; exact hl)
  have hto : ∀ a ws, s.heap.IsTuple a ws → h'.IsTuple a ws := fun a ws ⟨o, e, c, r⟩ => ⟨o, (hs.2 a (fun q => by rw [q, hget] at e; cases e; simp at c)).trans e, c, r⟩
  have ho'' : h'.get? (f i) = some { cls := .type "list", data := .seq (vs ++ [v]).toArray (k + 1) } := by rw [ho']; simp
  obtain ⟨R', E'⟩ := R.upd (s' := { s with heap := h' }) (ao' := .list (l ++ [p])) hi h0 hget ho'' rfl rfl hs rfl rfl (Nat.le_refl _)
    ⟨vs ++ [v], k + 1, ho'', RepL.append (hvs.mono (fun _ _ => rfl) (Nat.le_refl _) hto) (.cons (hv.mono (fun _ _ => rfl) (Nat.le_refl _) hto) .nil)⟩
  exact ⟨_, _, _, h, .none, R', E'⟩
end
end Mine

namespace Mine

theorem top_fn {C : Cx} {a : Addr} {fd : FuncData} {body : List Stmt} (F : FnAt C a fd body) {s : Shared} (hbase : C.base = s.heap) (hos : C.os = s.os) (hg : C.gens = s.gens) (htk : 0 < s.toks) {L : Addr} {vs : List Value} {k : Nat} {ps : List PV} {x : Str}
    (hl : s.heap.get? L = some { cls := .type "list", data := .seq vs.toArray k }) (hvs : RepL (fun _ => L) 1 s.heap vs ps) (hb : BindsTo s fd ⟨[.ref L], []⟩ [(x, .ref L)]) (hx : fd.scope.names.lookup x = some .local ∨ fd.scope.names.lookup x = some .cell)
    (h : ∀ env' : Env, env'.scope = fd.scope → EnvOk env' → env'.frame = some env'.locals → ASs C ⟨1, true, [env']⟩ env' body ⟨1, fun i => if i = 0 then some (.list ps) else none, locOf [(x, .ref 0)] fun _ => none⟩ (fun fl _ => fl = .ret (.bool true)) (fun _ _ _ => False))
    {Q : Value → Shared → Prop} {E : Value → Shared → Prop} (hQ : ∀ s' : Shared, (∀ b o, s.heap.get? b = some o → s'.heap.get? b = some o) → s'.os = s.os → s'.gens = s.gens → Q (.bool true) s') : wpAny C.M callerA (call (.ref a) [.ref L]) Q E s := by
  obtain ⟨oc, od, osl, hK⟩ := F.at_
  have hKs : C.K.In s.heap := hbase ▸ C.hK
  refine wpAny_call (codeAny_call_function (by show (1 + claimMargin) < 1000; decide) (hKs _ _ hK) rfl F.co F.gen F.body (codeRec_of hKs F.code) (hb _ _ _ _ ?_))
  rw [F.clo, F.glob, F.bi]
  refine wp_toks (wpAny_newFunctionEnv_cells F.kind (fun y hy => ?_) fun env' he s₁ hc htk' => ?_)
  · simp only [List.mem_singleton] at hy
    subst hy
    rcases hx with h1 | h1
    · exact .inl h1
    · exact .inr ⟨h1, F.cells _ (.inl h1) _⟩
  have hL : env'.locals = s.heap.objs.size := by rw [he]; rfl
  have hcl : env'.cells = cellsFrom (s.heap.objs.size + 1) fd.scope.names [] := by rw [he]; rfl
  have hsc : env'.scope = fd.scope := by rw [he]; rfl
  have hfr : env'.frame = some env'.locals := by rw [he]; rfl
  have hok : EnvOk env' := ⟨by rw [hsc]; exact F.kind, by rw [he]; rfl, by rw [he]; rfl⟩
  obtain ⟨⟨⟨h₁, tk, hs₁⟩, hns, hkeep, hfresh⟩, hcell, hapart, habove⟩ := hc
  have hL' : s.heap.objs.size ≤ env'.locals := by rw [hL]; exact Nat.le_refl _
  have hcn : ∀ x c, env'.cells.lookup x = some c → s.heap.objs.size ≤ c := fun x c hx => Nat.le_trans hL' (Nat.le_of_lt (habove x c (mem_of_lookup hx)))
  have hnb : ∀ b, s.heap.objs.size ≤ b → C.base.get? b = none := fun b hb => by
    rw [hbase]
    cases hq : s.heap.get? b with
    | none => rfl
    | some o => exact absurd (Heap.lt_size hq) (Nat.not_lt.mpr hb)
  have ht : ∀ a vs, s.heap.IsTuple a vs → s₁.heap.IsTuple a vs := fun a vs ⟨o, ho, r⟩ => ⟨o, hkeep _ _ ho, r⟩
  have hrf : ∀ h, RepK (fun _ => L) 1 h [(x, .ref L)] [(x, .ref 0)] := fun h => .cons (Rep.ref (f := fun _ => L) (i := 0) Nat.zero_lt_one) .nil
  have hlt : L < s.heap.objs.size := Heap.lt_size hl
  have R₁ : Rel C [env'] env' (fun _ => L) ⟨1, fun i => if i = 0 then some (.list ps) else none, locOf [(x, .ref 0)] fun _ => none⟩ s₁ := by
    refine ⟨fun b o e => hkeep _ _ (hbase ▸ e), fun i j (hi : i < 1) (hj : j < 1) _ => by omega, fun i hi => ⟨_, hkeep _ _ hl, by simp⟩, fun i h0 (hi : i < 1) => by omega, fun i o e => ?_, ⟨_, hns, fun y hy => ?_⟩, fun y hy => ?_, ?_, ?_, hnb _ hL', fun x c hc => hnb _ (hcn x c hc), ?_, ?_, ?_, ?_, ?_, Nat.lt_of_lt_of_le htk htk'⟩
    · by_cases h0 : i = 0
      · subst h0
        simp only [if_true] at e
        cases e
        exact ⟨Nat.zero_lt_one, vs, k, hkeep _ _ hl, hvs.mono (fun _ _ => rfl) (Nat.le_refl _) ht⟩
      · simp only [if_neg h0] at e; cases e
    · exact bindL_rep (m := fun _ => none) (p := fun _ => none) (hrf _) (fun _ _ => trivial) y hy
    · have hy' : fd.scope.names.lookup y = some .cell ∨ fd.scope.names.lookup y = some .free := by
        have e : env'.kindOf y = fd.scope.names.lookup y := by show env'.scope.names.lookup y = _; rw [hsc]
        rw [e] at hy; exact hy
      obtain ⟨c, hc⟩ := Option.isSome_iff_exists.mp (F.cells y hy' (s.heap.objs.size + 1))
      rw [← hcl] at hc
      refine ⟨c, _, hc, hcell y c hc, ?_⟩
      refine bindC_rep (m := fun _ => none) (p := fun _ => none) (hrf _) (fun _ _ => trivial) y (fun q => ?_)
      rw [q] at hy; rcases hy with hy | hy <;> cases hy
    · intro x c hc; exact ⟨_, hcell x c hc⟩
    · intro x y c h1 h2; exact name_of_addr hapart (mem_of_lookup h1) (mem_of_lookup h2)
    · intro i hi; exact Nat.ne_of_lt (Nat.lt_of_lt_of_le hlt hL')
    · intro i hi x c hc; exact Nat.ne_of_lt (Nat.lt_of_lt_of_le hlt (hcn x c hc))
    · refine ⟨.cons (by rw [hok.kind]; decide) hfr hns (hnb _ hL') trivial, fun i hi q => ?_⟩
      rw [List.filterMap_cons, hfr] at q
      simp at q
      exact absurd q (Nat.ne_of_lt (Nat.lt_of_lt_of_le hlt hL'))
    · rw [hs₁]; exact hos.symm
    · rw [hs₁]; exact hg.symm
  refine ⟨C.nolimit.keeps fun b o e => hkeep _ _ (hbase ▸ e), codeAny_func ?_⟩
  have hA' : OkA ⟨1, true, [env']⟩ (callerA.deeper env') := by
    refine ⟨?_, ?_, Around.frames_deeper rfl, rfl, fun _ => rfl, by show (1 : Nat) ≤ 30; decide⟩
    · show (1 + claimMargin) + 1 ≤ 400 + 4 * 1; decide
    · show 4 + 3 ≤ 100 + 20 * 1; decide
  refine (h env' hsc hok hfr).use hA' R₁ (fun fl pfl σ' f' s' hq hr R' E' => ?_) fun e s' ⟨c, as, σ', f', hx, hfl, R', E'⟩ => hx.elim
  subst hq
  cases hr with
  | ret hv =>
    cases hv
    exact hQ s' (fun b o e => R'.base b o (hbase ▸ e)) (R'.os.trans hos) (R'.gens.trans hg)

theorem good_true {c : ClaimW} {cl : Str → Option Addr} {mean : ExcName → Option Value} {args : List WData} {s₁ s' : Shared} (hk : ∀ b o, s₁.heap.get? b = some o → s'.heap.get? b = some o) (hos : s'.os = s₁.os) (hg : s'.gens = #[])
    (hr : ∀ cls, c.raises args cls = false) (hp : c.post args (.bool true) args = true) : GoodWG c cl mean args s₁ (.ok (.ret (.bool true))) s' :=
  GoodW.toG ⟨.inl ⟨_, _, [], rfl, hr, ReadsW.bool true, hp, fun _ => ⟨List.nodup_nil, fun _ hm => (nomatch hm)⟩⟩, hk, hos, hg⟩
theorem ints_rep {f : Nat → Addr} {n : Nat} {h : Heap} {vs : List Value} {ns : List Int} (x : IntsAre vs ns) : RepL f n h vs (ns.map .int) := by
  induction x with
  | nil => exact .nil
  | cons n t _ ih => exact .cons (.int _ _) ih
end Mine

namespace Mine

theorem St.set_loc {σ : St} {x y : Str} {v : PV} : (σ.set x v).loc y = if y = x then some v else σ.loc y := rfl
def isLoc : Option NameKind → Bool
  | some .local => true
  | some .cell => true
  | some .free => true
  | _ => false
def isLoc2 : Option NameKind → Bool
  | some .local => true
  | some .cell => true
  | _ => false

section
variable {C : Cx} {lv : Lv} {env : Env} {σ : St} {X : String → List PV → St → Prop} {names : List (Str × NameKind)}

theorem Sc.kind3 (S : Sc env names) {x : Str} (h : isLoc (names.lookup x) = true) : env.kindOf x = some .local ∨ env.kindOf x = some .cell ∨ env.kindOf x = some .free := by
  cases hq : names.lookup x with
  | none => rw [hq] at h; cases h
  | some k =>
    rw [hq] at h
    cases k <;> first | (cases h; done) | skip
    · exact .inl (S.loc x hq)
    · exact .inr (.inl (S.cel x hq))
    · exact .inr (S.fre x hq)
theorem Sc.kind2 (S : Sc env names) {x : Str} (h : isLoc2 (names.lookup x) = true) : env.kindOf x = some .local ∨ env.kindOf x = some .cell := by
  cases hq : names.lookup x with
  | none => rw [hq] at h; cases h
  | some k =>
    rw [hq] at h
    cases k <;> first | (cases h; done) | skip
    · exact .inl (S.loc x hq)
    · exact .inr (S.cel x hq)

theorem e_nm {x : Str} {pos : Pos} {v : PV} {Q : PV → St → Prop} (S : Sc env names) (h : Q v σ)
    (hv : σ.loc x = some v := by first | assumption | exact rfl | (simp only [St.set_loc, St.alloc_loc, St.upd_loc, St.mk_loc, loc_cons, loc_nil, oinj, reduceIte, String.reduceEq]; first | assumption | exact rfl))
    (hx : isLoc (names.lookup x) = true := by decide +kernel)
    (hd : (x == ("__debug__" : Str)) = false := by decide +kernel) (hc : (x == ("__classdict__" : Str)) = false := by decide +kernel) : AE C lv env (.Name x pos) σ Q X :=
  e_name S.ok (S.kind3 hx) hv h hd hc
theorem e_gl {x : Str} {pos : Pos} {v : Value} {Q : PV → St → Prop} (S : Sc env names) (hv : nsIn C.K mainGlobals x = some (some v)) (h : Q (.obj v) σ) (hx : names.lookup x = some .globalImplicit := by decide +kernel)
    (hd : (x == ("__debug__" : Str)) = false := by decide +kernel) : AE C lv env (.Name x pos) σ Q X := e_global S.ok (S.glo x hx) hv h hd
theorem e_bi {x : Str} {pos : Pos} {v : Value} {Q : PV → St → Prop} (S : Sc env names) (hv : nsIn C.K mainGlobals x = some none) (hb : bootBuiltins x = some v) (h : Q (.obj v) σ) (hx : names.lookup x = some .globalImplicit := by decide +kernel)
    (hn : x ≠ "__name__" := by decide +kernel) (hd : (x == ("__debug__" : Str)) = false := by decide +kernel) : AE C lv env (.Name x pos) σ Q X := e_builtin S.ok (S.glo x hx) hv hb hn h hd
theorem s_as {x : Str} {p₁ : Pos} {value : Expr} {pos : Pos} {Q : PFlow → St → Prop} (S : Sc env names) (h : AE C lv env value σ (fun v σ₁ => Q .next (σ₁.set x v)) X) (hx : isLoc2 (names.lookup x) = true := by decide +kernel)
    (hs : swapsWith value (some (.Name x p₁)) pos.line env = pure false := by rfl) : AS C lv env (.Assign [.Name x p₁] value pos) σ Q X := s_assign S.ok (S.kind2 hx) h hs
theorem a_nm {x : Str} {pos : Pos} {p : PV} {Q : St → Prop} (S : Sc env names) (h : Q (σ.set x p)) (hx : isLoc2 (names.lookup x) = true := by decide +kernel) : AAssign C lv env (.Name x pos) p σ Q X := a_name S.ok (S.kind2 hx) h

theorem o_isnot_no {Q : PV → St → Prop} (h : Q (.bool false) σ) : Op2 C lv env Rep (compareOp .IsNot) .none .none σ Q X := o_isnot_none nofun h
theorem t_mid (M : Bool → St → Prop) {e : Expr} {Q : Bool → St → Prop} (h : AT C lv env e σ M X) (hq : ∀ b σ', M b σ' → Q b σ') : AT C lv env e σ Q X := h.mono hq fun _ _ _ x => x
theorem ss_next {st : Stmt} {rest : List Stmt} {Q : PFlow → St → Prop} (h : AS C lv env st σ (fun fl σ₁ => fl = .next ∧ ASs C lv env rest σ₁ Q X) X) : ASs C lv env (st :: rest) σ Q X :=
  ss_cons (h.mono (fun _ _ h => ⟨fun _ => h.2, fun q => absurd h.1 q⟩) fun _ _ _ x => x)
theorem ss_mid (M : St → Prop) {st : Stmt} {rest : List Stmt} {Q : PFlow → St → Prop} (h1 : AS C lv env st σ (fun fl σ' => fl = .next ∧ M σ') X) (h2 : ∀ σ', M σ' → ASs C lv env rest σ' Q X) : ASs C lv env (st :: rest) σ Q X :=
  ss_cons (h1.mono (fun _ σ' h => ⟨fun _ => h2 σ' h.2, fun q => absurd h.1 q⟩) fun _ _ _ x => x)
theorem ss_ret {e : Expr} {pos : Pos} {rest : List Stmt} {Q : PFlow → St → Prop} (h : AE C lv env e σ (fun v σ₁ => Q (.ret v) σ₁) X) : ASs C lv env (.Return (some e) pos :: rest) σ Q X :=
  ss_cons (s_return (h.mono (fun _ _ h => ⟨(fun q => nomatch q), fun _ => h⟩) fun _ _ _ x => x))

end

def stmtAt (p : Program) (i : Nat) : Stmt := p.main.body.getD i (.Pass default)
def bodyOf : Stmt → List Stmt
  | .FunctionDef _ _ b _ _ _ _ _ _ _ => b
  | .ClassDef _ _ _ b _ _ _ _ _ _ _ => b
  | _ => []
def namesOf : Stmt → List (Str × NameKind)
  | .FunctionDef _ _ _ _ _ _ s _ _ _ => s.names
  | _ => []
structure FnG (C : Cx) (name : Str) (st : Stmt) (a : Addr) (fd : FuncData) : Prop where
  glob : nsIn C.K mainGlobals name = some (some (.ref a))
  keep : keepIn C.K (.ref a) = true
  fn : FnAt C a fd (bodyOf st)
  names : fd.scope.names = namesOf st

theorem a_f {C : Cx} {lv : Lv} {env : Env} {σ : St} {X : String → List PV → St → Prop} {name : Str} {st : Stmt} {a : Addr} {fd : FuncData} {ps : List PV} {kw bs : List (Str × PV)} {Q : PV → St → Prop} (G : FnG C name st a fd) (hd : lv.d < 30)
    (hb : Binds C lv env σ fd ps kw bs)
    (h : ∀ env' : Env, Sc env' (namesOf st) → FrameOk ⟨lv.d + 1, lv.hn, env' :: lv.fs⟩ env' → ASs C ⟨lv.d + 1, lv.hn, env' :: lv.fs⟩ env' (bodyOf st) ⟨σ.n, σ.hp, locOf bs fun _ => none⟩
      (fun fl σ' => ∃ hp, (∀ i o, hp i = some o → σ'.hp i = some o) ∧ Q (retOf fl) ⟨σ'.n, hp, σ.loc⟩) NoX)
    (hk : (bs.map (·.1)).all (fun y => isLoc2 ((namesOf st).lookup y)) = true := by kernel_rfl) : ACall C lv env (.ref a) ps kw σ Q X := by
  refine a_fn G.fn hd hb (fun y hy => ?_) fun env' hsc hok hfr => h env' (G.names ▸ Sc.of hsc hok) ⟨hfr, _, rfl⟩
  have h1 := List.all_eq_true.mp hk y.1 (List.mem_map_of_mem hy)
  rw [G.names]
  cases hq : (namesOf st).lookup y.1 with
  | none => rw [hq] at h1; cases h1
  | some k => rw [hq] at h1; cases k <;> first | (cases h1; done) | simp

theorem Binds.of {C : Cx} {lv : Lv} {env : Env} {σ : St} {fd : FuncData} {ps : List PV} {kw bs : List (Str × PV)}
    (h : ∀ (f : Nat → Addr) (n : Nat) (hp : Heap) (vs : List Value) (ks : List (Str × Value)), RepL f n hp vs ps → RepK f n hp ks kw → ∃ binds, (∀ S, peek C.K S (bindArgs fd ⟨vs, ks⟩) = some binds) ∧ RepK f n hp binds bs) : Binds C lv env σ fd ps kw bs := by
  intro f s vs ks R hv hk
  obtain ⟨binds, h1, h2⟩ := h f σ.n s.heap vs ks hv hk
  refine ⟨binds, fun M A E Q hq => ?_, h2⟩
  exact (Looks.of_peek R.K (h1 _)).here hq
end Mine

namespace Mine

def st (l : List Nat) : Str := ⟨l.toArray⟩
theorem st_append (a b : List Nat) : st a ++ st b = st (a ++ b) := by
  have : (st a ++ st b).cps = (st (a ++ b)).cps := by rw [Str.cps_append]; simp [st]
  cases h : st a ++ st b; rw [h] at this; cases this; rfl
theorem st_len (a : List Nat) : (st a).length = a.length := by show (a.toArray).size = _; simp
theorem st_toList (a : List Nat) : (st a).cps.toList = a := by simp [st]
theorem st_inj {a b : List Nat} : st a = st b ↔ a = b := by
  constructor
  · intro h; have := congrArg (fun x : Str => x.cps.toList) h; simpa [st] using this
  · intro h; rw [h]
theorem st_of (x : Str) : x = st x.cps.toList := by cases x; simp [st]

theorem signs_st (l : List Nat) : signs (st l) = l.map fun c => .str (st [c]) := by
  simp [signs, st]

structure Grow (σ σ' : St) : Prop where
  n : σ.n ≤ σ'.n
  hp : ∀ i, i < σ.n → σ'.hp i = σ.hp i
theorem Grow.refl {σ : St} : Grow σ σ := ⟨Nat.le_refl _, fun _ _ => rfl⟩
theorem Grow.trans {a b c : St} (x : Grow a b) (y : Grow b c) : Grow a c := ⟨Nat.le_trans x.n y.n, fun i h => (y.hp i (Nat.lt_of_lt_of_le h x.n)).trans (x.hp i h)⟩
theorem Grow.alloc {σ : St} {o : AO} : Grow σ (σ.alloc o) := ⟨Nat.le_succ _, fun i h => if_neg (Nat.ne_of_lt h)⟩
theorem Grow.set {σ σ' : St} {x : Str} {v : PV} (g : Grow σ σ') : Grow σ (σ'.set x v) := ⟨g.n, g.hp⟩
theorem Grow.al {σ σ' : St} {o : AO} (g : Grow σ σ') : Grow σ (σ'.alloc o) := g.trans .alloc
theorem Grow.get {σ σ' : St} (g : Grow σ σ') {i : Nat} {o : AO} (hi : i < σ.n) (h : σ.hp i = some o) : σ'.hp i = some o := (g.hp i hi).trans h
end Mine

namespace Mine
section
variable {C : Cx} {lv : Lv} {env : Env} {σ : St} {X : String → List PV → St → Prop} {names : List (Str × NameKind)}

def okIn (names : List (Str × NameKind)) (scope : Scope) (x : Str × NameKind) : Bool :=
  (match x.2 with
   | .cell => false
   | .free => isLoc (names.lookup x.1) && !(match names.lookup x.1 with | some .local => true | _ => false)
   | _ => true) && decide (scope.names.lookup x.1 = some x.2)
def blockChk (names : List (Str × NameKind)) (scope : Scope) : Bool := decide (scope.kind = .function) && scope.names.all (okIn names scope)

theorem BlockOk.of (S : Sc env names) {scope : Scope} (h : blockChk names scope = true) : BlockOk env scope := by
  unfold blockChk at h
  rw [Bool.and_eq_true] at h
  obtain ⟨hk, h⟩ := h
  have h1 : ∀ x ∈ scope.names, okIn names scope x = true := List.all_eq_true.mp h
  have h2 : ∀ x ∈ scope.names, scope.names.lookup x.1 = some x.2 := fun x hx => by
    have := h1 x hx; unfold okIn at this; rw [Bool.and_eq_true] at this; exact of_decide_eq_true this.2
  refine ⟨of_decide_eq_true hk, fun x hx e => ?_, fun x hx => ?_, fun x k hx => h2 _ hx⟩
  · have := h1 x hx; unfold okIn at this; rw [e] at this; simp at this
  · have := h1 _ (mem_of_lookup hx); unfold okIn at this
    rw [Bool.and_eq_true, Bool.and_eq_true] at this
    obtain ⟨⟨q1, q2⟩, _⟩ := this
    cases hq : names.lookup x with
    | none => simp only [hq] at q1; cases q1
    | some k =>
      simp only [hq] at q1 q2
      cases k <;> first | (cases q1; done) | (cases q2; done) | skip
      · exact .inl (S.cel x hq)
      · exact S.fre x hq

theorem e_comp {elt target iter : Expr} {ifs : List Expr} {scope : Scope} {pos : Pos} {Q : PV → St → Prop} (S : Sc env names) (hn : lv.hn = true)
    (h : AE C lv env iter σ (fun p σ₁ => CSpec C lv env scope target elt ifs p σ₁ Q) X) (hb : blockChk names scope = true := by decide +kernel)
    (hs : ∀ x, foldedSetIterable iter env x = pure x := by intro _; rfl) :
    AE C lv env (.ListComp elt [⟨target, iter, ifs, 0⟩] scope pos) σ Q X := e_listcomp S.ok hn (.of S hb) h hs

theorem AAssign.mono {t : Expr} {p : PV} {Q Q' : St → Prop} (h : AAssign C lv env t p σ Q X) (hq : ∀ σ', Q σ' → Q' σ') : AAssign C lv env t p σ Q' X :=
  ⟨fun A f s v hA R hv => wpAny_mono (h.run A f s v hA R hv) (fun _ _ ⟨b, σ', f', h1, h2, h3, h4⟩ => ⟨b, σ', f', hq σ' h1, h2, h3, h4⟩) fun _ _ x => x⟩
end
end Mine

namespace Mine
end Mine

namespace Mine
section
variable {C : Cx} {lv : Lv} {env : Env} {σ : St} {X : String → List PV → St → Prop} {names : List (Str × NameKind)}

theorem s_expr {e : Expr} {pos : Pos} {Q : PFlow → St → Prop} (hk : EnvOk env) (h : AE C lv env e σ (fun _ σ₁ => Q .next σ₁) X) (hs : swapsWith e none pos.line env = pure false := by rfl) : AS C lv env (.Expr e pos) σ Q X := by
  refine ⟨fun A f s hA R => ?_⟩
  refine wpAny_Expr_any (h.use hA R (fun va a σ₁ f₁ s₁ h₁ ra R₁ E₁ => ⟨.next, σ₁, f₁, h₁, .next, R₁, E₁⟩) fun _ _ x => x) ?_ hs
  unfold interactive
  rw [hk.kind]
  rfl

theorem mapSeq_plain {its its' : Array Value} {n n' : Nat} {g : Array Value → Array Value} (h : (Obj.mapSeq g { cls := .type "list", data := .seq its n }).data = .seq its' n') : Obj.mapSeq g { cls := .type "list", data := .seq its n } = { cls := .type "list", data := .seq its' n' } := by
  unfold Obj.mapSeq at h ⊢
  simp only at h ⊢
  rw [h]
end
end Mine

namespace Mine
section
variable {C : Cx} {lv : Lv} {env : Env} {σ : St} {X : String → List PV → St → Prop} {names : List (Str × NameKind)}

def AAll (C : Cx) (lv : Lv) (env : Env) (X : String → List PV → St → Prop) : List Expr → List PV → St → (St → Prop) → Prop
  | e :: es, p :: ps, σ, Q => AAssign C lv env e p σ (fun σ' => AAll C lv env X es ps σ' Q) X
  | [], [], σ, Q => Q σ
  | _, _, _, _ => False

theorem AAll.order {A : Around} (hA : OkA lv A) {Q : St → Prop} {f₀ : Nat → Addr} {σ₀ : St} {s₀ : Shared} : ∀ {es : List Expr} {ps : List PV} {vs : List Value} {σ : St} {f : Nat → Addr} {s : Shared}, AAll C lv env X es ps σ Q → RepL f σ.n s.heap vs ps →
    Rel C lv.fs env f σ s → Ext env f₀ σ₀ s₀ f σ s → wpAny C.M A (assignInOrder (es.map fun e => assign e env) vs) (Post C lv.fs env repU (fun _ σ' => Q σ') f₀ σ₀ s₀) (PostX C lv.fs env X f₀ σ₀ s₀) s
  | [], [], vs, σ, f, s, h, hv, R, E => by cases hv; exact wpAny_pure ⟨(), σ, f, h, trivial, R, E⟩
  | [], _ :: _, _, _, _, _, h, _, _, _ => h.elim
  | _ :: _, [], _, _, _, _, h, _, _, _ => h.elim
  | e :: es, p :: ps, _, σ, f, s, h, hv, R, E => by
    cases hv with
    | cons hv hr =>
      show wpAny C.M A (holding _ (assign e env _) >>= fun _ => assignInOrder (es.map fun e => assign e env) _) _ _ s
      refine wpAny_bind (wpAny_holding (wpAny_mono (Op1.run h A f s _ hA R hv) (fun _ s₁ ⟨_, σ₁, f₁, h₁, _, R₁, E₁⟩ => ?_) fun _ _ x => PostX.trans E x))
      exact AAll.order hA h₁ (hr.ext R E₁) R₁ (E.trans E₁)

theorem a_tup {elts : List Expr} {k : Nat} {pos : Pos} {ps : List PV} {Q : St → Prop} (hn : lv.hn = true) (hl : elts.length = ps.length) (h : AAll C lv env X elts ps σ Q)
    (he : assignEach elts env = elts.map fun e => (false, assign e env) := by rfl) : AAssign C lv env (.Tuple elts k pos) (.tup ps) σ Q X := by
  refine ⟨fun A f s v hA R hv => ?_⟩
  cases hv with
  | tup ht hvs =>
    rename_i t vs
    show wpAny C.M A (assign (.Tuple elts k pos) env _) _ _ s
    rw [arm_assign_Tuple]
    refine wpAny_bind (wpAny_standAt ?_)
    unfold unpack
    have hlen : (assignEach elts env).length = vs.toArray.size := by rw [he, List.length_map, List.size_toArray, hvs.length, hl]
    have hst : (assignEach elts env).findIdx? (·.1) = none := by rw [he]; simp [List.findIdx?_eq_none_iff]
    have e : (assignEach elts env).map (·.2) = elts.map fun e => assign e env := by rw [he, List.map_map]; rfl
    rw [hst, e, hlen]
    refine wpAny_bind (wpAny_holding (wp_grow (wpAny_unpackItems_tuple (hA.handled hn) ht fun h' hext hsz htk => ?_)))
    have hk : ∀ b o, s.heap.get? b = some o → h'.get? b = some o := fun b o e => hext b o (Nat.ne_of_lt (Heap.lt_size e)) e
    have R' := R.keeps (s' := { s with heap := h' }) hk rfl rfl (Nat.le_refl _)
    exact AAll.order hA h (hvs.mono (fun _ _ => rfl) (Nat.le_refl _) fun a ws ⟨o, e, r⟩ => ⟨o, hk _ _ e, r⟩) R' (.keeps hk hsz)

end
end Mine

namespace Mine
end Mine

namespace Mine
section
variable {C : Cx} {lv : Lv} {env : Env} {σ : St} {X : String → List PV → St → Prop}

theorem rep_look {P : Params} {f : Nat → Addr} {n : Nat} {h : Heap} {name : Str} : ∀ {es : List DictEntry} {l : List (Str × PV)}, RepD P f n h es l →
    (es.any (·.refKey) = false) ∧ ((l.lookup name = none ∧ es.find? (·.key.isStr name) = none) ∨ ∃ e p, l.lookup name = some p ∧ es.find? (·.key.isStr name) = some e ∧ Rep f n h e.val p) := by
  intro es l x
  induction x with
  | nil => exact ⟨rfl, .inl ⟨rfl, rfl⟩⟩
  | @cons k t v es p ps hv hr ih =>
    refine ⟨by rw [List.any_cons, ih.1]; rfl, ?_⟩
    have hk : (Value.str k t).isStr name = (k == name) := rfl
    cases hq : (k == name) with
    | true =>
      obtain rfl : k = name := beq_iff_eq.mp hq
      refine .inr ⟨⟨PyData.keyHash P k, .str k t, v⟩, p, by simp, ?_, hv⟩
      rw [List.find?_cons]
      simp only [hk, beq_self_eq_true]
    | false =>
      have hne : (name == k) = false := by rw [← Bool.not_eq_true, beq_iff_eq]; intro e; subst e; simp at hq
      rw [List.find?_cons, List.lookup_cons]
      simp only [hk, hq, hne]
      exact ih.2

theorem inst_at {fs : List Env} {f : Nat → Addr} {s : Shared} {i d : Nat} {K : Addr} {l : List (Str × PV)} {ep : Nat} (R : Rel C fs env f σ s) (hi : σ.hp i = some (.inst K d)) (hd : σ.hp d = some (.dict l ep)) :
    ∃ ox od es, InstAt s.heap (f i) ox K (some od) ∧ ox.dict = some (f d) ∧ (∃ ep, od.data = .dict (es : List DictEntry).toArray ep) ∧ RepD C.w.params f σ.n s.heap es l := by
  obtain ⟨_, ox, g1, c1, d1, _, p1⟩ := R.objs i _ hi
  obtain ⟨_, es, g2, r2, _⟩ := R.objs d _ hd
  refine ⟨ox, { cls := .type "dict", data := .dict es.toArray ep }, es, ⟨g1, c1, ?_, ?_⟩, d1, ⟨ep, rfl⟩, r2⟩
  · unfold notCls; rw [p1]
  · rw [d1]; exact g2

theorem m_inst {i d : Nat} {K fn : Addr} {l : List (Str × PV)} {ep : Nat} {name : Str} (hi : σ.hp i = some (.inst K d)) (hd : σ.hp d = some (.dict l ep)) (hl : l.lookup name = none)
    (hga : findIn C.K (.ref K) "__getattribute__" = some (some (.builtin "object.__getattribute__"))) (hk : findIn C.K (.ref K) "__getattr__" = some none)
    (hf : findIn C.K (.ref K) name = some (some (.ref fn))) (ht : typeIn C.K (.ref fn) = some (.type "function")) : Meth C lv env (.ref i) name (.ref fn) σ := by
  intro A f s v pl Q E hA R hv h
  cases hv with
  | ref hlt =>
    obtain ⟨ox, od, es, I, _, ⟨ep, he⟩, rd⟩ := inst_at R hi hd
    refine method_fn R.K I hga hk hf ht ?_ (h s.toks (Nat.le_refl _))
    obtain ⟨h1, h2⟩ := rep_look (name := name) rd
    rcases h2 with ⟨_, h2⟩ | ⟨_, _, h2, _⟩
    · unfold shadowIn lookIn
      simp only [he, h2, h1]
      rfl
    · rw [hl] at h2; cases h2

theorem e_attr {e : Expr} {name : Str} {pos : Pos} {Q : PV → St → Prop}
    (h : AE C lv env e σ (fun p σ₁ => ∃ i d K l ep v attr, p = .ref i ∧ σ₁.hp i = some (.inst K d) ∧ σ₁.hp d = some (.dict l ep) ∧ l.lookup name = some v ∧ (∀ w, v ≠ .obj w) ∧ findIn C.K (.ref K) "__getattribute__" = some (some (.builtin "object.__getattribute__")) ∧ hasDictIn C.K K = true ∧
      findIn C.K (.ref K) name = some attr ∧ noGet C.K attr = true ∧ Q v σ₁) X)
    (he : eval (.Attribute e name pos) env = (do
      let o ← eval e env
      standAt pos.atName
      let r ← holding [o] (getAttr o name true)
      letTemporaryGo e o r
      pure r) := by rfl) : AE C lv env (.Attribute e name pos) σ Q X := by
  refine ⟨fun A f s hA R => ?_⟩
  refine Attribute_any_ (h.use hA R (fun va a σ₁ f₁ s₁ h₁ ra R₁ E₁ => ?_) fun _ _ x => x) he
  obtain ⟨i, d, K, l, epd, v, attr, rfl, hi, hd, hl, hno, hga, hh, ha, hn, hq⟩ := h₁
  cases ra with
  | ref hlt =>
    obtain ⟨ox, od, es, I, _, ⟨ep, hes⟩, rd⟩ := inst_at R₁ hi hd
    obtain ⟨h1, h2⟩ := rep_look (name := name) rd
    rcases h2 with ⟨h2, _⟩ | ⟨en, p, h2, h3, hr⟩
    · rw [hl] at h2; cases h2
    · rw [hl] at h2; cases h2
      have hlook : lookIn name od = some (some en.val) := by unfold lookIn; simp only [hes, h3]
      refine get_value R₁.K I hga (findObj_own hh ha hn hlook) ?_ (Post.trans E₁ (Post.here R₁ hq hr (Nat.le_succ _)))
      generalize en.val = w at hr ⊢
      cases hr <;> first | rfl | exact absurd rfl (hno _)
end
end Mine

namespace Mine

theorem osa_at {prog : Program} {w : World} {A : Around} {R : Result → Shared → Prop} {K : Frag} {s : Shared} {x C dx : Addr} {ox od od' : Obj} {name : Str} {tk : Tok} {v : Value} {es : List DictEntry} {n : Nat} (X : K.In s.heap)
    (I : InstAt s.heap x ox C (some od)) (hd : ox.dict = some dx) (hp : plainOver K C = true) (ht : takerIn K C name = some none) (hh : (clsIn K C).any (·.hasDict) = true) (hl : (lookIn name od).isSome = true)
    (e : Obj.putName name (PyData.keyHash w.params name) (.str name s.toks) v od = od') (e' : od'.data = .dict es.toArray n) (hz : es.length ≤ 1000)
    (h : ∀ h', Heap.SameBut dx s.heap h' → h'.get? dx = some od' → R (.ok (.ret .none)) { s with heap := h', toks := s.toks + 1 }) :
    codeAny (model prog w) A (.call (.builtin "object.__setattr__") ⟨[.ref x, .str name tk, v], []⟩) R s := by
  refine osa_open X I hp ht fun b => ?_
  obtain ⟨cd, hc, hd'⟩ := any_some hh
  obtain ⟨hx, hcl, hn, hdd⟩ := I
  have D : s.heap.get? dx = some od := by rw [hd] at hdd; exact hdd
  have D' : (s.heap.update dx (Obj.putName name (PyData.keyHash w.params name) (.str name s.toks) v)).get? dx = some od' := by
    rw [Heap.get?_update_self _ D (by rw [e]; obtain ⟨_, _, dd, _⟩ := od'; cases e'; rfl), e]
  obtain ⟨oc, odi, oda, osl⟩ := ox
  dsimp only at hcl hd
  subst hcl hd
  refine wpAny_bind (wpAny_pure (wpAny_bind (wpAny_bind (wpAny_loadPart hx (wpAny_bind ((looks_clsIn X hc).here ?_))))))
  rw [hd']
  refine wpAny_pure (a := some dx) (wpAny_bind (wpAny_pure (wpAny_bind ?_)))
  unfold nsSet
  refine wpAny_bind (wpAny_bind (wpAny_askSetting (wpAny_pure (wpAny_bind (wpAny_mkText (wpAny_bind (wpAny_loadPart D ?_)))))))
  unfold lookIn at hl
  split at hl
  · rename_i es₀ n₀ q
    rw [q]
    dsimp only
    have c : (!es₀.any (·.key.isStr name) && es₀.any (·.refKey)) = false := by
      rw [← Array.any_toList, ← Array.any_toList]
      split at hl
      · rename_i en he
        rw [List.any_eq_true.mpr ⟨en, List.mem_of_find?_eq_some he, List.find?_some he⟩]; rfl
      · split at hl
        · cases hl
        · rename_i z; rw [Bool.not_eq_true] at z; rw [z, Bool.and_false]
    rw [aRefKeyMayBeTheName_at, c]
    refine wpAny_updatePart D ?_
    refine wpAny_bind (wpAny_lookBehind D' (by rw [e']; exact pastItsLine_dict (by rw [List.size_toArray, sizeLine_eq]; omega)) ?_)
    exact wpAny_pure (h _ (Heap.SameBut.update ..) D')
  · cases hl
end Mine
namespace Mine
section
variable {C : Cx} {lv : Lv} {env : Env} {σ : St} {X : String → List PV → St → Prop}
theorem s_attr0 {o value : Expr} {name : Str} {apos pos : Pos} {Q : PFlow → St → Prop}
    (h : AE C lv env value σ (fun v σ₁ => AE C lv env o σ₁ (fun po σ₂ => ∃ i d K ep, po = .ref i ∧ σ₂.hp i = some (.inst K d) ∧ σ₂.hp d = some (.dict [] ep) ∧ 0 < d ∧
      findIn C.K (.ref K) "__setattr__" = some (some (.builtin "object.__setattr__")) ∧ plainOver C.K K = true ∧ takerIn C.K K name = some none ∧ (clsIn C.K K).any (·.hasDict) = true ∧ Q .next (σ₂.upd d (.dict [(name, v)] (ep + 1)))) X) X)
    (hs : swapsWith value (some (.Attribute o name apos)) pos.line env = pure false := by rfl) : AS C lv env (.Assign [.Attribute o name apos] value pos) σ Q X := by
  refine ⟨fun A f s hA R => ?_⟩
  refine plainObj_wpAny_Assign_Attribute (h.use hA R (fun vv v σ₁ f₁ s₁ h₁ rv R₁ E₁ => ?_) fun _ _ x => x) hs
  refine h₁.use hA R₁ (fun vo po σ₂ f₂ s₂ h₂ ro R₂ E₂ => ?_) fun _ _ x => PostX.trans E₁ x
  obtain ⟨i, d, K, ep, rfl, hi, hd, hd0, hsa, hp, ht, hh, hq⟩ := h₂
  cases ro with
  | ref hlt =>
    obtain ⟨_, ox, g1, c1, d1, _, p1⟩ := R₂.objs i _ hi
    obtain ⟨hdlt, es, g2, r2, _, hsm⟩ := R₂.objs d _ hd
    cases r2
    have I : InstAt s₂.heap (f₂ i) ox K (some { cls := .type "dict", data := .dict ([] : List DictEntry).toArray ep }) := ⟨g1, c1, by unfold notCls; rw [p1], by rw [d1]; exact g2⟩
    refine set_plain R₂.K I hsa ?_
    refine osa_at (s := { s₂ with toks := s₂.toks + 1 }) (es := [⟨PyData.keyHash C.w.params name, .str name (s₂.toks + 1), vv⟩]) (n := ep + 1) R₂.K I d1 hp ht hh rfl rfl rfl (by simp) fun h' hsb hg' => ?_
    have hto : ∀ a ws, s₂.heap.IsTuple a ws → h'.IsTuple a ws := fun a ws ⟨o, e, c, r⟩ => ⟨o, (hsb.2 a (fun q => by rw [q, g2] at e; cases e; simp at c)).trans e, c, r⟩
    obtain ⟨R', E'⟩ := R₂.upd (s' := { s₂ with heap := h', toks := s₂.toks + 1 + 1 }) (ao' := .dict [(name, v)] (ep + 1)) hd hd0 g2 hg' rfl rfl hsb rfl rfl (by show s₂.toks ≤ s₂.toks + 1 + 1; omega)
      ⟨_, hg', .cons ((rv.ext R₁ E₂).mono (fun _ _ => rfl) (Nat.le_refl _) hto) .nil, by simp, hsm⟩
    exact ⟨_, _, _, hq, .next, R', (E₁.trans E₂).trans E'⟩
end
end Mine

namespace Mine
section
variable {C : Cx} {lv : Lv} {env : Env} {σ : St} {X : String → List PV → St → Prop}

end
end Mine

namespace Mine
section
variable {C : Cx} {lv : Lv} {env : Env} {σ : St} {X : String → List PV → St → Prop}
theorem o_is_type {a b : String} {Q : PV → St → Prop} (h : Q (.bool (Value.type a == Value.type b)) σ) : Op2 C lv env Rep (compareOp .Is) (.obj (.type a)) (.obj (.type b)) σ Q X := by
  refine ⟨fun A f s v w hA R hv hw => ?_⟩; (first | obtain ⟨_, rfl⟩ := Rep.intI hv | obtain ⟨_, rfl⟩ := Rep.strI hv | obtain rfl := Rep.boolI hv | obtain rfl := Rep.noneI hv | obtain rfl := Rep.objI hv); (first | obtain ⟨_, rfl⟩ := Rep.intI hw | obtain ⟨_, rfl⟩ := Rep.strI hw | obtain rfl := Rep.boolI hw | obtain rfl := Rep.noneI hw | obtain rfl := Rep.objI hw)
  exact wpAny_is_plain rfl (Post.now R h (.bool _))
theorem o_isnot_type {a b : String} {Q : PV → St → Prop} (h : Q (.bool (!(Value.type a == Value.type b))) σ) : Op2 C lv env Rep (compareOp .IsNot) (.obj (.type a)) (.obj (.type b)) σ Q X := by
  refine ⟨fun A f s v w hA R hv hw => ?_⟩; (first | obtain ⟨_, rfl⟩ := Rep.intI hv | obtain ⟨_, rfl⟩ := Rep.strI hv | obtain rfl := Rep.boolI hv | obtain rfl := Rep.noneI hv | obtain rfl := Rep.objI hv); (first | obtain ⟨_, rfl⟩ := Rep.intI hw | obtain ⟨_, rfl⟩ := Rep.strI hw | obtain rfl := Rep.boolI hw | obtain rfl := Rep.noneI hw | obtain rfl := Rep.objI hw)
  exact wpAny_isNot_plain rfl (Post.now R h (.bool _))
theorem c_type_str {x : Str} {Q : PV → St → Prop} (h : Q (.obj (.type "str")) σ) : ACall C lv env (.type "type") [.str x] [] σ Q X := by
  refine ⟨fun A f s vs ks hA R hv hk => ?_⟩
  cases hk
  cases hv with | cons hv hr => cases hr; cases hv; exact call_type_of (typeIs_str _ _ _) (by decide) (Post.now R h (.obj _))
theorem c_type_list {i : Nat} {l : List PV} {Q : PV → St → Prop} (hi : σ.hp i = some (.list l)) (h : Q (.obj (.type "list")) σ) : ACall C lv env (.type "type") [.ref i] [] σ Q X := by
  refine ⟨fun A f s vs ks hA R hv hk => ?_⟩
  cases hk
  cases hv with
  | cons hv hr =>
    cases hr
    cases hv with
    | ref hlt =>
      obtain ⟨_, vs, k, hget, hvs⟩ := R.objs i _ hi
      exact call_type_of ⟨_, hget, rfl⟩ (by decide) (Post.now R h (.obj _))
theorem c_lower {x : Str} {Q : PV → St → Prop} (hl : (Txt.lower x).length ≤ 16777216) (h : Q (.str (Txt.lower x)) σ) : ACall C lv env (.builtin "str.lower") [.str x] [] σ Q X := by
  refine ⟨fun A f s vs ks hA R hv hk => ?_⟩
  cases hk
  cases hv with | cons hv hr => cases hr; cases hv; exact SC.lower (by unfold Builtin.Str.tooLong; rw [sizeLine_eq]; exact decide_eq_false (by omega)) (Post.here R h (.str _ _) (Nat.le_succ _))
end
end Mine

namespace Mine
structure FnM (C : Cx) (K : Addr) (name : Str) (st : Stmt) (a : Addr) (fd : FuncData) : Prop where
  find : findIn C.K (.ref K) name = some (some (.ref a))
  typ : typeIn C.K (.ref a) = some (.type "function")
  keep : keepIn C.K (.ref a) = true
  fn : FnAt C a fd (bodyOf st)
  names : fd.scope.names = namesOf st
structure ClsM (C : Cx) (K : Addr) : Prop where
  ga : findIn C.K (.ref K) "__getattribute__" = some (some (.builtin "object.__getattribute__"))
  gattr : findIn C.K (.ref K) "__getattr__" = some none
  sa : findIn C.K (.ref K) "__setattr__" = some (some (.builtin "object.__setattr__"))
  makes : makesIn C.K K = true
  dict : hasDictIn C.K K = true
  over : plainOver C.K K = true
section
variable {C : Cx} {lv : Lv} {env : Env} {σ : St} {X : String → List PV → St → Prop}
end
end Mine

namespace Mine

def Gr (h h' : Heap) : Prop := h.objs.size ≤ h'.objs.size ∧ ∀ b, b < h.objs.size → h.get? b = none → h'.get? b = none
theorem Gr.refl (h : Heap) : Gr h h := ⟨Nat.le_refl _, fun _ _ e => e⟩
theorem Gr.trans {a b c : Heap} (x : Gr a b) (y : Gr b c) : Gr a c := ⟨Nat.le_trans x.1 y.1, fun i h e => y.2 i (Nat.lt_of_lt_of_le h x.1) (x.2 i h e)⟩
theorem Gr.push (h : Heap) (o : Obj) : Gr h (h.push o) := by
  refine ⟨by rw [Heap.size_push]; exact Nat.le_succ _, fun b hb e => ?_⟩
  unfold Heap.get? at e ⊢
  have : (h.push o).objs[b]? = h.objs[b]? := by
    show (h.objs.push o)[b]? = _
    rw [Array.getElem?_push]
    rw [if_neg (Nat.ne_of_lt hb)]
  rw [this]; exact e
theorem Gr.update {h : Heap} {a : Addr} {f : Obj → Obj} (ha : (h.get? a).isSome) : Gr h (h.update a f) := by
  refine ⟨by rw [Heap.size_after_update]; exact Nat.le_refl _, fun b hb e => ?_⟩
  rw [Heap.get?_update_other _ _ (fun q => by subst q; rw [e] at ha; cases ha)]; exact e

theorem runs_dead {M : Model} {Γ : Ctx} {p : Pos} {t : Sem Fin} {fs : List Frame} {s s' : Shared} {e : End} (h : Runs M Γ p t fs s e s') : Gr s.heap s'.heap := by
  induction h <;> first
    | exact Gr.refl _
    | assumption
    | exact Gr.trans (Gr.update (by assumption)) (by assumption)
    | exact Gr.trans (Gr.push _ _) (by assumption)
    | (rename_i a b; exact Gr.trans (by assumption) (by assumption))
    | exact Gr.trans (by assumption) (by assumption)
theorem wakes_dead {M : Model} {Γ : Ctx} {p : Pos} {g : Nat} {r : Resume} {s s' : Shared} {res : GenResult} (h : Wakes M Γ p g r s res s') : Gr s.heap s'.heap := by
  unfold Wakes at h
  split at h
  · exact h.elim
  · split at h
    · obtain ⟨e₁, s₁, hr, _, _, rfl⟩ := h; exact (runs_dead hr : Gr (s.setGen g .running).heap s₁.heap)
    · rw [h.2]; exact Gr.refl _
    · rw [h.2]; exact Gr.refl _
  · obtain ⟨e₁, s₁, hr, _, _, rfl⟩ := h; exact (runs_dead hr : Gr (s.setGen g .running).heap s₁.heap)
  · rw [h.2]; exact Gr.refl _
  · rw [h.2]; exact Gr.refl _

theorem wp_dead0 {α : Type} (M : Model) (Γ : Ctx) (h₀ : Heap) (t : Sem α) : ∀ (Q : α → Pos → Shared → Prop) (E : Value → Pos → Shared → Prop) (p : Pos) (s : Shared), Gr h₀ s.heap → Sem.wp M Γ t Q E p s →
    Sem.wp M Γ t (fun a p' s' => Gr h₀ s'.heap ∧ Q a p' s') (fun e p' s' => Gr h₀ s'.heap ∧ E e p' s') p s := by
  induction t with
  | pure a => intro Q E p s hn h; exact ⟨hn, h⟩
  | raise e => intro Q E p s hn h; exact ⟨hn, h⟩
  | unsupported _ | finish _ | register _ _ | yield _ _ _ _ | fork _ _ | await _ _ _ _ _ => intro Q E p s _ h; exact h
  | rule _ k ih | point _ k ih => intro Q E p s hn h; exact ih () Q E p s hn h
  | «at» p' k ih => intro Q E p s hn h; exact ih () Q E p' s hn h
  | load a _ k ih => intro Q E p s hn h; obtain ⟨o, ho, h⟩ := h; exact ⟨o, ho, ih o Q E p s hn h⟩
  | update a _ f k ih => intro Q E p s hn h; exact ⟨h.1, ih () Q E p _ (hn.trans (Gr.update h.1)) h.2⟩
  | loadIfAlive a k ih | ask k ih | handled _ k ih | stack k ih | thread k ih => intro Q E p s hn h; exact ih _ Q E p s hn h
  | alloc o k ih => intro Q E p s hn h; exact ih _ Q E p _ (hn.trans (Gr.push _ _)) h
  | fresh k ih | os _ _ k ih | newGen c k ih => intro Q E p s hn h; exact ih _ Q E p _ hn h
  | choose src m k ih => intro Q E p s hn h; exact ⟨h.1, ih _ Q E p _ hn h.2⟩
  | call c hd _ _ k ih => intro Q E p s hn h; obtain ⟨r, s', hr, h⟩ := h; exact ⟨r, s', hr, ih r Q E p s' (hn.trans (runs_dead hr)) h⟩
  | genState g k ih => intro Q E p s hn h; obtain ⟨st, hs, h⟩ := h; exact ⟨st, hs, ih _ Q E p s hn h⟩
  | resume g r _ k ih => intro Q E p s hn h; obtain ⟨res, s', hw, h⟩ := h; exact ⟨res, s', hw, ih res Q E p s' (hn.trans (wakes_dead hw)) h⟩
theorem wp_dead {α : Type} {M : Model} {A : Around} {s : Shared} {t : Sem α} {Q : α → Shared → Prop} {E : Value → Shared → Prop}
    (h : wpAny M A t (fun a s' => Gr s.heap s'.heap → Q a s') (fun e s' => Gr s.heap s'.heap → E e s') s) : wpAny M A t Q E s := by
  have h2 : wpAny M A t (fun a s' => Gr s.heap s'.heap ∧ (Gr s.heap s'.heap → Q a s')) (fun e s' => Gr s.heap s'.heap ∧ (Gr s.heap s'.heap → E e s')) s :=
    fun Γ p hΓ => wp_dead0 M Γ s.heap t (fun a _ s' => Gr s.heap s'.heap → Q a s') (fun e _ s' => Gr s.heap s'.heap → E e s') p s (Gr.refl _) (h Γ p hΓ)
  exact wpAny_mono h2 (fun _ _ x => x.2 x.1) fun _ _ x => x.2 x.1
theorem Gr.new {h h' : Heap} (g : Gr h h') {a : Addr} {o : Obj} (h1 : h.get? a = none) (h2 : h'.get? a = some o) : h.objs.size ≤ a := by
  rcases Nat.lt_or_ge a h.objs.size with q | q
  · rw [g.2 a q h1] at h2; cases h2
  · exact q
end Mine

namespace Mine
def St.forget (σ : St) (x : Str) (q : Option PV) : St := { σ with loc := fun y => if y = x then q else σ.loc y }

theorem erase_find {α : Type} (p : α → Bool) : ∀ (l : List α) (i : Nat), (∀ x, l[i]? = some x → p x = false) → (l.eraseIdx i).find? p = l.find? p
  | [], _, _ => by simp
  | a :: r, 0, h => by
    rw [List.eraseIdx_cons_zero, List.find?_cons_of_neg (by rw [h a rfl]; decide)]
  | a :: r, i + 1, h => by
    rw [List.eraseIdx_cons_succ, List.find?_cons, List.find?_cons, erase_find p r i fun x hx => h x (by simpa using hx)]

section
variable {M : Model} {A : Around} {E : Value → Shared → Prop} {s : Shared}
theorem ns_del {a : Addr} {m : Str → Option Value} {name : Str} {Q : Bool → Shared → Prop} (hn : s.heap.Ns a m) (hs : (m name).isSome = true)
    (hQ : ∀ h' m', h'.Ns a m' → (∀ y, y ≠ name → m' y = m y) → Heap.SameBut a s.heap h' → Q true { s with heap := h' }) : wpAny M A (nsDel a name) Q E s := by
  obtain ⟨o, es, ep, ho, hd, hk, hm⟩ := hn
  have hany : es.any (·.refKey) = false := by
    rw [Array.any_eq_false']; intro e he; obtain ⟨n, t, h⟩ := hk e he; simp [DictEntry.refKey, h]
  have hin : ∃ e, es.find? (fun e => e.key.isStr name) = some e := by
    have h1 := hm name
    rw [← h1] at hs
    unfold nsFind findBy at hs
    rw [Option.isSome_map] at hs
    exact Option.isSome_iff_exists.mp hs
  obtain ⟨e, he⟩ := hin
  have hex : es.any (·.key.isStr name) = true := by
    have h2 := Array.mem_of_find?_eq_some he
    have h3 := Array.find?_some he
    rw [Array.any_eq_true']; exact ⟨e, h2, h3⟩
  have hhas : nsHas name o = pure true := by
    rw [nsHas_eq]; unfold nsHasByArray; rw [hd]
    show (if (es.any fun x => x.key.isStr name) = true then _ else _) = _
    rw [hex]; rfl
  unfold nsDel
  refine wpAny_bind (wpAny_loadPart ho ?_)
  rw [hhas]
  refine wpAny_bind (wpAny_pure ?_)
  rw [if_pos rfl]
  refine wpAny_bind (wpAny_updatePart ho (wpAny_pure ?_))
  obtain ⟨cl, d, dt, sl⟩ := o
  subst hd
  cases hi : es.findIdx? (·.key.isStr name) with
  | none =>
    have : es.any (·.key.isStr name) = false := by
      rw [Array.any_eq_false']
      intro x hx
      have := Array.findIdx?_eq_none_iff.mp hi x hx
      simpa using this
    rw [this] at hex; cases hex
  | some i =>
    refine hQ _ (fun y => nsFind (es.eraseIdxIfInBounds i) y) ⟨_, _, ep + 1, Heap.get?_update_self _ ho (by simp only [Obj.dropName_eq, Obj.dropNameByArray, hi] <;> rfl), (by simp only [Obj.dropName_eq, Obj.dropNameByArray, hi] <;> rfl), hk.erase i, fun _ => rfl⟩ (fun y hy => ?_) (Heap.SameBut.update ..)
    have hit : ∃ h : i < es.size, (es[i]).key.isStr name = true := by
      obtain ⟨h1, h2, _⟩ := Array.findIdx?_eq_some_iff_getElem.mp hi
      exact ⟨h1, h2⟩
    obtain ⟨hlt, hkey⟩ := hit
    show nsFind (es.eraseIdxIfInBounds i) y = m y
    rw [← hm y]
    unfold nsFind findBy
    congr 1
    have e1 : es.eraseIdxIfInBounds i = (es.toList.eraseIdx i).toArray := by
      unfold Array.eraseIdxIfInBounds
      rw [dif_pos hlt]
      exact (Array.toArray_toList (xs := es.eraseIdx i hlt)).symm.trans (by rw [Array.toList_eraseIdx])
    rw [e1, List.find?_toArray, ← Array.find?_toList]
    refine erase_find _ _ _ fun x hx => ?_
    have hx' : x = es[i] := by
      rw [Array.getElem?_toList, Array.getElem?_eq_getElem hlt] at hx
      exact (Option.some.inj hx).symm
    rw [hx']
    obtain ⟨n, t, hnt⟩ := hk es[i] (Array.getElem_mem hlt)
    rw [hnt] at hkey ⊢
    have h3 : (n == name) = true := hkey
    have h4 : n = name := beq_iff_eq.mp h3
    show (n == y) = false
    rw [h4]
    rw [← Bool.not_eq_true, beq_iff_eq]
    exact fun q => hy q.symm
end

section
variable {C : Cx} {lv : Lv} {env : Env} {σ σ' : St} {X : String → List PV → St → Prop} {fs : List Env} {f f' : Nat → Addr} {s s' : Shared}

theorem Ext.noneOf (E : Ext env f σ s f' σ' s') (R' : Rel C fs env f' σ' s') {b : Addr} (hb : s'.heap.get? b = none) : s.heap.get? b = none := by
  cases hq : s.heap.get? b with
  | none => rfl
  | some o =>
    have hout : Out env f σ.n b := by
      refine ⟨fun i _ hi q => ?_, fun q => ?_, fun x c hc q => ?_⟩
      · obtain ⟨o', e, _⟩ := R'.kind i (Nat.lt_of_lt_of_le hi E.le)
        rw [E.agree i hi, ← q, hb] at e; cases e
      · obtain ⟨m, ⟨o', _, _, e, _⟩, _⟩ := R'.ns
        rw [← q, hb] at e; cases e
      · obtain ⟨v, o', e, _⟩ := R'.call x c hc
        rw [← q, hb] at e; cases e
    obtain ⟨o', e, _⟩ := E.keep b o hq hout
    rw [hb] at e; cases e

theorem made_flight {f₀ : Nat → Addr} {σ₀ : St} {s₀ : Shared} {cls : String} {vs : List Value} {ps : List PV} {e : Addr} {h' : Heap} (R : Rel C fs env f σ s) (E : Ext env f₀ σ₀ s₀ f σ s) (hvs : RepL f σ.n s.heap vs ps) (M : Heap.MadeExc s.heap h' e cls vs) (g : Gr s₀.heap h') (hx : X cls ps σ) :
    PostX C fs env X f₀ σ₀ s₀ (.ref e) { s with heap := h' } := by
  obtain ⟨t, h1, h2, h3⟩ := M.there
  have ht : ∀ a ws, s.heap.IsTuple a ws → h'.IsTuple a ws := fun a ws ⟨o, e, r⟩ => ⟨o, M.keeps _ _ e, r⟩
  have hfe : ∀ i, i < σ.n → f i ≠ e := fun i hi q => by obtain ⟨o, h4, _⟩ := R.kind i hi; rw [q, M.new] at h4; cases h4
  have hbe : C.base.get? e = none := by
    cases hq : C.base.get? e with
    | none => rfl
    | some o => have := R.base _ _ hq; rw [M.new] at this; cases this
  refine ⟨cls, ps, σ, f, hx, ⟨e, none, rfl, ⟨g.new (E.noneOf R M.new) h1, hbe, hfe, t, vs, _, _, ⟨_, h3, rfl, _, rfl⟩, hvs.mono (fun _ _ => rfl) (Nat.le_refl _) ht, h1, rfl, rfl, rfl, rfl⟩, .inl rfl⟩, R.keeps (s' := { s with heap := h' }) M.keeps rfl rfl (Nat.le_refl _), ⟨E.le, E.agree, E.new, fun b o e h => let ⟨o', e', k⟩ := E.keep b o e h; ⟨o', M.keeps _ _ e', k⟩, E.grow.trans (.keeps M.keeps), g.1⟩⟩

theorem s_raise {cls newId initId : String} (FC : ExcCallFacts cls newId initId) (FR : ExcRaiseFacts cls) {x : Str} {np cpos pos : Pos} {e₀ : Expr} {rest : List Expr} {Q : PFlow → St → Prop} (hn : lv.hn = true)
    (h : AE C lv env (.Name x np) σ (fun p σ₁ => p = .obj (.type cls) ∧ AL C lv env (e₀ :: rest) cpos σ₁ (fun ps σ₂ => ps.length ≤ 16777216 ∧ X cls ps σ₂) X) X)
    (he : starEach (e₀ :: rest) env = (false, eval e₀ env) :: starEach rest env := by rfl) (hplain : (backTo cpos (starEach rest env)).any (·.1) = false := by rfl) :
    AS C lv env (.Raise (some (.Call (.Name x np) (e₀ :: rest) [] cpos)) none pos) σ Q X := by
  refine ⟨fun A f s hA R => ?_⟩
  refine wp_dead (Raise_madeB FC FR (hA.handled hn) (h.use hA R (fun vx p σ₁ f₁ s₁ h₁ rx R₁ E₁ => ?_) fun e s' x _ => x) he hplain)
  obtain ⟨rfl, h₁⟩ := h₁
  cases rx
  exact ⟨rfl, h₁.use hA R₁ (fun vs ps σ₂ f₂ s₂ h₂ rs R₂ E₂ => ⟨by rw [rs.length, sizeLine_eq]; exact h₂.1, fun h' e M g => made_flight R₂ (E₁.trans E₂) rs M g h₂.2⟩) fun e s' x _ => PostX.trans E₁ x⟩
end
end Mine

namespace Mine
section
variable {C : Cx} {lv : Lv} {env : Env} {σ σ' : St} {X : String → List PV → St → Prop} {fs : List Env} {f f' : Nat → Addr} {s s' : Shared}

theorem FlT.ext {k₀ : Nat} {a : Addr} {cls : String} {args : List PV} {tb : Option Value} (x : FlT C f σ.n k₀ s.heap a cls args tb) (R : Rel C fs env f σ s) (E : Ext env f σ s f' σ' s') : FlT C f' σ'.n k₀ s'.heap a cls args tb := by
  obtain ⟨h1, h2, h3, t, vs, oe, fv, h4, h5, h6, h7, h8, h9, h10⟩ := x
  have hx : ∀ b o ws, s.heap.get? b = some o → o.data = .fields ws → (∀ i, i < σ.n → f i ≠ b) → s'.heap.get? b = some o ∧ ∀ i, i < σ'.n → f' i ≠ b := by
    intro b o ws e d hf
    have hout : Out env f σ.n b := by
      refine ⟨fun i _ hi q => hf i hi q.symm, fun q => ?_, fun y c hc q => ?_⟩
      · obtain ⟨m, ⟨o₁, es, ep, e₁, d₁, _⟩, _⟩ := R.ns
        rw [← q, e] at e₁; cases e₁; rw [d] at d₁; cases d₁
      · obtain ⟨v, o₁, e₁, d₁⟩ := R.call y c hc
        rw [← q, e] at e₁; cases e₁; rw [d] at d₁; cases d₁
    obtain ⟨o', e', k⟩ := E.keep b o e hout
    rw [k.eq (by rw [d]; rfl)] at e'
    refine ⟨e', fun i hi => ?_⟩
    rcases Nat.lt_or_ge i σ.n with q | q
    · rw [E.agree i q]; exact hf i q
    · exact Nat.ne_of_gt (Nat.lt_of_lt_of_le (Heap.lt_size e) (E.new i q hi))
  obtain ⟨q1, q2⟩ := hx a oe fv h6 h8 h3
  refine ⟨h1, h2, q2, t, vs, oe, fv, R.tups E _ _ h4, h5.ext R E, q1, h7, h8, h9, ?_⟩
  cases tb with
  | none => exact h10
  | some v =>
    obtain ⟨T, oT, ts, k1, k2, k3, k4, k5, k6, k7, k8⟩ := h10
    obtain ⟨r1, r2⟩ := hx T oT ts k6 k7 k4
    exact ⟨T, oT, ts, k1, k2, k3, r2, k5, r1, k7, k8⟩

theorem Rel.adopt {f₀ : Nat → Addr} {σ₀ : St} {s₀ : Shared} {a : Addr} {cls : String} {args : List PV} {tb : Option Value} (R : Rel C fs env f σ s) (E : Ext env f₀ σ₀ s₀ f σ s) (x : FlT C f σ.n s₀.heap.objs.size s.heap a cls args tb) (hne : cls ≠ "tuple") :
    Rel C fs env (fun i => if i = σ.n then a else f i) (σ.alloc (.exc cls args)) s ∧ Ext env f₀ σ₀ s₀ (fun i => if i = σ.n then a else f i) (σ.alloc (.exc cls args)) s := by
  obtain ⟨h1, h2, h3, t, vs, oe, fv, h4, h5, h6, h7, h8, h9, h10⟩ := x
  have hf : ∀ i, i < σ.n → (if i = σ.n then a else f i) = f i := fun i hi => if_neg (Nat.ne_of_lt hi)
  have split : ∀ i, i < σ.n + 1 → i = σ.n ∨ i < σ.n := fun i hi => by omega
  refine ⟨⟨R.base, ?_, ?_, ?_, ?_, ?_, ?_, R.call, R.cinj, R.newL, R.newC, ?_, ?_, R.frs.alloc (fun o e => by rw [h6] at e; cases e; rw [h8]; rfl), R.os, R.gens, R.tok⟩, ⟨Nat.le_succ_of_le E.le, fun i hi => (hf i (Nat.lt_of_lt_of_le hi E.le)).trans (E.agree i hi), ?_, E.keep, E.grow, E.size⟩⟩
  · intro i j hi hj e
    rcases split i hi with rfl | hi' <;> rcases split j hj with rfl | hj'
    · rfl
    · rw [if_pos rfl, hf j hj'] at e; exact absurd e.symm (h3 j hj')
    · rw [if_pos rfl, hf i hi'] at e; exact absurd e (h3 i hi')
    · rw [hf i hi', hf j hj'] at e; exact R.inj i j hi' hj' e
  · intro i hi
    rcases split i hi with rfl | hi'
    · exact ⟨oe, by rw [if_pos rfl]; exact h6, by rw [h7]; intro q; injection q with q; exact hne q⟩
    · rw [hf i hi']; exact R.kind i hi'
  · intro i h0 hi
    rcases split i hi with rfl | hi'
    · rw [if_pos rfl]; exact h2
    · rw [hf i hi']; exact R.fresh i h0 hi'
  · intro i o' e
    simp only [St.alloc] at e ⊢
    by_cases q : i = σ.n
    · rw [if_pos q] at e; cases e; rw [if_pos q]
      exact ⟨by omega, oe, fv, t, vs, h6, h7, h8, h9, h4, h5.mono hf (Nat.le_succ _) fun _ _ x => x⟩
    · rw [if_neg q] at e
      obtain ⟨k1, k2⟩ := R.objs i o' e
      rw [if_neg q]
      exact ⟨by omega, ORep.mono hf (Nat.le_succ _) (fun _ _ x => x) (fun o e => e) k2⟩
  · obtain ⟨m, hn, hm⟩ := R.ns
    exact ⟨m, hn, fun x hx => RepO.mono hf (Nat.le_succ _) (fun _ _ x => x) (hm x hx)⟩
  · intro x hx
    obtain ⟨c, v, k1, k2, k3⟩ := R.cs x hx
    exact ⟨c, v, k1, k2, RepO.mono hf (Nat.le_succ _) (fun _ _ x => x) k3⟩
  · intro i hi
    rcases split i hi with rfl | hi'
    · rw [if_pos rfl]
      obtain ⟨m, ⟨o', _, _, e, d, _⟩, _⟩ := R.ns
      intro q; rw [← q, h6] at e; cases e; rw [h8] at d; cases d
    · rw [hf i hi']; exact R.sepL i hi'
  · intro i hi x c hc'
    rcases split i hi with rfl | hi'
    · rw [if_pos rfl]
      obtain ⟨v, o', e, d⟩ := R.call x c hc'
      intro q; rw [← q, h6] at e; cases e; rw [h8] at d; cases d
    · rw [hf i hi']; exact R.sepC i hi' x c hc'
  · intro i k1 k2
    simp only [St.alloc] at k2
    rcases split i k2 with rfl | hi'
    · rw [if_pos rfl]; exact h1
    · rw [hf i hi']; exact E.new i k1 hi'

theorem OkA.mark {A : Around} (hA : OkA lv A) (e : Value) : OkA ⟨lv.d, false, lv.fs⟩ (A.mark (some e)) := ⟨hA.depth, hA.units, hA.frames, hA.guards, (fun q => nomatch q), hA.small⟩

structure AHs (C : Cx) (lv : Lv) (env : Env) (hs : List ExceptHandler) (cls : String) (args : List PV) (σ : St) (Q : PFlow → St → Prop) (X : String → List PV → St → Prop) : Prop where
  run : ∀ A f s f₀ σ₀ s₀ a, OkA lv A → Rel C lv.fs env f σ s → Ext env f₀ σ₀ s₀ f σ s → FlT C f σ.n s₀.heap.objs.size s.heap a cls args (some .none) →
    wpAny C.M A (handleBy (.ref a) env hs) (Post C lv.fs env RepF Q f₀ σ₀ s₀) (PostX C lv.fs env X f₀ σ₀ s₀) s

theorem s_try {body orelse : List Stmt} {h₀ : ExceptHandler} {hs : List ExceptHandler} {pos : Pos} {Q : PFlow → St → Prop} (hF : FrameOk lv env)
    (h : ASs C lv env body σ (fun fl σ₁ => (fl = .next → ASs C lv env orelse σ₁ Q X) ∧ (fl ≠ .next → Q fl σ₁)) (fun cls args σ₁ => AHs C lv env (h₀ :: hs) cls args σ₁ Q X)) :
    AS C lv env (.Try body (h₀ :: hs) orelse [] pos) σ Q X := by
  refine ⟨fun A f s hA R => ?_⟩
  refine wpAny_Try_except (h.use hA R (fun fl pfl σ₁ f₁ s₁ h₁ hr R₁ E₁ => ?_) fun e s' hx => ?_)
  · cases hr with
    | next => exact wpAny_mono ((h₁.1 rfl).run A f₁ s₁ hA R₁) (fun _ _ x => Post.trans E₁ x) fun _ _ x => PostX.trans E₁ x
    | brk => exact ⟨_, σ₁, f₁, h₁.2 (by intro q; cases q), .brk, R₁, E₁⟩
    | cont => exact ⟨_, σ₁, f₁, h₁.2 (by intro q; cases q), .cont, R₁, E₁⟩
    | ret hv => exact ⟨_, σ₁, f₁, h₁.2 (by intro q; cases q), .ret hv, R₁, E₁⟩
  · obtain ⟨cls, args, σ₁, f₁, hx, hfl, R₁, E₁⟩ := hx
    obtain ⟨outer, ho⟩ := hF.top
    have hfr := hA.frames
    have R₁' := R₁
    rw [ho] at hfr R₁'
    refine note_flight hfr hF.frame R₁' E₁.size hfl fun s₂ a ea R₂ E₂ hfl₂ => ?_
    subst ea
    refine set_flight R₂ hfl₂ fun s₃ R₃ E₃ hfl₃ => ?_
    exact hx.run A f₁ s₃ f σ s a hA (by rw [ho]; exact R₃) (E₃ _ _ _ (Nat.le_refl _) (E₂ _ _ _ (Nat.le_refl _) E₁)) hfl₃

theorem FlT.typeIs {k₀ : Nat} {a : Addr} {cls : String} {args : List PV} {tb : Option Value} (x : FlT C f σ.n k₀ s.heap a cls args tb) : s.TypeIs (.ref a) cls := by
  obtain ⟨h1, h2, h3, t, vs, oe, fv, h4, h5, h6, h7, h8, h9, h10⟩ := x
  exact ⟨oe, h6, h7⟩

structure CanCatch (T : String) : Prop where
  exc : isSubtype (.type T) (.type "BaseException") = pure true
  nt : isSubtype (.type ((Manifest.find? T).elim "type" fun x => x.metatype)) (.type "tuple") = pure false

theorem h_skip {cls T : String} {args : List PV} {t : Expr} {name : Option Str} {b₀ : Stmt} {suite : List Stmt} {pos : Pos} {rest : List ExceptHandler} {Q : PFlow → St → Prop} (hT : CanCatch T) (hsub : isSubtype (.type cls) (.type T) = pure false)
    (ht : AE C ⟨lv.d, false, lv.fs⟩ env t σ (fun p σ' => p = .obj (.type T) ∧ σ' = σ) NoX) (h : AHs C lv env rest cls args σ Q X) : AHs C lv env (.ExceptHandler (some t) name (b₀ :: suite) pos :: rest) cls args σ Q X := by
  refine ⟨fun A f s f₀ σ₀ s₀ a hA R E hfl => ?_⟩
  cases name with
  | none =>
    refine wpAny_handleBy_builtin (b := false) hT.exc hT.nt hsub (ht.use (hA.mark _) R (fun vt p σ₁ f₁ s₁ h₁ rt R₁ E₁ => ?_) fun e s' ⟨_, _, _, _, hx, _, _, _⟩ => hx.elim)
    obtain ⟨rfl, rfl⟩ := h₁
    cases rt
    refine ⟨rfl, hfl.ext R E₁ |>.typeIs, ?_⟩
    exact h.run A f₁ s₁ f₀ σ₀ s₀ a hA R₁ (E.trans E₁) (hfl.ext R E₁)
  | some n =>
    refine wpAny_handleBy_builtin_as (b := false) hT.exc hT.nt hsub (ht.use (hA.mark _) R (fun vt p σ₁ f₁ s₁ h₁ rt R₁ E₁ => ?_) fun e s' ⟨_, _, _, _, hx, _, _, _⟩ => hx.elim)
    obtain ⟨rfl, rfl⟩ := h₁
    cases rt
    refine ⟨rfl, hfl.ext R E₁ |>.typeIs, ?_⟩
    exact h.run A f₁ s₁ f₀ σ₀ s₀ a hA R₁ (E.trans E₁) (hfl.ext R E₁)

theorem Rel.nameGoes {n : Str} {pos : Pos} {A : Around} {Q : Unit → Shared → Prop} {E : Value → Shared → Prop} (R : Rel C fs env f σ s) (hk : env.scope.kind = .function) (hl : env.kindOf n = some .local)
    (h : ∀ q s', Rel C fs env f (σ.forget n q) s' → Ext env f σ s f (σ.forget n q) s' → Q () s') : wpAny C.M A (do bindName env n .none; unbindBehindTheSuite env n pos) Q E s := by
  refine wpAny_bind (wpAny_bindName (R.store hk .none (.inl hl) fun s₁ R₁ E₁ => ?_))
  unfold unbindBehindTheSuite
  refine wpAny_onRaise ?_
  unfold unbindName
  refine wpAny_bind (wpAny_point (wpAny_bind ?_))
  have hp : (env.scope.kind == .class || (env.scope.kind == .module && env.locals != env.globals)) = false := by rw [hk]; rfl
  unfold deleteName
  simp only [hl, hp]
  rw [if_neg (by decide)]
  obtain ⟨m, hn, hm⟩ := R₁.ns
  have hmn : (m n).isSome = true := by
    have := hm n hl
    rw [St.set_loc, if_pos rfl] at this
    cases hq : m n with
    | none => rw [hq] at this; exact this.elim
    | some v => rfl
  refine wpAny_bind (ns_del hn hmn fun h₂ m₂ hn₂ hm₂ hs₂ => ?_)
  simp only [Bool.not_true, Bool.false_eq_true, if_false]
  refine wpAny_pure (wpAny_point ?_)
  obtain ⟨oL, esL, epL, heL, hdL, hrL⟩ := hn
  have hn₂' := hn₂
  obtain ⟨oL', esL', epL', heL', hdL', hrL'⟩ := hn₂'
  have ht : ∀ b vs, s₁.heap.IsTuple b vs → h₂.IsTuple b vs := fun b vs ⟨o₁, e₁, c₁, n, d₁⟩ => ⟨o₁, (hs₂.2 b fun q => by rw [q, heL] at e₁; cases e₁; rw [d₁] at hdL; cases hdL).trans e₁, c₁, n, d₁⟩
  have hcell : ∀ c w, s₁.heap.IsCell c w → c ≠ env.locals := fun c w ⟨o₁, e₁, d₁⟩ q => by rw [q, heL] at e₁; cases e₁; rw [hdL] at d₁; cases d₁
  obtain ⟨R', E'⟩ := R₁.frameStep (s' := { s₁ with heap := h₂ }) (loc := fun y => if y = n then (m₂ n).map PV.obj else σ.loc y) heL (fun vs n q => by rw [hdL] at q; cases q) (.inl rfl) hs₂ heL' (by rw [hdL, hdL']; rfl) rfl rfl (Nat.le_refl _)
    ⟨_, hn₂, fun y hy => by
      dsimp only
      by_cases q : y = n
      · subst q
        rw [if_pos rfl]
        cases hq : m₂ y with
        | none => trivial
        | some v => exact .obj v
      · rw [if_neg q, hm₂ y q]
        have := hm y hy
        rw [St.set_loc, if_neg q] at this
        exact RepO.mono (fun _ _ => rfl) (Nat.le_refl _) ht this⟩
    (fun y hy => by
      have hyx : y ≠ n := fun q => by subst q; rw [hl] at hy; rcases hy with hy | hy <;> cases hy
      obtain ⟨c, w, h1, h2, h3⟩ := R₁.cs y hy
      rw [St.set_loc, if_neg hyx] at h3
      exact ⟨c, w, h1, h2.sameBut hs₂ (hcell c w h2), by dsimp only; rw [if_neg hyx]; exact RepO.mono (fun _ _ => rfl) (Nat.le_refl _) ht h3⟩)
    (fun y c hc => let ⟨w, hw⟩ := R₁.call y c hc; ⟨w, hw.sameBut hs₂ (hcell _ w hw)⟩)
  exact h _ _ R' (E₁.trans E')

theorem h_as {cls T : String} {args : List PV} {t : Expr} {n : Str} {b₀ : Stmt} {suite : List Stmt} {pos : Pos} {rest : List ExceptHandler} {Q : PFlow → St → Prop} (hT : CanCatch T) (hsub : isSubtype (.type cls) (.type T) = pure true) (hne : cls ≠ "tuple") (he : EnvOk env) (hl : env.kindOf n = some .local)
    (ht : AE C ⟨lv.d, false, lv.fs⟩ env t σ (fun p σ' => p = .obj (.type T) ∧ σ' = σ) NoX)
    (h : ASs C ⟨lv.d, false, lv.fs⟩ env (b₀ :: suite) ((σ.alloc (.exc cls args)).set n (.ref σ.n)) (fun fl σ' => ∀ q, Q fl (σ'.forget n q)) NoX) : AHs C lv env (.ExceptHandler (some t) (some n) (b₀ :: suite) pos :: rest) cls args σ Q X := by
  refine ⟨fun A f s f₀ σ₀ s₀ a hA R E hfl => ?_⟩
  refine wpAny_handleBy_builtin_as (b := true) hT.exc hT.nt hsub (ht.use (hA.mark _) R (fun vt p σ₁ f₁ s₁ h₁ rt R₁ E₁ => ?_) fun e s' ⟨_, _, _, _, hx, _, _, _⟩ => hx.elim)
  obtain ⟨rfl, rfl⟩ := h₁
  cases rt
  refine ⟨rfl, hfl.ext R E₁ |>.typeIs, ?_⟩
  refine set_flight R₁ (hfl.ext R E₁) fun s₂ R₂ E₂ hfl₂ => ?_
  have E₃ := E₂ _ _ _ (Nat.le_refl _) (E.trans E₁)
  obtain ⟨R₃, E₄⟩ := R₂.adopt E₃ hfl₂ hne
  have hrep : Rep (fun i => if i = σ₁.n then a else f₁ i) (σ₁.alloc (.exc cls args)).n s₂.heap (.ref a) (.ref σ₁.n) := rep_new
  refine R₃.store he.kind hrep (.inl hl) fun s₄ R₄ E₅ => ?_
  refine h.use (hA.mark _) R₄ (fun fl pfl σ₅ f₅ s₅ h₅ hr R₅ E₆ => ?_) fun e s' ⟨_, _, _, _, hx, _, _, _⟩ => hx.elim
  refine R₅.nameGoes he.kind hl fun q s₆ R₆ E₇ => ⟨pfl, _, f₅, h₅ q, ?_, R₆, ((E₄.trans E₅).trans E₆).trans E₇⟩
  cases hr with
  | ret hv => exact .ret (hv.ext R₅ E₇)
  | next => exact .next
  | brk => exact .brk
  | cont => exact .cont

theorem c_exc {cls newId initId : String} (FC : ExcCallFacts cls newId initId) {ps : List PV} {Q : PV → St → Prop} (hl : ps.length ≤ 16777216) (hne : cls ≠ "tuple") (h : Q (.ref σ.n) (σ.alloc (.exc cls ps))) : ACall C lv env (.type cls) ps [] σ Q X := by
  refine ⟨fun A f s vs ks hA R hv hk => ?_⟩
  cases hk
  obtain ⟨hp, g, d, tk, os⟩ := s
  refine wp_dead (wpAny_call_exc FC (fun h' e M gr => ?_) (by rw [hv.length, sizeLine_eq]; exact hl))
  obtain ⟨t, h1, h2, h3⟩ := M.there
  have hfl : ∀ X : String → List PV → St → Prop, X cls ps σ → PostX C lv.fs env X f σ ⟨hp, g, d, tk, os⟩ (.ref e) ⟨h', g, d, tk, os⟩ := fun X hx => made_flight (s := ⟨hp, g, d, tk, os⟩) R .refl hv M gr hx
  obtain ⟨c', a', σ', f', ⟨rfl, rfl, rfl, hff⟩, ⟨a, tb, ea, hF, _⟩, R', E'⟩ := hfl (fun c a τ => c = cls ∧ a = ps ∧ τ = σ ∧ True) ⟨rfl, rfl, rfl, trivial⟩
  cases ea
  obtain ⟨R₂, E₂⟩ := R'.adopt E' hF hne
  exact ⟨_, _, _, h, rep_new, R₂, E₂⟩
end

theorem catch_ValueError : CanCatch "ValueError" := ⟨by rw [isSubtype_type]; kernel_rfl, by rw [show ((Manifest.find? "ValueError").elim "type" fun x => x.metatype) = "type" from by kernel_rfl, isSubtype_type]; kernel_rfl⟩
theorem catch_AssertionError : CanCatch "AssertionError" := ⟨by rw [isSubtype_type]; kernel_rfl, by rw [show ((Manifest.find? "AssertionError").elim "type" fun x => x.metatype) = "type" from by kernel_rfl, isSubtype_type]; kernel_rfl⟩
theorem catch_TypeError : CanCatch "TypeError" := ⟨by rw [isSubtype_type]; kernel_rfl, by rw [show ((Manifest.find? "TypeError").elim "type" fun x => x.metatype) = "type" from by kernel_rfl, isSubtype_type]; kernel_rfl⟩
theorem sub_VV : isSubtype (.type "ValueError") (.type "ValueError") = pure true := by rw [isSubtype_type]; kernel_rfl
theorem sub_AA : isSubtype (.type "AssertionError") (.type "AssertionError") = pure true := by rw [isSubtype_type]; kernel_rfl
theorem sub_TT : isSubtype (.type "TypeError") (.type "TypeError") = pure true := by rw [isSubtype_type]; kernel_rfl
theorem sub_AV : isSubtype (.type "AssertionError") (.type "ValueError") = pure false := by rw [isSubtype_type]; kernel_rfl
theorem sub_VT : isSubtype (.type "ValueError") (.type "TypeError") = pure false := by rw [isSubtype_type]; kernel_rfl
theorem sub_AT : isSubtype (.type "AssertionError") (.type "TypeError") = pure false := by rw [isSubtype_type]; kernel_rfl

section
variable {C : Cx} {lv : Lv} {env : Env} {σ σ' : St} {X : String → List PV → St → Prop}
theorem c_str_exc {cls n : String} (FX : ExcStrFacts cls n) {i : Nat} {m : Str} {Q : PV → St → Prop} (hi : σ.hp i = some (.exc cls [.str m])) (h : Q (.str m) σ) : ACall C lv env (.type "str") [.ref i] [] σ Q X := by
  refine ⟨fun A f s vs ks hA R hv hk => ?_⟩
  cases hk
  cases hv with
  | cons hv hr =>
    cases hr
    cases hv with
    | ref hlt =>
      obtain ⟨_, o, fv, t, ws, h1, h2, h3, h4, ⟨ot, h5, h6, k, h7⟩, h8⟩ := R.objs i _ hi
      cases h8 with
      | cons hs hr =>
        cases hr
        cases hs with
        | str _ tk =>
          exact P.str_of_exc_one FX (by have := hA.units; have := hA.small; show A.units + 2 < cLine; have e : cLine = 9900 := rfl; omega) ⟨o, fv, h1, h2, h3, h4⟩ ⟨ot, k, h5, h6, h7⟩ (Post.now R h (.str _ _))
end
end Mine

namespace Mine
section
variable {C : Cx} {lv : Lv} {env : Env} {σ : St} {X : String → List PV → St → Prop}

theorem c_classX {K fI : Addr} {ps : List PV} {kw : List (Str × PV)} {Q : PV → St → Prop} (hd : lv.d < 29) (hm : makesIn C.K K = true) (hi : findIn C.K (.ref K) "__init__" = some (some (.ref fI))) (hf : typeIn C.K (.ref fI) = some (.type "function"))
    (h : CCall C ⟨lv.d + 1, lv.hn, lv.fs⟩ env (.ref fI) (.ref (σ.n + 1) :: ps) kw ((σ.alloc (.dict [] 0)).alloc (.inst K σ.n)) (fun v σ' => v = .none ∧ Q (.ref (σ.n + 1)) σ') X) : ACall C lv env (.ref K) ps kw σ Q X := by
  refine ⟨fun A f s vs ks hA R hv hk => ?_⟩
  refine wpAny_call ?_
  obtain ⟨hh, g, d, t, os⟩ := s
  have hA' : OkA ⟨lv.d + 1, lv.hn, lv.fs⟩ (A.under (.builtin "type.__call__" ⟨.ref K :: vs, ks⟩)) := by
    have hw : (Code.builtin "type.__call__" ⟨.ref K :: vs, ks⟩).weight ≤ 4 := by first | (show (1 : Nat) ≤ 4; decide) | (show (0 : Nat) ≤ 4; decide) | (show (2 : Nat) ≤ 4; decide)
    have hu : (Code.builtin "type.__call__" ⟨.ref K :: vs, ks⟩).cUnits ≤ 20 := by first | (show (1 : Nat) ≤ 20; decide) | (show (0 : Nat) ≤ 20; decide) | (show (2 : Nat) ≤ 20; decide) | (show (3 : Nat) ≤ 20; decide)
    refine ⟨?_, ?_, hA.frames, hA.guards, hA.handled, by show lv.d + 1 ≤ 30; omega⟩
    · have := hA.depth; show A.depth + _ ≤ 400 + 4 * (lv.d + 1); omega
    · have := hA.units; show A.units + _ ≤ 100 + 20 * (lv.d + 1); omega
  obtain ⟨R₁, E₁⟩ := R.alloc (s' := ⟨hh.push emptyDict, g, d, t, os⟩) (a := hh.objs.size) (ao := .dict [] 0) (fun b o e => Heap.get?_push_of_some _ e) (by show _ ≤ (hh.push _).objs.size; rw [Heap.size_push]; exact Nat.le_succ _) (Nat.le_refl _) (Heap.get?_push_size _ rfl) (by simp [emptyDict]) rfl rfl (Nat.le_refl _)
    ⟨[], Heap.get?_push_size _ rfl, .nil, by simp, R.big (Nat.le_refl _)⟩
  obtain ⟨R₂, E₂⟩ := R₁.alloc (s' := ⟨(hh.push emptyDict).push (instObj K hh.objs.size), g, d, t, os⟩) (a := hh.objs.size + 1) (ao := .inst K σ.n) (fun b o e => Heap.get?_push_of_some _ e) (by show (hh.push emptyDict).objs.size ≤ ((hh.push emptyDict).push (instObj K hh.objs.size)).objs.size; rw [Heap.size_push (hh.push emptyDict)]; exact Nat.le_succ _)
    (by show (hh.push _).objs.size ≤ _; rw [Heap.size_push]; exact Nat.le_refl _) (by have := Heap.get?_push_size (hh.push emptyDict) (o := instObj K hh.objs.size) rfl; rw [Heap.size_push] at this; exact this) (by simp) rfl rfl (Nat.le_refl _)
    ⟨_, by have := Heap.get?_push_size (hh.push emptyDict) (o := instObj K hh.objs.size) rfl; rw [Heap.size_push] at this; exact this, rfl, by simp [St.alloc], by show σ.n < σ.n + 1 + 1; omega, rfl⟩
  have E := E₁.trans E₂
  refine make_core (makes_of R.K hm) (looks_findIn R.K hi) (fun self => bind_fn R.K self hf) (.inl rfl) ?_
  refine codeAny_mono (h.run _ _ _ (.ref (hh.objs.size + 1) :: vs) ks hA' R₂ (.cons ?_ (hv.ext R E)) (hk.ext R E)) fun r s' hr => ?_
  · have := Rep.ref (f := fun i => if i = (σ.alloc (.dict [] 0)).n then hh.objs.size + 1 else if i = σ.n then hh.objs.size else f i) (n := σ.n + 1 + 1) (h := (hh.push emptyDict).push (instObj K hh.objs.size)) (i := σ.n + 1) (by omega)
    simp only [St.alloc, if_true] at this ⊢
    exact this
  · cases r with
    | error e => exact PostX.trans E hr
    | ok fl =>
      cases fl with
      | ret v =>
        obtain ⟨p, σ', f', ⟨rfl, hq⟩, rp, R', E'⟩ := hr
        cases rp
        refine ⟨rfl, _, σ', f', hq, ?_, R', E.trans E'⟩
        have e1 : f' (σ.n + 1) = hh.objs.size + 1 := by
          rw [E'.agree (σ.n + 1) (by show σ.n + 1 < σ.n + 1 + 1; omega)]
          simp [St.alloc]
        rw [← e1]
        exact .ref (Nat.lt_of_lt_of_le (show σ.n + 1 < σ.n + 1 + 1 by omega) E'.le)
      | next => exact hr.elim
      | brk => exact hr.elim
      | cont => exact hr.elim

structure SpecM (C : Cx) (K : Addr) (name : Str) (fn : Addr) : Prop where
  find : findIn C.K (.ref K) name = some (some (.ref fn))
  typ : typeIn C.K (.ref fn) = some (.type "function")
theorem FnM.spec {K : Addr} {name : Str} {st : Stmt} {a : Addr} {fd : FuncData} (G : FnM C K name st a fd) : SpecM C K name a := ⟨G.find, G.typ⟩

structure ASet (C : Cx) (lv : Lv) (env : Env) (o i v : PV) (σ : St) (Q : St → Prop) (X : String → List PV → St → Prop) : Prop where
  run : ∀ A f s vo vi vv, OkA lv A → Rel C lv.fs env f σ s → Rep f σ.n s.heap vo o → Rep f σ.n s.heap vi i → Rep f σ.n s.heap vv v → wpAny C.M A (setItem vo vi vv) (Post C lv.fs env repU (fun _ => Q) f σ s) (PostX C lv.fs env X f σ s) s
def ADel (C : Cx) (lv : Lv) (env : Env) (o i : PV) (σ : St) (Q : St → Prop) (X : String → List PV → St → Prop) : Prop :=
  Op2 C lv env repU delItem o i σ (fun _ => Q) X

theorem s_sub {o i value : Expr} {spos pos : Pos} {Q : PFlow → St → Prop} (h : AE C lv env value σ (fun v σ₁ => AE C lv env o σ₁ (fun po σ₂ => AE C lv env i σ₂ (fun pi σ₃ => ASet C lv env po pi v σ₃ (fun σ₄ => Q .next σ₄) X) X) X) X)
    (hs : swapsWith value (some (.Subscript o i spos)) pos.line env = pure false := by rfl) : AS C lv env (.Assign [.Subscript o i spos] value pos) σ Q X := by
  refine ⟨fun A f s hA R => ?_⟩
  refine wpAny_Assign_Subscript (h.use hA R (fun vv v σ₁ f₁ s₁ h₁ rv R₁ E₁ => ?_) fun _ _ x => x) hs
  refine h₁.use hA R₁ (fun vo po σ₂ f₂ s₂ h₂ ro R₂ E₂ => ?_) fun _ _ x => PostX.trans E₁ x
  refine h₂.use hA R₂ (fun vi pi σ₃ f₃ s₃ h₃ ri R₃ E₃ => ?_) fun _ _ x => PostX.trans (E₁.trans E₂) x
  have E := (E₁.trans E₂).trans E₃
  exact wpAny_mono (h₃.run A f₃ s₃ vo vi vv hA R₃ (ro.ext R₂ E₃) ri ((rv.ext R₁ E₂).ext R₂ E₃)) (fun _ _ ⟨_, σ₄, f₄, q, _, R₄, E₄⟩ => ⟨_, σ₄, f₄, q, .next, R₄, E.trans E₄⟩) fun _ _ x => PostX.trans E x

theorem s_del {o i : Expr} {spos pos : Pos} {Q : PFlow → St → Prop} (h : AE C lv env o σ (fun po σ₁ => AE C lv env i σ₁ (fun pi σ₂ => ADel C lv env po pi σ₂ (fun σ₃ => Q .next σ₃) X) X) X) : AS C lv env (.Delete [.Subscript o i spos] pos) σ Q X := by
  refine ⟨fun A f s hA R => ?_⟩
  refine wpAny_Delete (wpAny_deleteEach_cons ?_)
  rw [arm_delete_Subscript]
  refine wpAny_bind (h.use hA R (fun vo po σ₁ f₁ s₁ h₁ ro R₁ E₁ => ?_) fun _ _ x => x)
  refine wpAny_bind (wpAny_holding (h₁.use hA R₁ (fun vi pi σ₂ f₂ s₂ h₂ ri R₂ E₂ => ?_) fun _ _ x => PostX.trans E₁ x))
  refine wpAny_bind (wpAny_standAt (wpAny_bind (wpAny_holding (wpAny_mono (h₂.run A f₂ s₂ vo vi hA R₂ (ro.ext R₁ E₂) ri) (fun _ s₃ ⟨_, σ₃, f₃, q, _, R₃, E₃⟩ => ?_) fun _ _ x => PostX.trans (E₁.trans E₂) x))))
  exact wpAny_release (wpAny_deleteEach_nil ⟨_, σ₃, f₃, q, .next, R₃, (E₁.trans E₂).trans E₃⟩)

theorem set_inst {i d : Nat} {K fn : Addr} {l : List (Str × PV)} {ep : Nat} {q v : PV} {Q : St → Prop} (hi : σ.hp i = some (.inst K d)) (hdd : σ.hp d = some (.dict l ep)) (hq : noSeq C.K K = true) (S : SpecM C K "__setitem__" fn)
    (h : ACall C lv env (.ref fn) [.ref i, q, v] [] σ (fun _ => Q) X) : ASet C lv env (.ref i) q v σ Q X := by
  refine ⟨fun A f s vo vi vv hA R ro ri rv => ?_⟩
  have ro' := ro
  cases ro with
  | ref hlt =>
    obtain ⟨ox, od, es, I, _⟩ := inst_at R hi hdd
    have XK := R.K
    unfold setItem sequenceKey
    refine wpAny_holding (wpAny_bind (wpAny_bind (I.type.here ?_)))
    refine wpAny_bind ((anyM_none XK hq).here ?_)
    rw [if_pos (show (!false) = true from rfl)]
    exact wpAny_pure (wpAny_bind (special_fn XK I S.find S.typ (wpAny_mono (h.run A f s _ [] hA R (.cons ro' (.cons ri (.cons rv .nil))) .nil) (fun _ _ ⟨_, σ', f', z, _, R', E'⟩ => wpAny_pure ⟨(), σ', f', z, trivial, R', E'⟩) fun _ _ z => z)))
theorem del_inst {i d : Nat} {K fn : Addr} {l : List (Str × PV)} {ep : Nat} {q : PV} {Q : St → Prop} (hi : σ.hp i = some (.inst K d)) (hdd : σ.hp d = some (.dict l ep)) (hq : noSeq C.K K = true) (S : SpecM C K "__delitem__" fn)
    (h : ACall C lv env (.ref fn) [.ref i, q] [] σ (fun _ => Q) X) : ADel C lv env (.ref i) q σ Q X := by
  refine ⟨fun A f s vo vi hA R ro ri => ?_⟩
  have ro' := ro
  cases ro with
  | ref hlt =>
    obtain ⟨ox, od, es, I, _⟩ := inst_at R hi hdd
    have XK := R.K
    unfold delItem sequenceKey
    refine wpAny_holding (wpAny_bind (wpAny_bind (I.type.here ?_)))
    refine wpAny_bind ((anyM_none XK hq).here ?_)
    rw [if_pos (show (!false) = true from rfl)]
    exact wpAny_pure (wpAny_bind (special_fn XK I S.find S.typ (wpAny_mono (h.run A f s _ [] hA R (.cons ro' (.cons ri .nil)) .nil) (fun _ _ ⟨_, σ', f', z, _, R', E'⟩ => wpAny_pure ⟨(), σ', f', z, trivial, R', E'⟩) fun _ _ z => z)))
end
end Mine

namespace Mine

def putD {β : Type} (l : List (Str × β)) (k : Str) (v : β) : List (Str × β) := if l.any (fun x => x.1 = k) then l.map (fun x => if x.1 = k then (x.1, v) else x) else l ++ [(k, v)]

theorem RepD.pairs {prog : Program} {w : World} {f : Nat → Addr} {n : Nat} {h : Heap} {es : List DictEntry} {l : List (Str × PV)} (x : RepD w.params f n h es l) : ∃ kvs, Pairs (strKind prog w) es kvs ∧ (∀ e ∈ es, ∃ k, (strKind prog w).is k e.key = true ∧ e.hash = (strKind prog w).hash k) ∧ RepK f n h kvs l ∧ kvs.map (·.1) = l.map (·.1) := by
  induction x with
  | nil => exact ⟨[], .nil, (fun _ he => nomatch he), .nil, rfl⟩
  | @cons k t v es p ps hv hr ih =>
    obtain ⟨kvs, h1, h2, h3, h4⟩ := ih
    have hk : (strKind prog w).is k (.str k t) = true := by show Value.isStrOf k (.str k t) = true; simp [Value.isStrOf]
    refine ⟨(k, v) :: kvs, .cons hk rfl h1, fun e he => ?_, .cons hv h3, by simp [h4]⟩
    rcases List.mem_cons.mp he with rfl | he
    · exact ⟨k, hk, rfl⟩
    · exact h2 e he
theorem RepD.of_pairs {prog : Program} {w : World} {f : Nat → Addr} {n : Nat} {h : Heap} {es : List DictEntry} {kvs : List (Str × Value)} (x : Pairs (strKind prog w) es kvs) : ∀ {l : List (Str × PV)}, (∀ e ∈ es, ∃ k, (strKind prog w).is k e.key = true ∧ e.hash = (strKind prog w).hash k) → RepK f n h kvs l → RepD w.params f n h es l := by
  induction x with
  | nil => intro l _ r; cases r; exact .nil
  | @cons e kv es kvs h1 h2 _ ih =>
    intro l hk r
    cases r with
    | cons hv hr =>
      obtain ⟨k', hk1, hk2⟩ := hk e (List.mem_cons_self ..)
      have e1 := (strKind prog w).inj _ _ _ hk1 h1
      obtain ⟨t, ht⟩ := Value.isStrOf_shape (show Value.isStrOf _ e.key = true from h1)
      have ih' := ih (fun e he => hk e (List.mem_cons_of_mem _ he)) hr
      obtain ⟨eh, ek, ev⟩ := e
      dsimp only at ht hk2 h2 e1
      subst ht h2 hk2
      subst e1
      exact .cons hv ih'

theorem RepK.fst {f : Nat → Addr} {n : Nat} {h : Heap} {vs : List (Str × Value)} {ps : List (Str × PV)} (x : RepK f n h vs ps) : vs.map (·.1) = ps.map (·.1) := by
  induction x with
  | nil => rfl
  | cons _ _ ih => simp [ih]
theorem RepK.append {f : Nat → Addr} {n : Nat} {h : Heap} {vs ws : List (Str × Value)} {ps qs : List (Str × PV)} (x : RepK f n h vs ps) (y : RepK f n h ws qs) : RepK f n h (vs ++ ws) (ps ++ qs) := by
  induction x with
  | nil => exact y
  | cons a _ ih => exact .cons a ih
theorem RepK.putMap {f : Nat → Addr} {n : Nat} {h : Heap} {k : Str} {v : Value} {p : PV} (hv : Rep f n h v p) {vs : List (Str × Value)} {ps : List (Str × PV)} (x : RepK f n h vs ps) : RepK f n h (vs.map (fun x => if x.1 = k then (x.1, v) else x)) (ps.map (fun x => if x.1 = k then (x.1, p) else x)) := by
  induction x with
  | nil => exact .nil
  | @cons k' v' vs p' ps a _ ih =>
    simp only [List.map_cons]
    by_cases q : k' = k
    · rw [if_pos q, if_pos q]; exact .cons hv ih
    · rw [if_neg q, if_neg q]; exact .cons a ih
theorem RepK.anyKey {f : Nat → Addr} {n : Nat} {h : Heap} {k : Str} {vs : List (Str × Value)} {ps : List (Str × PV)} (x : RepK f n h vs ps) : vs.any (fun x => x.1 = k) = ps.any (fun x => x.1 = k) := by
  induction x with
  | nil => rfl
  | cons _ _ ih => simp only [List.any_cons, ih]
theorem RepK.put {f : Nat → Addr} {n : Nat} {h : Heap} {k : Str} {v : Value} {p : PV} (hv : Rep f n h v p) {vs : List (Str × Value)} {ps : List (Str × PV)} (x : RepK f n h vs ps) : RepK f n h (putD vs k v) (putD ps k p) := by
  unfold putD
  rw [x.anyKey]
  split
  · exact x.putMap hv
  · exact x.append (.cons hv .nil)
section
variable {C : Cx} {lv : Lv} {env : Env} {σ : St} {X : String → List PV → St → Prop} {fs : List Env} {f : Nat → Addr} {s : Shared}

theorem dict_of {j ep : Nat} {l : List (Str × PV)} (R : Rel C fs env f σ s) (hj : σ.hp j = some (.dict l ep)) : ∃ kvs, s.heap.DictAt (strKind C.prog C.w) (f j) kvs ep ∧ RepK f σ.n s.heap kvs l ∧ (f j == sysModules) = false := by
  obtain ⟨_, es, hg, hr, hn, hs⟩ := R.objs j _ hj
  obtain ⟨kvs, h1, h2, h3, h4⟩ := hr.pairs (prog := C.prog)
  exact ⟨kvs, ⟨_, es.toArray, hg, ⟨rfl, rfl, rfl⟩, rfl, (fun e he => h2 e (by simpa using he)), by simpa using h1, by rw [h4]; exact hn⟩, h3, hs⟩

theorem dict_rep {n : Nat} {a : Addr} {h : Heap} {kvs : List (Str × Value)} {l : List (Str × PV)} {ep : Nat} (D : h.DictAt (strKind C.prog C.w) a kvs ep) (r : RepK f n h kvs l) (hs : (a == sysModules) = false) : ORep C.w.params f n h a (.dict l ep) := by
  obtain ⟨o, es, ho, ⟨hc, hd, hsl⟩, hdat, hk, hp, hn⟩ := D
  obtain ⟨oc, od, oda, osl⟩ := o
  dsimp only at hc hd hsl hdat
  subst hc hd hsl hdat
  refine ⟨es.toList, by rw [ho], RepD.of_pairs hp (fun e he => hk e (by simpa using he)) r, ?_, hs⟩
  rw [← r.fst]; exact hn

theorem dict_upd {s' : Shared} {j ep ep' : Nat} {l l' : List (Str × PV)} {kvs' : List (Str × Value)} (R : Rel C fs env f σ s) (hj : σ.hp j = some (.dict l ep)) (h0 : 0 < j) (D : s'.heap.DictAt (strKind C.prog C.w) (f j) kvs' ep') (hsb : Heap.SameBut (f j) s.heap s'.heap)
    (r : RepK f σ.n s.heap kvs' l') (ho : s'.os = s.os) (hg : s'.gens = s.gens) (ht : s.toks ≤ s'.toks) : Rel C fs env f (σ.upd j (.dict l' ep')) s' ∧ Ext env f σ s f (σ.upd j (.dict l' ep')) s' := by
  obtain ⟨_, es, hget, hr, hn, hs⟩ := R.objs j _ hj
  have D' := D
  obtain ⟨o, es', ho', ⟨hc, hd, hsl⟩, hdat, hk, hp, hn'⟩ := D'
  have hto : ∀ a ws, s.heap.IsTuple a ws → s'.heap.IsTuple a ws := fun a ws ⟨o, e, c, r⟩ => ⟨o, (hsb.2 a (fun q => by rw [q, hget] at e; cases e; simp at c)).trans e, c, r⟩
  exact R.upd (ao' := .dict l' ep') hj h0 hget ho' (by rw [hc]) (by rw [hdat]; rfl) hsb ho hg ht (dict_rep D (r.mono (fun _ _ => rfl) (Nat.le_refl _) hto) hs)

theorem e_dict0 {pos : Pos} {Q : PV → St → Prop} (h : Q (.ref σ.n) (σ.alloc (.dict [] 0))) : AE C lv env (.Dict [] [] pos) σ Q X := by
  refine ⟨fun A f s hA R => ?_⟩
  refine wpAny_Dict_empty ?_
  obtain ⟨R', E'⟩ := R.alloc (s' := { s with heap := s.heap.push { cls := .type "dict", data := .dict #[] } }) (ao := .dict [] 0) (fun b o e => Heap.get?_push_of_some _ e) (by show _ ≤ (s.heap.push _).objs.size; rw [Heap.size_push]; omega) (Nat.le_refl _) (Heap.get?_push_size _ rfl) (by simp) rfl rfl (Nat.le_refl _)
    ⟨[], Heap.get?_push_size _ rfl, .nil, by simp, R.big (Nat.le_refl _)⟩
  exact ⟨_, _, _, h, rep_new, R', E'⟩

end
end Mine

namespace Mine
section
variable {C : Cx} {lv : Lv} {env : Env} {σ : St} {X : String → List PV → St → Prop}

end
end Mine

namespace Mine
section
variable {prog : Program} {w : World} {A : Around} {E : Value → Shared → Prop}

end


section
variable {C : Cx} {lv : Lv} {env : Env} {σ : St} {X : String → List PV → St → Prop}

end
end Mine

namespace Mine
section
variable {C : Cx} {lv : Lv} {env : Env} {σ : St} {X : String → List PV → St → Prop}

theorem o_add_list {i j : Nat} {l m : List PV} {Q : PV → St → Prop} (hi : σ.hp i = some (.list l)) (hj : σ.hp j = some (.list m)) (hl : l.length + m.length ≤ 16777216) (h : Q (.ref σ.n) (σ.alloc (.list (l ++ m)))) : Op2 C lv env Rep (binaryOp .Add) (.ref i) (.ref j) σ Q X := by
  refine ⟨fun A f s v w hA R hv hw => ?_⟩
  cases hv with
  | ref hlt =>
  cases hw with
  | ref hlt' =>
  obtain ⟨_, vs, k, hget, hvs⟩ := R.objs i _ hi
  obtain ⟨_, ws, k', hget', hws⟩ := R.objs j _ hj
  refine P.add_list hget hget' ?_ (by rw [List.size_toArray, List.size_toArray, hvs.length, hws.length, sizeLine_eq]; exact hl)
  rw [show vs.toArray ++ ws.toArray = (vs ++ ws).toArray from by simp]
  exact new_list R (hvs.append hws) h

theorem list_upd {fs : List Env} {f : Nat → Addr} {s s' : Shared} {i : Nat} {l l' : List PV} {vs' : List Value} {k' : Nat} (R : Rel C fs env f σ s) (hi : σ.hp i = some (.list l)) (h0 : 0 < i) (hget' : s'.heap.get? (f i) = some { cls := .type "list", data := .seq vs'.toArray k' }) (hs : Heap.SameBut (f i) s.heap s'.heap)
    (hr : RepL f σ.n s.heap vs' l') (ho : s'.os = s.os) (hg : s'.gens = s.gens) (ht : s.toks ≤ s'.toks) : Rel C fs env f (σ.upd i (.list l')) s' ∧ Ext env f σ s f (σ.upd i (.list l')) s' := by
  obtain ⟨_, vs, k, hget, hvs⟩ := R.objs i _ hi
  have hto : ∀ a ws, s.heap.IsTuple a ws → s'.heap.IsTuple a ws := fun a ws ⟨o, e, c, r⟩ => ⟨o, (hs.2 a (fun q => by rw [q, hget] at e; cases e; simp at c)).trans e, c, r⟩
  exact R.upd (ao' := .list l') hi h0 hget hget' rfl rfl hs ho hg ht ⟨vs', k', hget', hr.mono (fun _ _ => rfl) (Nat.le_refl _) hto⟩

theorem mapSeq_list (g : Array Value → Array Value) (its : Array Value) (n : Nat) : ∃ n', Obj.mapSeq g { cls := .type "list", data := .seq its n } = { cls := .type "list", data := .seq (g its) n' } := by
  obtain ⟨n', h⟩ := Obj.data_mapSeq (o := { cls := .type "list", data := .seq its n }) rfl g
  exact ⟨n', mapSeq_plain h⟩
theorem upd_list {h : Heap} {a : Addr} {its : Array Value} {n : Nat} (g : Array Value → Array Value) (hg : h.get? a = some { cls := .type "list", data := .seq its n }) : ∃ n', (h.update a (Obj.mapSeq g)).get? a = some { cls := .type "list", data := .seq (g its) n' } := by
  obtain ⟨n', e⟩ := mapSeq_list g its n
  refine ⟨n', ?_⟩
  rw [Heap.get?_update_self _ hg (by rw [e]; rfl), e]

theorem set_all {prog : Program} {w : World} {A : Around} {E : Value → Shared → Prop} {s : Shared} {l b sl : Addr} {vs ws : List Value} {n n' : Nat} {Q : Unit → Shared → Prop} (hl : s.heap.get? l = some { cls := .type "list", data := .seq vs.toArray n }) (hb : s.heap.get? b = some { cls := .type "list", data := .seq ws.toArray n' }) (hne : l ≠ b)
    (hs : s.heap.get? sl = some { cls := .type "slice", data := .fields #[.none, .none, .none] }) (hv : vs.length ≤ 1000000) (hw : ws.length ≤ 1000000)
    (h : ∀ h' n'', Heap.SameBut l s.heap h' → h'.get? l = some { cls := .type "list", data := .seq ws.toArray n'' } → Q () { s with heap := h' }) : wpAny (model prog w) A (setItem (.ref l) (.ref sl) (.ref b)) Q E s := by
  have hL : s.heap.IsList l vs.toArray := ⟨_, hl, rfl, _, rfl⟩
  have hTs : s.TypeIs (.ref sl) "slice" := ⟨_, hs, rfl⟩
  have hTb : s.TypeIs (.ref b) "list" := ⟨_, hb, rfl⟩
  unfold setItem
  try with_reducible refine wpAny_holding ?_
  first | refine wpAny_bind (wpAny_pure ?_) | skip
  refine wpAny_bind (wpAny_sequenceKey hL.typeIs (by decide) ?_)
  refine wpAny_bind (wpAny_callSpecial?_slot (name := Str.ofString "__setitem__") hL.typeIs slot_list_setitem
    (wpAny_call_entry slot_list_setitem hL.typeIs entry_list_setitem ?_ (args_list_setitem _ _ _)))
  show wpAny _ _ (Builtin.List.listSubscript? (.ref sl) >>= _) _ _ s
  refine wpAny_bind ?_
  unfold Builtin.List.listSubscript?
  refine wpAny_bind (wpAny_specialOf hTs slice_no_index ?_)
  simp only [Option.isNone_none, if_true]
  refine wpAny_pure ?_
  show wpAny _ _ (typeOf (.ref sl) >>= _) _ _ s
  refine wpAny_bind (wpAny_typeOf hTs ?_)
  rw [if_neg (by decide)]
  rw [listSliceParts_eq]
  refine wpAny_bind (wpAny_bind (wpAny_field hs rfl (x := .none) rfl (wpAny_bind (wpAny_listPart .none ?_))))
  rw [if_neg (show ¬ ((rawPart none == rawInt 0) = true) from Bool.false_ne_true)]
  refine wpAny_bind (wpAny_field hs rfl (x := .none) rfl (wpAny_bind (wpAny_listPart .none ?_)))
  refine wpAny_bind (wpAny_field hs rfl (x := .none) rfl (wpAny_bind (wpAny_listPart .none (wpAny_pure ?_))))
  have hsame : Builtin.List.listSameRef (.ref l) (.ref b) = false := by
    show (l == b) = false
    exact beq_eq_false_iff_ne.mpr hne
  simp only [hsame, Bool.false_eq_true, if_false]
  refine wpAny_bind ?_
  unfold Builtin.List.listAllItems
  refine wpAny_bind (wpAny_typeOf hTb ?_)
  rw [if_pos (by decide)]
  unfold Builtin.List.listItems
  refine wpAny_bind (wpAny_seqItems hb rfl (wpAny_pure ?_))
  refine wpAny_bind (wpAny_bind (wpAny_seqItems hl rfl (wpAny_pure ?_)))
  refine wpAny_bind (wpAny_of_eq (sliceIndices_raw none none none vs.toArray.size (by simp)) ?_)
  have hbnd : sliceBounds none none none vs.toArray.size = (0, (vs.toArray.size : Int), 1) := by
    unfold sliceBounds
    simp
  rw [hbnd]
  dsimp only
  rw [if_pos (by decide)]
  refine wpAny_bind (wpAny_rule ?_)
  rw [if_neg (by unfold Builtin.List.listTooLong; rw [sizeLine_eq]; simp; omega)]
  refine wpAny_bind (m := updateSeq l _) (wpAny_updateSeq hl rfl ?_ (by simp [sizeLine_eq]; omega) (by simp [sizeLine_eq]; omega))
  refine wpAny_bind (wpAny_letGo (wpAny_pure ⟨_, rfl, wpAny_pure ?_⟩))
  obtain ⟨n'', e⟩ := upd_list (fun xs => xs.extract 0 (0 : Int).toNat ++ ws.toArray ++ xs.extract (max (0 : Int) (vs.toArray.size : Int)).toNat xs.size) hl
  refine h _ n'' (Heap.SameBut.update ..) (e.trans ?_)
  congr 2
  simp

theorem s_setall {o value : Expr} {spos p pos : Pos} {Q : PFlow → St → Prop}
    (h : AE C lv env value σ (fun v σ₁ => AE C lv env o σ₁ (fun po σ₂ => ∃ i j l m, po = .ref i ∧ v = .ref j ∧ i ≠ j ∧ 0 < i ∧ σ₂.hp i = some (.list l) ∧ σ₂.hp j = some (.list m) ∧ l.length ≤ 1000000 ∧ m.length ≤ 1000000 ∧ Q .next (σ₂.upd i (.list m))) X) X)
    (hs : swapsWith value (some (.Subscript o (.Slice none none none p) spos)) pos.line env = pure false := by rfl) : AS C lv env (.Assign [.Subscript o (.Slice none none none p) spos] value pos) σ Q X := by
  refine ⟨fun A f s hA R => ?_⟩
  refine wpAny_Assign_Subscript (h.use hA R (fun vv v σ₁ f₁ s₁ h₁ rv R₁ E₁ => ?_) fun _ _ x => x) hs
  refine h₁.use hA R₁ (fun vo po σ₂ f₂ s₂ h₂ ro R₂ E₂ => ?_) fun _ _ x => PostX.trans E₁ x
  obtain ⟨i, j, l, m, rfl, rfl, hij, h0, hi, hj, hl, hm, hq⟩ := h₂
  refine wpAny_Slice ?_
  rw [evalPart_none]
  refine wpAny_pure (wpAny_pure (wpAny_pure ?_))
  have rv' := rv.ext R₁ E₂
  cases ro with
  | ref hlt =>
  cases rv' with
  | ref hlt' =>
  obtain ⟨_, vs, k, hget, hvs⟩ := R₂.objs i _ hi
  obtain ⟨_, ws, k', hget', hws⟩ := R₂.objs j _ hj
  have hk : ∀ b o, s₂.heap.get? b = some o → (s₂.heap.push { cls := .type "slice", data := .fields #[.none, .none, .none] }).get? b = some o := fun b o e => Heap.get?_push_of_some _ e
  have R₃ := R₂.keeps (s' := { s₂ with heap := s₂.heap.push { cls := .type "slice", data := .fields #[.none, .none, .none] } }) hk rfl rfl (Nat.le_refl _)
  have E₃ : Ext env f₂ σ₂ s₂ f₂ σ₂ { s₂ with heap := s₂.heap.push { cls := .type "slice", data := .fields #[.none, .none, .none] } } := .keeps hk (by show _ ≤ (s₂.heap.push _).objs.size; rw [Heap.size_push]; omega)
  refine set_all (s := { s₂ with heap := s₂.heap.push { cls := .type "slice", data := .fields #[.none, .none, .none] } }) (hk _ _ hget) (hk _ _ hget') (fun q => hij (R₂.inj i j hlt hlt' q)) (Heap.get?_push_size _ rfl) (by rw [hvs.length]; exact hl) (by rw [hws.length]; exact hm) fun h' n'' hsb ho' => ?_
  obtain ⟨R', E'⟩ := list_upd (s' := { s₂ with heap := h' }) (vs' := ws) (l' := m) R₃ hi h0 ho' hsb (hws.ext R₂ E₃) rfl rfl (Nat.le_refl _)
  exact ⟨_, _, _, hq, .next, R', ((E₁.trans E₂).trans E₃).trans E'⟩
end
end Mine

namespace Mine
section
variable {C : Cx} {lv : Lv} {env : Env} {σ : St} {X : String → List PV → St → Prop}
end
end Mine

namespace Mine
def biNames : List Str := ["len", "chr", "ord", "repr", "isinstance", "abs", "max", "min", "str", "list", "range", "type", "tuple", "bytes", "Exception", "ValueError", "AssertionError", "TypeError"]
def BiOk (C : Cx) : Prop := biNames.all (fun x => nsIn C.K mainGlobals x == some none) = true
theorem BiOk.at {C : Cx} (h : BiOk C) (k : Nat) {x : Str} (hx : biNames[k]? = some x) : nsIn C.K mainGlobals x = some none := by
  have := List.all_eq_true.mp h x (List.mem_of_getElem? hx)
  exact beq_iff_eq.mp this
section
variable {C : Cx} {lv : Lv} {env : Env} {σ : St} {X : String → List PV → St → Prop} {names : List (Str × NameKind)} {pos : Pos} {Q : PV → St → Prop}
theorem e_b_len (S : Sc env names) (hb : BiOk C) (h : Q (.obj (.builtin "len")) σ) (hx : names.lookup (Str.ofString "len") = some .globalImplicit := by decide +kernel) : AE C lv env (.Name (Str.ofString "len") pos) σ Q X :=
  e_bi S (hb.at 0 rfl) (v := .builtin "len") (by kernel_rfl) h hx (by decide +kernel) (by decide +kernel)
theorem e_b_chr (S : Sc env names) (hb : BiOk C) (h : Q (.obj (.builtin "chr")) σ) (hx : names.lookup (Str.ofString "chr") = some .globalImplicit := by decide +kernel) : AE C lv env (.Name (Str.ofString "chr") pos) σ Q X :=
  e_bi S (hb.at 1 rfl) (v := .builtin "chr") (by kernel_rfl) h hx (by decide +kernel) (by decide +kernel)
theorem e_b_ord (S : Sc env names) (hb : BiOk C) (h : Q (.obj (.builtin "ord")) σ) (hx : names.lookup (Str.ofString "ord") = some .globalImplicit := by decide +kernel) : AE C lv env (.Name (Str.ofString "ord") pos) σ Q X :=
  e_bi S (hb.at 2 rfl) (v := .builtin "ord") (by kernel_rfl) h hx (by decide +kernel) (by decide +kernel)
theorem e_b_repr (S : Sc env names) (hb : BiOk C) (h : Q (.obj (.builtin "repr")) σ) (hx : names.lookup (Str.ofString "repr") = some .globalImplicit := by decide +kernel) : AE C lv env (.Name (Str.ofString "repr") pos) σ Q X :=
  e_bi S (hb.at 3 rfl) (v := .builtin "repr") (by kernel_rfl) h hx (by decide +kernel) (by decide +kernel)
theorem e_b_isinstance (S : Sc env names) (hb : BiOk C) (h : Q (.obj (.builtin "isinstance")) σ) (hx : names.lookup (Str.ofString "isinstance") = some .globalImplicit := by decide +kernel) : AE C lv env (.Name (Str.ofString "isinstance") pos) σ Q X :=
  e_bi S (hb.at 4 rfl) (v := .builtin "isinstance") (by kernel_rfl) h hx (by decide +kernel) (by decide +kernel)
theorem e_b_str (S : Sc env names) (hb : BiOk C) (h : Q (.obj (.type "str")) σ) (hx : names.lookup (Str.ofString "str") = some .globalImplicit := by decide +kernel) : AE C lv env (.Name (Str.ofString "str") pos) σ Q X :=
  e_bi S (hb.at 8 rfl) (v := .type "str") (by kernel_rfl) h hx (by decide +kernel) (by decide +kernel)
theorem e_b_list (S : Sc env names) (hb : BiOk C) (h : Q (.obj (.type "list")) σ) (hx : names.lookup (Str.ofString "list") = some .globalImplicit := by decide +kernel) : AE C lv env (.Name (Str.ofString "list") pos) σ Q X :=
  e_bi S (hb.at 9 rfl) (v := .type "list") (by kernel_rfl) h hx (by decide +kernel) (by decide +kernel)
theorem e_b_range (S : Sc env names) (hb : BiOk C) (h : Q (.obj (.type "range")) σ) (hx : names.lookup (Str.ofString "range") = some .globalImplicit := by decide +kernel) : AE C lv env (.Name (Str.ofString "range") pos) σ Q X :=
  e_bi S (hb.at 10 rfl) (v := .type "range") (by kernel_rfl) h hx (by decide +kernel) (by decide +kernel)
theorem e_b_type (S : Sc env names) (hb : BiOk C) (h : Q (.obj (.type "type")) σ) (hx : names.lookup (Str.ofString "type") = some .globalImplicit := by decide +kernel) : AE C lv env (.Name (Str.ofString "type") pos) σ Q X :=
  e_bi S (hb.at 11 rfl) (v := .type "type") (by kernel_rfl) h hx (by decide +kernel) (by decide +kernel)
theorem e_b_tuple (S : Sc env names) (hb : BiOk C) (h : Q (.obj (.type "tuple")) σ) (hx : names.lookup (Str.ofString "tuple") = some .globalImplicit := by decide +kernel) : AE C lv env (.Name (Str.ofString "tuple") pos) σ Q X :=
  e_bi S (hb.at 12 rfl) (v := .type "tuple") (by kernel_rfl) h hx (by decide +kernel) (by decide +kernel)
theorem e_b_Exception (S : Sc env names) (hb : BiOk C) (h : Q (.obj (.type "Exception")) σ) (hx : names.lookup (Str.ofString "Exception") = some .globalImplicit := by decide +kernel) : AE C lv env (.Name (Str.ofString "Exception") pos) σ Q X :=
  e_bi S (hb.at 14 rfl) (v := .type "Exception") (by kernel_rfl) h hx (by decide +kernel) (by decide +kernel)
theorem e_b_ValueError (S : Sc env names) (hb : BiOk C) (h : Q (.obj (.type "ValueError")) σ) (hx : names.lookup (Str.ofString "ValueError") = some .globalImplicit := by decide +kernel) : AE C lv env (.Name (Str.ofString "ValueError") pos) σ Q X :=
  e_bi S (hb.at 15 rfl) (v := .type "ValueError") (by kernel_rfl) h hx (by decide +kernel) (by decide +kernel)
theorem e_b_AssertionError (S : Sc env names) (hb : BiOk C) (h : Q (.obj (.type "AssertionError")) σ) (hx : names.lookup (Str.ofString "AssertionError") = some .globalImplicit := by decide +kernel) : AE C lv env (.Name (Str.ofString "AssertionError") pos) σ Q X :=
  e_bi S (hb.at 16 rfl) (v := .type "AssertionError") (by kernel_rfl) h hx (by decide +kernel) (by decide +kernel)
theorem e_b_TypeError (S : Sc env names) (hb : BiOk C) (h : Q (.obj (.type "TypeError")) σ) (hx : names.lookup (Str.ofString "TypeError") = some .globalImplicit := by decide +kernel) : AE C lv env (.Name (Str.ofString "TypeError") pos) σ Q X :=
  e_bi S (hb.at 17 rfl) (v := .type "TypeError") (by kernel_rfl) h hx (by decide +kernel) (by decide +kernel)
end
end Mine

namespace Mine
theorem cells_of {x : Str} : ∀ (names : List (Str × NameKind)) (n : Nat) (acc : List (Str × Addr)), ((x, NameKind.cell) ∈ names ∨ (acc.lookup x).isSome = true) → ((cellsFrom n names acc).lookup x).isSome = true
  | [], n, acc, h => by rcases h with h | h; cases h; exact h
  | (y, k) :: r, n, acc, h => by
    show ((if (k == .cell) = true then cellsFrom (n + 1) r ((y, n) :: acc) else cellsFrom n r acc).lookup x).isSome = true
    by_cases hk : (k == .cell) = true
    · rw [if_pos hk]
      refine cells_of r (n + 1) _ ?_
      by_cases hy : x = y
      · right; subst hy; simp
      · rcases h with h | h
        · rcases List.mem_cons.mp h with q | q
          · cases q; exact absurd rfl hy
          · exact .inl q
        · right
          have : (x == y) = false := by rw [← Bool.not_eq_true, beq_iff_eq]; exact hy
          rw [List.lookup_cons, this]; exact h
    · rw [if_neg hk]
      refine cells_of r n acc ?_
      rcases h with h | h
      · rcases List.mem_cons.mp h with q | q
        · cases q; exact absurd rfl hk
        · exact .inl q
      · exact .inr h
def noFreeN (names : List (Str × NameKind)) : Bool := names.all fun x => match x.2 with | .free => false | _ => true
theorem FnAt.ofC {C : Cx} {a : Addr} {o : Obj} {fd : FuncData} {body : List Stmt} (ho : C.K.lookup a = some o) (hd : o.data = .func fd) (code : codeIn C.K fd.code fd.qualname = true) (clo : fd.closure = []) (glob : fd.globals = mainGlobals) (bi : fd.builtins = builtinsNs)
    (hb : fd.body = .stmts body) (co : fd.scope.isCoroutine = false) (gen : fd.scope.isGenerator = false) (kind : fd.scope.kind = .function) (nc : noFreeN fd.scope.names = true) : FnAt C a fd body := by
  refine ⟨?_, code, clo, glob, bi, hb, co, gen, kind, fun x hx n => ?_⟩
  · obtain ⟨oc, od, da, sl⟩ := o
    cases hd
    exact ⟨_, _, _, ho⟩
  · rcases hx with h | h
    · exact cells_of _ _ _ (.inl (mem_of_lookup h))
    · have := List.all_eq_true.mp nc _ (mem_of_lookup h); cases this
theorem FnG.ofC {C : Cx} {name : Str} {st : Stmt} {a : Addr} {o : Obj} {fd : FuncData} (hg : nsIn C.K mainGlobals name = some (some (.ref a))) (hk : keepIn C.K (.ref a) = true) (ho : C.K.lookup a = some o) (hd : o.data = .func fd) (code : codeIn C.K fd.code fd.qualname = true) (clo : fd.closure = []) (glob : fd.globals = mainGlobals) (bi : fd.builtins = builtinsNs)
    (hb : fd.body = .stmts (bodyOf st)) (co : fd.scope.isCoroutine = false) (gen : fd.scope.isGenerator = false) (kind : fd.scope.kind = .function) (nc : noFreeN fd.scope.names = true) (hn : fd.scope.names = namesOf st) : FnG C name st a fd :=
  ⟨hg, hk, .ofC ho hd code clo glob bi hb co gen kind nc, hn⟩
theorem FnM.of {C : Cx} {K : Addr} {name : Str} {st : Stmt} {a : Addr} {o : Obj} {fd : FuncData} (hf : findIn C.K (.ref K) name = some (some (.ref a))) (ht : typeIn C.K (.ref a) = some (.type "function")) (hk : keepIn C.K (.ref a) = true) (ho : C.K.lookup a = some o) (hd : o.data = .func fd) (code : codeIn C.K fd.code fd.qualname = true) (clo : fd.closure = []) (glob : fd.globals = mainGlobals) (bi : fd.builtins = builtinsNs)
    (hb : fd.body = .stmts (bodyOf st)) (co : fd.scope.isCoroutine = false) (gen : fd.scope.isGenerator = false) (kind : fd.scope.kind = .function) (nc : noFreeN fd.scope.names = true) (hn : fd.scope.names = namesOf st) : FnM C K name st a fd :=
  ⟨hf, ht, hk, .ofC ho hd code clo glob bi hb co gen kind nc, hn⟩
abbrev B1 (C : Cx) (fd : FuncData) (x : Str) : Prop := ∀ lv env σ p, Binds C lv env σ fd [p] [] [(x, p)]
abbrev B2 (C : Cx) (fd : FuncData) (x y : Str) : Prop := ∀ lv env σ p q, Binds C lv env σ fd [p, q] [] [(x, p), (y, q)]
abbrev B3 (C : Cx) (fd : FuncData) (x y z : Str) : Prop := ∀ lv env σ p q r, Binds C lv env σ fd [p, q, r] [] [(x, p), (y, q), (z, r)]
def methAt (cb : List Stmt) (k : Nat) : Stmt := cb.getD k (.Pass default)

set_option genInjectivity false
set_option genSizeOf false
structure Meth1 (C : Cx) (K : Addr) (cb : List Stmt) (k : Nat) (name : Str) where
  a : Addr
  fd : FuncData
  m : FnM C K name (methAt cb k) a fd

structure HF (C : Cx) (cb : List Stmt) where
  K : Addr
  glob : nsIn C.K mainGlobals "Headers" = some (some (.ref K))
  keep : keepIn C.K (.ref K) = true
  cls : ClsM C K
  seq : noSeq C.K K = true
  hh : (clsIn C.K K).any (·.hasDict) = true
  taker : takerIn C.K K "_headers" = some none
  own : findIn C.K (.ref K) "_headers" = some none
  bi : BiOk C
  patN : Addr
  gN : nsIn C.K mainGlobals "_name_disallowed_re" = some (some (.ref patN))
  pN : PatAt C patN codeN
  patV : Addr
  gV : nsIn C.K mainGlobals "_value_disallowed_re" = some (some (.ref patV))
  pV : PatAt C patV codeV
  init : Meth1 C K cb 0 "__init__"
  initB : B2 C init.fd "self" "headers"
  init0 : ∀ lv env σ p, Binds C lv env σ init.fd [p] [] [("self", p), ("headers", .none)]
  conv : Meth1 C K cb 1 "_convert_string_type"
  convB : ∀ lv env σ p q r, Binds C lv env σ conv.fd [p, q] [("name", r)] [("self", p), ("value", q), ("name", r)]
  setitem : Meth1 C K cb 3 "__setitem__"
  setB : B3 C setitem.fd "self" "name" "val"
  delitem : Meth1 C K cb 4 "__delitem__"
  delB : B2 C delitem.fd "self" "name"
  items : Meth1 C K cb 11 "items"
  itemsB : B1 C items.fd "self"

abbrev Hd := List Nat × List Nat
def hdPV (x : Hd) : PV := .tup [.str (st x.1), .str (st x.2)]
structure HS (K : Addr) (σ : St) (h d L ep : Nat) : Prop where
  inst : σ.hp h = some (.inst K d)
  dict : σ.hp d = some (.dict [("_headers", .ref L)] ep)
  h0 : 0 < h
  L0 : 0 < L
  hn : h < σ.n
  dn : d < σ.n
  Ln : L < σ.n
  hL : h ≠ L
  dL : d ≠ L
  hd : h ≠ d
theorem HS.grow {K : Addr} {σ σ' : St} {h d L ep : Nat} (x : HS K σ h d L ep) (g : Grow σ σ') : HS K σ' h d L ep := ⟨g.get x.hn x.inst, g.get x.dn x.dict, x.h0, x.L0, Nat.lt_of_lt_of_le x.hn g.n, Nat.lt_of_lt_of_le x.dn g.n, Nat.lt_of_lt_of_le x.Ln g.n, x.hL, x.dL, x.hd⟩
theorem HS.mk' {K : Addr} {σ : St} {h d L ep : Nat} {l : Str → Option PV} (hs : HS K σ h d L ep) : HS K ⟨σ.n, σ.hp, l⟩ h d L ep := ⟨hs.inst, hs.dict, hs.h0, hs.L0, hs.hn, hs.dn, hs.Ln, hs.hL, hs.dL, hs.hd⟩
theorem HS.set' {K : Addr} {σ : St} {h d L ep : Nat} {x : Str} {v : PV} (hs : HS K σ h d L ep) : HS K (σ.set x v) h d L ep := ⟨hs.inst, hs.dict, hs.h0, hs.L0, hs.hn, hs.dn, hs.Ln, hs.hL, hs.dL, hs.hd⟩
def Conv (C : Cx) {cb : List Stmt} (H : HF C cb) (nm : Bool) (v : PV) (r : Option (String × List PV)) (ok : St → Prop) : Prop :=
  ∀ (lv : Lv) (env : Env) (σ : St) (Q : PV → St → Prop) (X : String → List PV → St → Prop) (h : PV), lv.hn = true → lv.d < 27 → ok σ → (r = none → ∀ σ', Grow σ σ' → σ'.loc = σ.loc → Q v σ') → (∀ c as, r = some (c, as) → ∀ σ', Grow σ σ' → σ'.loc = σ.loc → X c as σ') →
    ACall C lv env (.ref H.conv.a) [h, v] [("name", .bool nm)] σ Q X
def low (x : List Nat) : List Nat := (Txt.lower (st x)).cps.toList
theorem lower_st (x : List Nat) : Txt.lower (st x) = st (low x) := st_of _
def Low (C : Cx) (p q : PV) : Prop := ∃ fv, KeepV C fv ∧ (∀ lv env σ, Meth C lv env p "lower" fv σ) ∧ ∀ lv env σ Q X, Q q σ → ACall C lv env fv [p] [] σ Q X
theorem low_str {C : Cx} {x : List Nat} (hx : (low x).length ≤ 100000) : Low C (.str (st x)) (.str (st (low x))) :=
  ⟨.builtin "str.lower", .builtin, fun _ _ _ => m_lower, fun lv env σ Q X h => c_lower (by rw [lower_st, st_len]; omega) (by rw [lower_st]; exact h)⟩

section
variable {C : Cx} {lv : Lv} {env : Env} {σ : St} {X : String → List PV → St → Prop}
theorem o_is_ty_t {a b : String} {Q : PV → St → Prop} (h : Q (.bool true) σ) (hr : (Value.type a == Value.type b) = true := by decide) : Op2 C lv env Rep (compareOp .Is) (.obj (.type a)) (.obj (.type b)) σ Q X := o_is_type (by rw [hr]; exact h)
theorem o_isnot_ty_t {a b : String} {Q : PV → St → Prop} (h : Q (.bool false) σ) (hr : (Value.type a == Value.type b) = true := by decide) : Op2 C lv env Rep (compareOp .IsNot) (.obj (.type a)) (.obj (.type b)) σ Q X := o_isnot_type (by rw [hr]; exact h)
theorem o_isnot_ref {i : Nat} {Q : PV → St → Prop} (h : Q (.bool true) σ) : Op2 C lv env Rep (compareOp .IsNot) (.ref i) .none σ Q X := o_isnot_none nofun h
theorem ac0 {fv : Value} {ps : List PV} {Q : PV → St → Prop} (h : ACall C lv env fv ps [] σ Q X) : ACall C lv env fv ps ((kwNames []).zip []) σ Q X := h
theorem ac1 {fv : Value} {ps : List PV} {k : Str} {v : Expr} {pos : Pos} {p : PV} {Q : PV → St → Prop} (h : ACall C lv env fv ps [(k, p)] σ Q X) : ACall C lv env fv ps ((kwNames [⟨some k, v, pos⟩]).zip [p]) σ Q X := h
theorem c_mX {K : Addr} {name : Str} {st : Stmt} {a : Addr} {fd : FuncData} {ps : List PV} {kw bs : List (Str × PV)} {σb : St} {Q : PV → St → Prop} (G : FnM C K name st a fd) (hd : lv.d < 30)
    (hb : BindsA C lv env σ fd ps kw bs σb) (hl : σb.loc = σ.loc)
    (h : ∀ env' : Env, Sc env' (namesOf st) → FrameOk ⟨lv.d + 1, lv.hn, env' :: lv.fs⟩ env' → ASs C ⟨lv.d + 1, lv.hn, env' :: lv.fs⟩ env' (bodyOf st) ⟨σb.n, σb.hp, locOf bs fun _ => none⟩
      (fun fl σ' => ∃ hp, (∀ i o, hp i = some o → σ'.hp i = some o) ∧ Q (retOf fl) ⟨σ'.n, hp, σ.loc⟩) (fun c as σ' => ∃ hp, (∀ i o, hp i = some o → σ'.hp i = some o) ∧ X c as ⟨σ'.n, hp, σ.loc⟩))
    (hk : (bs.map (·.1)).all (fun y => isLoc2 ((namesOf st).lookup y)) = true := by kernel_rfl) : CCall C lv env (.ref a) ps kw σ Q X := by
  refine c_fnB G.fn hd hb hl (fun y hy => ?_) fun env' hsc hok hfr => h env' (G.names ▸ Sc.of hsc hok) ⟨hfr, _, rfl⟩
  have h1 := List.all_eq_true.mp hk y.1 (List.mem_map_of_mem hy)
  rw [G.names]
  cases hq : (namesOf st).lookup y.1 with
  | none => rw [hq] at h1; cases h1
  | some k => rw [hq] at h1; cases k <;> first | (cases h1; done) | simp
theorem m_hs {K : Addr} {h d L ep : Nat} {name : Str} {st : Stmt} {a : Addr} {fd : FuncData} (x : HS K σ h d L ep) (cls : ClsM C K) (G : FnM C K name st a fd) (hne : (name == "_headers") = false := by decide +kernel) : Meth C lv env (.ref h) name (.ref a) σ :=
  m_inst x.inst x.dict (by rw [List.lookup_cons, hne]; rfl) cls.ga cls.gattr G.find G.typ
theorem e_hs {e : Expr} {pos : Pos} {Q : PV → St → Prop} {cb : List Stmt} (H : HF C cb) (h' : AE C lv env e σ (fun p σ₁ => ∃ h d L ep, p = .ref h ∧ HS H.K σ₁ h d L ep ∧ Q (.ref L) σ₁) X)
    (he : eval (.Attribute e "_headers" pos) env = (do
      let o ← eval e env
      standAt pos.atName
      let r ← holding [o] (getAttr o "_headers" true)
      letTemporaryGo e o r
      pure r) := by rfl) : AE C lv env (.Attribute e "_headers" pos) σ Q X :=
  e_attr (h'.mono (fun p σ₁ ⟨h, d, L, ep, e, x, q⟩ => ⟨h, d, H.K, _, ep, .ref L, none, e, x.inst, x.dict, by simp, nofun, H.cls.ga, H.cls.dict, H.own, rfl, q⟩) fun _ _ _ x => x) he
end
end Mine

namespace Mine
section
variable {C : Cx} {lv : Lv} {env : Env} {σ : St} {X : String → List PV → St → Prop}
end
end Mine
namespace Mine
section
variable {C : Cx} {lv : Lv} {env : Env} {σ : St} {X : String → List PV → St → Prop}
end
end Mine

set_option maxHeartbeats 1000000
namespace Mine
section
variable {C : Cx} {lv : Lv} {env : Env} {σ : St} {X : String → List PV → St → Prop}
end
end Mine

namespace Mine
section
variable {C : Cx} {lv : Lv} {env cenv : Env} {fs : List Env} {σ σ₁ τ : St} {f f' : Nat → Addr} {s s₁ s' s'' : Shared} {X : String → List PV → St → Prop}
end
section
variable {C : Cx} {lv : Lv} {env : Env} {σ : St} {X : String → List PV → St → Prop} {names : List (Str × NameKind)}
end
end Mine

namespace Mine
def cpOk (x : Str) : Prop := ∀ c ∈ x.cps.toList, c < 0x110000
theorem cpOk.st {l : List Nat} (h : ∀ c ∈ l, c < 0x110000) : cpOk (st l) := by unfold cpOk; rw [st_toList]; exact h
mutual
inductive PD (hp : Nat → Option AO) : Nat → PV → PyData → Prop
  | none {n : Nat} : PD hp n .none .none
  | int {n : Nat} (i : Int) : PD hp n (.int i) (.int i)
  | str {n : Nat} {x : Str} (h : cpOk x) : PD hp n (.str x) (.str x)
  | tup {n : Nat} {l : List PV} {ds : List PyData} : PDL hp n l ds → PD hp (n + 1) (.tup l) (.tuple ds)
  | list {n : Nat} {i : Nat} {l : List PV} {ds : List PyData} : hp i = some (.list l) → PDL hp n l ds → PD hp (n + 1) (.ref i) (.list ds)
inductive PDL (hp : Nat → Option AO) : Nat → List PV → List PyData → Prop
  | nil {n : Nat} : PDL hp n [] []
  | cons {n : Nat} {p : PV} {l : List PV} {d : PyData} {ds : List PyData} : PD hp n p d → PDL hp n l ds → PDL hp n (p :: l) (d :: ds)
end
mutual
theorem PD.dat {hp : Nat → Option AO} : ∀ {n : Nat} {p : PV} {d : PyData}, PD hp n p d → ADat hp p d
  | _, _, _, .none => .none
  | _, _, _, .int i => .int i
  | _, _, _, .str _ => .str _
  | _, _, _, .tup h => .tup (PDL.dat h)
  | _, _, _, .list e h => .list e (PDL.dat h)
theorem PDL.dat {hp : Nat → Option AO} : ∀ {n : Nat} {p : List PV} {d : List PyData}, PDL hp n p d → ADatL hp p d
  | _, _, _, .nil => .nil
  | _, _, _, .cons a r => .cons (PD.dat a) (PDL.dat r)
end
mutual
theorem PD.can {hp : Nat → Option AO} : ∀ {n : Nat} {p : PV} {d : PyData}, PD hp n p d → d.canLay0 = true
  | _, _, _, .none => by simp only [PyData.canLay0]
  | _, _, _, .int i => by simp only [PyData.canLay0]
  | _, _, _, .str (x := x) h => by
    simp only [PyData.canLay0, PyData.strOk]
    rw [Array.all_eq_true']
    intro c hc
    exact decide_eq_true (h c (by simpa using hc))
  | _, _, _, .tup h => by simp only [PyData.canLay0]; exact PDL.can h
  | _, _, _, .list e h => by simp only [PyData.canLay0]; exact PDL.can h
theorem PDL.can {hp : Nat → Option AO} : ∀ {n : Nat} {p : List PV} {d : List PyData}, PDL hp n p d → PyData.canLayAll0 d = true
  | _, _, _, .nil => by simp only [PyData.canLayAll0]
  | _, _, _, .cons a r => by simp only [PyData.canLayAll0]; rw [PD.can a, PDL.can r]; rfl
end
mutual
theorem PD.depth {hp : Nat → Option AO} : ∀ {n : Nat} {p : PV} {d : PyData}, PD hp n p d → d.depth ≤ n
  | _, _, _, .none => by simp only [PyData.depth]; omega
  | _, _, _, .int i => by simp only [PyData.depth]; omega
  | _, _, _, .str (x := x) h => by simp only [PyData.depth]; omega
  | _, _, _, .tup h => by simp only [PyData.depth]; have := PDL.depth h; omega
  | _, _, _, .list e h => by simp only [PyData.depth]; have := PDL.depth h; omega
theorem PDL.depth {hp : Nat → Option AO} : ∀ {n : Nat} {p : List PV} {d : List PyData}, PDL hp n p d → PyData.depthAll d ≤ n
  | _, _, _, .nil => by simp only [PyData.depthAll]; omega
  | _, _, _, .cons a r => by simp only [PyData.depthAll]; have := PD.depth a; have := PDL.depth r; omega
end
mutual
theorem PD.eqv {hp hp' : Nat → Option AO} {n m : Nat} {p q : PV} {d e : PyData} (h : PD hp n p d) (k : PD hp' m q e) : (PyData.eqv d e = true ↔ d = e) := by
  cases h with
  | none => cases k <;> simp [PyData.eqv]
  | int i => cases k <;> simp [PyData.eqv]
  | str _ => cases k <;> simp [PyData.eqv]
  | tup a =>
    cases k with
    | tup b => simp only [PyData.eqv, PyData.tuple.injEq]; exact PDL.eqv a b
    | _ => simp [PyData.eqv]
  | list _ a =>
    cases k with
    | list _ b => simp only [PyData.eqv, PyData.list.injEq]; exact PDL.eqv a b
    | _ => simp [PyData.eqv]
theorem PDL.eqv {hp hp' : Nat → Option AO} {n m : Nat} {p q : List PV} {d e : List PyData} (h : PDL hp n p d) (k : PDL hp' m q e) : (PyData.eqvAll d e = true ↔ d = e) := by
  cases h with
  | nil => cases k <;> simp [PyData.eqvAll]
  | cons a r =>
    cases k with
    | nil => simp [PyData.eqvAll]
    | cons b t =>
      simp only [PyData.eqvAll, Bool.and_eq_true, List.cons.injEq]
      rw [PD.eqv a b, PDL.eqv r t]
end
theorem PD.shaped {hp : Nat → Option AO} {n : Nat} {p : PV} {d : PyData} (h : PD hp n p d) (hn : n ≤ 64) : SeqAt.shaped d = true := by
  unfold SeqAt.shaped
  rw [h.can, Bool.true_and]
  exact decide_eq_true (Nat.le_trans h.depth hn)
mutual
theorem PD.mono {hp hp' : Nat → Option AO} (hh : ∀ i l, hp i = some (.list l) → hp' i = some (.list l)) : ∀ {n : Nat} {p : PV} {d : PyData}, PD hp n p d → PD hp' n p d
  | _, _, _, .none => .none
  | _, _, _, .int i => .int i
  | _, _, _, .str h => .str h
  | _, _, _, .tup h => .tup (PDL.mono hh h)
  | _, _, _, .list e h => .list (hh _ _ e) (PDL.mono hh h)
theorem PDL.mono {hp hp' : Nat → Option AO} (hh : ∀ i l, hp i = some (.list l) → hp' i = some (.list l)) : ∀ {n : Nat} {p : List PV} {d : List PyData}, PDL hp n p d → PDL hp' n p d
  | _, _, _, .nil => .nil
  | _, _, _, .cons a r => .cons (PD.mono hh a) (PDL.mono hh r)
end
theorem PDL.map {α : Type} {hp : Nat → Option AO} {n : Nat} {f : α → PV} {g : α → PyData} : ∀ {l : List α}, (∀ x ∈ l, PD hp n (f x) (g x)) → PDL hp n (l.map f) (l.map g)
  | [], _ => .nil
  | a :: r, h => .cons (h a (List.mem_cons_self ..)) (PDL.map fun x hx => h x (List.mem_cons_of_mem _ hx))
section
variable {C : Cx} {lv : Lv} {env : Env} {σ : St} {X : String → List PV → St → Prop}
theorem o_eqP {n m : Nat} {p q : PV} {d e : PyData} {Q : PV → St → Prop} (hp : PD σ.hp n p d) (hq : PD σ.hp m q e) (h1 : d = e → Q (.bool true) σ) (h2 : d ≠ e → Q (.bool false) σ) (hn : n ≤ 64 := by decide) (hm : m ≤ 64 := by decide) : Op2 C lv env Rep (compareOp .Eq) p q σ Q X := by
  refine o_eq hp.dat hq.dat (hp.shaped hn) (hq.shaped hm) ?_
  cases h : PyData.eqv d e with
  | true => exact h1 ((hp.eqv hq).mp h)
  | false => exact h2 fun q => by rw [(hp.eqv hq).mpr q] at h; cases h
theorem o_neP {n m : Nat} {p q : PV} {d e : PyData} {Q : PV → St → Prop} (hp : PD σ.hp n p d) (hq : PD σ.hp m q e) (h1 : d = e → Q (.bool false) σ) (h2 : d ≠ e → Q (.bool true) σ) (hn : n ≤ 64 := by decide) (hm : m ≤ 64 := by decide) : Op2 C lv env Rep (compareOp .NotEq) p q σ Q X := by
  refine o_ne hp.dat hq.dat (hp.shaped hn) (hq.shaped hm) ?_
  cases h : PyData.eqv d e with
  | true => exact h1 ((hp.eqv hq).mp h)
  | false => exact h2 fun q => by rw [(hp.eqv hq).mpr q] at h; cases h
theorem comp_idx {elt target : Expr} {ifs : List Expr} {scope : Scope} {p : PV} {l : List PV} {ok : St → Prop} {Q : PV → St → Prop} (r : List (Option PV)) (hr : r.length = l.length) (h0 : 0 < σ.n) (hit : Iterable C lv env p l ok σ) (hok : ∀ τ, Grow σ τ → ok τ) (hl : l.length < 16777216)
    (turn : ∀ cenv, Sc cenv scope.names → ∀ (k : Nat) (p : PV) (y : Option PV), l[k]? = some p → r[k]? = some y → ∀ τ : St, Grow σ τ → (∀ x, scope.names.lookup x = some .free → τ.loc x = σ.loc x) →
      AAssign C lv cenv target p τ (fun τ₁ => ATests C lv cenv ifs τ₁ (fun b τ₂ => (b = true → AE C lv cenv elt τ₂ (fun e τ₃ => y = some e ∧ Grow τ τ₃ ∧ ∀ x, scope.names.lookup x = some .free → τ₃.loc x = τ.loc x) NoX) ∧
        (b = false → y = none ∧ Grow τ τ₂ ∧ ∀ x, scope.names.lookup x = some .free → τ₂.loc x = τ.loc x)) NoX) NoX)
    (done : ∀ τ, Grow σ τ → τ.hp σ.n = some (.list (r.filterMap id)) → σ.n < τ.n → τ.loc = σ.loc → Q (.ref σ.n) τ) : CSpec C lv env scope target elt ifs p σ Q := by
  refine ⟨l, ok, fun k acc τ => acc = (r.take k).filterMap id ∧ Grow σ τ ∧ σ.n < τ.n ∧ τ.hp σ.n = some (.list acc) ∧ ∀ x, scope.names.lookup x = some .free → τ.loc x = σ.loc x, h0, hit, ?_, ?_, ?_, ?_⟩
  · intro loc hloc
    exact ⟨rfl, ⟨Nat.le_succ _, fun i hi => if_neg (Nat.ne_of_lt hi)⟩, Nat.lt_succ_self _, if_pos rfl, hloc⟩
  · intro k acc τ ⟨_, g1, _, _, h5⟩
    exact ⟨hok τ g1, h5⟩
  · intro cenv hsc k acc p τ hp ⟨h1, h2, h3, h4, h5⟩
    have hk : k < l.length := (List.getElem?_eq_some_iff.mp hp).1
    obtain ⟨y, hy⟩ : ∃ y, r[k]? = some y := ⟨r[k], List.getElem?_eq_getElem (by omega)⟩
    have htake : r.take (k + 1) = r.take k ++ [y] := by rw [List.take_add_one, hy]; rfl
    have hlen : acc.length < 16777216 := by
      rw [h1]
      have a1 := List.length_filterMap_le id (r.take k)
      rw [List.length_take] at a1
      omega
    refine (turn cenv hsc k p y hp hy τ h2 h5).mono fun τ₁ t1 => t1.mono (fun b τ₂ t2 => ⟨fun hb => (t2.1 hb).mono (fun e τ₃ ⟨q1, q2, q3⟩ => ?_) fun _ _ _ x => x, fun hb => ?_⟩) fun _ _ _ x => x
    · refine ⟨(q2.hp _ h3).trans h4, hlen, ?_, ⟨(h2.trans q2).n, fun i hi => (if_neg (Nat.ne_of_lt hi)).trans ((h2.trans q2).hp i hi)⟩, Nat.lt_of_lt_of_le h3 q2.n, if_pos rfl, fun x hx => (q3 x hx).trans (h5 x hx)⟩
      rw [htake, List.filterMap_append, h1]
      simp [q1]
    · obtain ⟨q1, q2, q3⟩ := t2.2 hb
      refine ⟨?_, h2.trans q2, Nat.lt_of_lt_of_le h3 q2.n, (q2.hp _ h3).trans h4, fun x hx => (q3 x hx).trans (h5 x hx)⟩
      rw [htake, List.filterMap_append, h1]
      simp [q1]
  · intro acc τ ⟨h1, h2, h3, h4, h5⟩
    rw [← hr, List.take_length] at h1
    exact ⟨τ.hp, fun i o e => e, done _ ⟨h2.n, h2.hp⟩ (by rw [← h1]; exact h4) h3 rfl⟩
end
end Mine

namespace Mine
open PySem.StrLaws PySem.Builtin PySem.Builtin.Str
section
variable {C : Cx} {lv : Lv} {env : Env} {σ : St} {X : String → List PV → St → Prop}
end
end Mine

namespace Mine
section
variable {C : Cx} {lv : Lv} {env : Env} {σ : St} {X : String → List PV → St → Prop}
theorem c_str_int {a : Int} {Q : PV → St → Prop} (ha : a.natAbs < 1000000) (h : Q (.str (Str.ofString (toString a))) σ) : ACall C lv env (.type "str") [.int a] [] σ Q X := by
  refine ⟨fun A f s vs ks hA R hv hk => ?_⟩
  cases hk
  obtain ⟨v, ws, rfl, hv1, hr⟩ := hv.consI
  cases hr.nilI
  obtain ⟨t, rfl⟩ := hv1.intI
  refine PySem.P.str_of_int ?_ (Post.here R h (.str _ _) (Nat.le_succ _))
  have h1 : a.natAbs.log2 ≤ 20 := by
    rcases Nat.eq_zero_or_pos a.natAbs with h0 | h0
    · rw [h0]; decide
    · have := (Nat.log2_lt (k := 20) (by omega)).mpr (by omega : a.natAbs < 2 ^ 20); omega
  omega
end
end Mine

namespace Mine
section
variable {C : Cx} {lv : Lv} {env : Env} {σ : St} {X : String → List PV → St → Prop} {names : List (Str × NameKind)}
theorem if_yes {x : Str} {c a : Int} {k : Nat} {p1 p2 p3 pos : Pos} {body orelse rest : List Stmt} {Q : PFlow → St → Prop} (S : Sc env names) (hv : σ.loc x = some (.int a)) (he : a = c)
    (h : ASs C lv env body σ (fun fl σ₁ => (fl = .next → ASs C lv env rest σ₁ Q X) ∧ (fl ≠ .next → Q fl σ₁)) X)
    (hx : isLoc (names.lookup x) = true := by decide +kernel) (hd : (x == ("__debug__" : Str)) = false := by decide +kernel) (hc : (x == ("__classdict__" : Str)) = false := by decide +kernel) :
    ASs C lv env (.If (.Compare (.Name x p1) [.Eq] [.Constant (.int c) k p2] p3) body orelse pos :: rest) σ Q X :=
  ss_cons (s_if (t_cmp (e_nm S (e_int (o_eq_int (tr_bool ⟨fun _ => h, fun q => by rw [he] at q; simp at q⟩))) hv hx hd hc)))
theorem if_no {x : Str} {c a : Int} {k : Nat} {p1 p2 p3 pos : Pos} {body orelse rest : List Stmt} {Q : PFlow → St → Prop} (S : Sc env names) (hv : σ.loc x = some (.int a)) (he : a ≠ c)
    (h : ASs C lv env orelse σ (fun fl σ₁ => (fl = .next → ASs C lv env rest σ₁ Q X) ∧ (fl ≠ .next → Q fl σ₁)) X)
    (hx : isLoc (names.lookup x) = true := by decide +kernel) (hd : (x == ("__debug__" : Str)) = false := by decide +kernel) (hc : (x == ("__classdict__" : Str)) = false := by decide +kernel) :
    ASs C lv env (.If (.Compare (.Name x p1) [.Eq] [.Constant (.int c) k p2] p3) body orelse pos :: rest) σ Q X :=
  ss_cons (s_if (t_cmp (e_nm S (e_int (o_eq_int (tr_bool ⟨fun q => absurd (beq_iff_eq.mp q) he, fun _ => h⟩))) hv hx hd hc)))
theorem if_no0 {x : Str} {c a : Int} {k : Nat} {p1 p2 p3 pos : Pos} {body rest : List Stmt} {Q : PFlow → St → Prop} (S : Sc env names) (hv : σ.loc x = some (.int a)) (he : a ≠ c)
    (h : ASs C lv env rest σ Q X)
    (hx : isLoc (names.lookup x) = true := by decide +kernel) (hd : (x == ("__debug__" : Str)) = false := by decide +kernel) (hc : (x == ("__classdict__" : Str)) = false := by decide +kernel) :
    ASs C lv env (.If (.Compare (.Name x p1) [.Eq] [.Constant (.int c) k p2] p3) body [] pos :: rest) σ Q X :=
  if_no S hv he (ss_nil ⟨fun _ => h, fun q => absurd rfl q⟩) hx hd hc
end
end Mine

namespace Mine
section
variable {C : Cx} {lv : Lv} {env : Env} {σ : St} {X : String → List PV → St → Prop}
theorem e_cmp2 {l r₁ r₂ : Expr} {op₁ op₂ : CmpOp} {pos : Pos} {Q : PV → St → Prop}
    (h : AE C lv env l σ (fun a σ₁ => AE C lv env r₁ σ₁ (fun b σ₂ => Op2 C lv env Rep (compareOp op₁) a b σ₂ (fun c σ₃ => Op1 C lv env repB truthy c σ₃ (fun t σ₄ =>
      (t = true → AE C lv env r₂ σ₄ (fun d σ₅ => Op2 C lv env Rep (compareOp op₂) b d σ₅ Q X) X) ∧ (t = false → Q c σ₄)) X) X) X) X)
    (hm : lastMarks [op₁, op₂] [r₁, r₂] = false := by rfl) : AE C lv env (.Compare l [op₁, op₂] [r₁, r₂] pos) σ Q X := by
  refine ⟨fun A f s hA R => Compare_chain (h.use hA R (fun va a σ₁ f₁ s₁ h₁ ra R₁ E₁ => chain_link (h₁.use hA R₁ (fun vb b σ₂ f₂ s₂ h₂ rb R₂ E₂ => ?_) fun _ _ x => PostX.trans E₁ x)) fun _ _ x => x) hm⟩
  refine wpAny_mono (h₂.run A f₂ s₂ va vb hA R₂ (ra.ext R₁ E₂) rb) (fun vc s₃ ⟨c, σ₃, f₃, h₃, rc, R₃, E₃⟩ => ?_) fun _ _ x => PostX.trans (E₁.trans E₂) x
  refine wpAny_mono (h₃.run A f₃ s₃ vc hA R₃ rc) (fun t s₄ ⟨t', σ₄, f₄, h₄, ht, R₄, E₄⟩ => ?_) fun _ _ x => PostX.trans ((E₁.trans E₂).trans E₃) x
  cases ht
  have E14 := ((E₁.trans E₂).trans E₃).trans E₄
  cases t with
  | false => exact ⟨c, σ₄, f₄, h₄.2 rfl, rc.ext R₃ E₄, R₄, E14⟩
  | true =>
    refine chain_last ((h₄.1 rfl).use hA R₄ (fun vd d σ₅ f₅ s₅ h₅ rd R₅ E₅ => ?_) fun _ _ x => PostX.trans E14 x)
    exact wpAny_mono (h₅.run A f₅ s₅ vb vd hA R₅ (((rb.ext R₂ E₃).ext R₃ E₄).ext R₄ E₅) rd) (fun _ _ x => Post.trans (E14.trans E₅) x) fun _ _ x => PostX.trans (E14.trans E₅) x
end
end Mine

namespace Mine
open PySem.Builtin PySem.Builtin.Str in
theorem field_man {prog : Program} {w : World} {A : Around} {E : Value → Shared → Prop} {s : Shared} {id : String} {v : Value} {byName : Str → Sem Value} {Q : Value × Numbering → Shared → Prop}
    (h : Q (v, .manual) s) : wpAny (model prog w) A (fieldObject id (some #[v]) byName [48] .unset) Q E s := by
  unfold fieldObject
  refine wpAny_bind (wpAny_of_eq (a := some 0) rfl ?_)
  refine wpAny_bind (wpAny_of_eq (a := (some 0, .manual)) rfl ?_)
  have ha : (#[v] : Array Value)[0]? = some v := rfl
  simp only [ha, pure_bind]
  rw [KPc.range_list]
  exact wpAny_bind (wpAny_pure (wpAny_pure h))
set_option maxHeartbeats 4000000 in
open PySem.Builtin PySem.Builtin.Str in
theorem meets_got (x : Str) (t tx : Tok) (hx : x.length ≤ 1000000) :
    Meets («str.format» ⟨[.str ⟨#[72, 101, 97, 100, 101, 114, 32, 110, 97, 109, 101, 115, 47, 118, 97, 108, 117, 101, 115, 32, 109, 117, 115, 116, 32, 98, 101, 32, 111, 102, 32, 116, 121, 112, 101, 32, 115, 116, 114, 32, 40, 103, 111, 116, 32, 123, 48, 125, 41]⟩ t, .str x tx], []⟩) (fun _ R s => ∀ t' k, R (.ok (.ret (.str (Str.ofString "Header names/values must be of type str (got " ++ x ++ Str.ofString ")") t'))) { s with toks := k }) := by
  apply KPc.meets_of
  intro _ _ _ _ _ _ _
  unfold Builtin.«str.format»
  refine wpAny_bind (wpAny_of_eq (a := (_, _, _)) rfl ?_)
  refine wpAny_bind ?_
  unfold Builtin.Str.buildString
  refine wpAny_bind ?_
  rw [KPc.range_list]
  refine KFm.start ?_
  intro _ _
  refine KPc.turn ?_
  kpc_if
  kpc_check
  refine wpAny_bind (field_man ?_)
  refine wpAny_bind (wpAny_holding (wpAny_of_eq (a := _) rfl ?_))
  kpc_if
  refine wpAny_bind (wpAny_pure ?_)
  kfm_val
  refine wpAny_bind (wpAny_of_eq (a := some _) rfl ?_)
  refine wpAny_pure ?_
  refine KFm.after_field (by kpc_g) (by kpc_text) (by kpc_obj) hx (by kpc_obj) (by kfm_cat2) (by kfm_rest) ?_
  intro _ _
  kfm_turns
end Mine

namespace Mine
namespace FB
theorem slot_bytes_repr : Slot "bytes" "__repr__" "bytes.__repr__" :=
  .of (owner := "bytes") (n := "__repr__") (by rw [typeLookup_type, builtinLookup_eq_fast]; kernel_rfl) (by decide +kernel) (by decide +kernel) (by decide +kernel)
    (by first | exact .inl (by decide +kernel) | exact .inr (by decide +kernel)) (by rw [isSubtype_type]; kernel_rfl)
theorem entry_bytes_repr : entryFor table "bytes.__repr__" = some Builtin.«bytes.__repr__» := entryFor_of_tree (by kernel_rfl)
theorem args_bytes_repr (a : Value) : argsOk "bytes.__repr__" ⟨[a], []⟩ := by
  unfold argsOk; rw [signature?_of (id := "bytes.__repr__") (n := ['_', '_', 'r', 'p', 'e', 'r', '_', '_']) (o := ['s', 'e', 't', 'y', 'b']) (by kernel_rfl) PySem.W.FB.owner_bytes]; kernel_rfl
end FB
section
variable {C : Cx} {lv : Lv} {env : Env} {σ : St} {X : String → List PV → St → Prop}
theorem one_arg {f : Nat → Addr} {n : Nat} {h : Heap} {vs : List Value} {p : PV} (x : RepL f n h vs [p]) : ∃ v, vs = [v] ∧ Rep f n h v p := by
  obtain ⟨v, ws, rfl, h1, hr⟩ := x.consI
  cases hr.nilI
  exact ⟨v, rfl, h1⟩
theorem c_type_int {a : Int} {Q : PV → St → Prop} (h : Q (.obj (.type "int")) σ) : ACall C lv env (.type "type") [.int a] [] σ Q X := by
  refine ⟨fun A f s vs ks hA R hv hk => ?_⟩
  cases hk
  obtain ⟨v, rfl, hq⟩ := one_arg hv
  obtain ⟨t, rfl⟩ := hq.intI
  exact call_type_of (typeIs_int _ _ _) (by decide) (Post.now R h (.obj _))
theorem c_type_none {Q : PV → St → Prop} (h : Q (.obj (.type "NoneType")) σ) : ACall C lv env (.type "type") [.none] [] σ Q X := by
  refine ⟨fun A f s vs ks hA R hv hk => ?_⟩
  cases hk
  obtain ⟨v, rfl, hq⟩ := one_arg hv
  obtain rfl := hq.noneI
  exact call_type_of (typeIs_none _) (by decide) (Post.now R h (.obj _))
theorem c_type_bool {b : Bool} {Q : PV → St → Prop} (h : Q (.obj (.type "bool")) σ) : ACall C lv env (.type "type") [.bool b] [] σ Q X := by
  refine ⟨fun A f s vs ks hA R hv hk => ?_⟩
  cases hk
  obtain ⟨v, rfl, hq⟩ := one_arg hv
  obtain rfl := hq.boolI
  exact call_type_of (PySem.typeIs_bool _ _) (by decide) (Post.now R h (.obj _))
theorem Rep.bytesI {f : Nat → Addr} {n : Nat} {h : Heap} {v : Value} {b : Array UInt8} (x : Rep f n h v (.bytes b)) : ∃ t, v = .bytes b t := by cases x; exact ⟨_, rfl⟩
theorem Rep.tupI {f : Nat → Addr} {n : Nat} {h : Heap} {v : Value} {l : List PV} (x : Rep f n h v (.tup l)) : ∃ a vs, v = .ref a ∧ h.IsTuple a (vs : List Value).toArray ∧ RepL f n h vs l := by cases x; exact ⟨_, _, rfl, by assumption, by assumption⟩
theorem c_type_bytes {b : Array UInt8} {Q : PV → St → Prop} (h : Q (.obj (.type "bytes")) σ) : ACall C lv env (.type "type") [.bytes b] [] σ Q X := by
  refine ⟨fun A f s vs ks hA R hv hk => ?_⟩
  cases hk
  obtain ⟨v, rfl, hq⟩ := one_arg hv
  obtain ⟨t, rfl⟩ := hq.bytesI
  exact call_type_of (typeIs_bytes _ _ _) (by decide) (Post.now R h (.obj _))
theorem c_type_tup {l : List PV} {Q : PV → St → Prop} (h : Q (.obj (.type "tuple")) σ) : ACall C lv env (.type "type") [.tup l] [] σ Q X := by
  refine ⟨fun A f s vs ks hA R hv hk => ?_⟩
  cases hk
  obtain ⟨v, rfl, hq⟩ := one_arg hv
  obtain ⟨a, ws, rfl, ⟨o, ho, hc, _⟩, _⟩ := hq.tupI
  exact call_type_of ⟨o, ho, hc⟩ (by decide) (Post.now R h (.obj _))
theorem c_type_dict {i ep : Nat} {l : List (Str × PV)} {Q : PV → St → Prop} (hi : σ.hp i = some (.dict l ep)) (h : Q (.obj (.type "dict")) σ) : ACall C lv env (.type "type") [.ref i] [] σ Q X := by
  refine ⟨fun A f s vs ks hA R hv hk => ?_⟩
  cases hk
  obtain ⟨v, rfl, hq⟩ := one_arg hv
  obtain ⟨_, rfl⟩ := hq.refI
  obtain ⟨_, es, ho, _⟩ := R.objs i _ hi
  exact call_type_of ⟨_, ho, rfl⟩ (by decide) (Post.now R h (.obj _))
theorem c_type_exc {i : Nat} {cls : String} {l : List PV} {Q : PV → St → Prop} (hi : σ.hp i = some (.exc cls l)) (hne : cls ≠ "builtin_function_or_method") (h : Q (.obj (.type cls)) σ) : ACall C lv env (.type "type") [.ref i] [] σ Q X := by
  refine ⟨fun A f s vs ks hA R hv hk => ?_⟩
  cases hk
  obtain ⟨v, rfl, hq⟩ := one_arg hv
  obtain ⟨_, rfl⟩ := hq.refI
  obtain ⟨_, o, fv, t, ws, h1, h2, _⟩ := R.objs i _ hi
  exact call_type_of ⟨o, h1, h2⟩ (by first | exact hne | decide | simpa using hne) (Post.now R h (.obj _))
theorem c_repr_int {a : Int} {Q : PV → St → Prop} (ha : a.natAbs < 1000000) (h : Q (.str (Str.ofString (toString a))) σ) : ACall C lv env (.builtin "repr") [.int a] [] σ Q X := by
  refine ⟨fun A f s vs ks hA R hv hk => ?_⟩
  cases hk
  obtain ⟨v, rfl, hq⟩ := one_arg hv
  obtain ⟨t, rfl⟩ := hq.intI
  refine PySem.P.repr_of_int ?_ (Post.here R h (.str _ _) (Nat.le_succ _))
  have h1 : a.natAbs.log2 ≤ 20 := by
    rcases Nat.eq_zero_or_pos a.natAbs with h0 | h0
    · rw [h0]; decide
    · have := (Nat.log2_lt (k := 20) (by omega)).mpr (by omega : a.natAbs < 2 ^ 20); omega
  omega
theorem c_repr_none {Q : PV → St → Prop} (h : Q (.str (Str.ofString "None")) σ) : ACall C lv env (.builtin "repr") [.none] [] σ Q X := by
  refine ⟨fun A f s vs ks hA R hv hk => ?_⟩
  cases hk
  obtain ⟨v, rfl, hq⟩ := one_arg hv
  obtain rfl := hq.noneI
  exact PySem.P.repr_of_none (Post.here R h (.str _ _) (Nat.le_succ _))
theorem c_repr_bytes {b : Array UInt8} {x : Str} {Q : PV → St → Prop} (g : ∀ t, Gives (Builtin.«bytes.__repr__» ⟨[.bytes b t], []⟩) (Made.str x)) (hx : x.length ≤ 1000) (h : Q (.str x) σ) : ACall C lv env (.builtin "repr") [.bytes b] [] σ Q X := by
  refine ⟨fun A f s vs ks hA R hv hk => ?_⟩
  cases hk
  obtain ⟨v, rfl, hq⟩ := one_arg hv
  obtain ⟨t, rfl⟩ := hq.bytesI
  exact call_repr_gives (typeIs_bytes s b t) FB.slot_bytes_repr FB.entry_bytes_repr (FB.args_bytes_repr _) (g t) (Post.here R h (.str _ _) (Nat.le_succ _)) rfl (by rw [sizeLine_eq]; omega)
theorem c_repr_exc {cls n : String} (FX : ExcStrFacts cls n) {i : Nat} {m x : Str} {Q : PV → St → Prop} (hi : σ.hp i = some (.exc cls [.str m])) (hx : excReprHead n ++ "(" ++ reprText m ++ ")" = x) (hl : x.length ≤ 1000) (h : Q (.str x) σ) : ACall C lv env (.builtin "repr") [.ref i] [] σ Q X := by
  refine ⟨fun A f s vs ks hA R hv hk => ?_⟩
  cases hk
  obtain ⟨v, rfl, hq⟩ := one_arg hv
  obtain ⟨_, rfl⟩ := hq.refI
  obtain ⟨_, o, fv, t, ws, h1, h2, h3, h4, ⟨ot, h5, h6, k, h7⟩, h8⟩ := R.objs i _ hi
  obtain ⟨u, rfl, hu⟩ := one_arg h8
  obtain ⟨tk, rfl⟩ := hu.strI
  refine call_repr_exc_one FX (by have := hA.units; have := hA.small; show A.units + 1 < cLine; have e : cLine = 9900 := rfl; omega) ⟨o, fv, h1, h2, h3, h4⟩ ⟨ot, k, h5, h6, h7⟩ ?_ (by rw [hx, sizeLine_eq]; omega)
  rw [hx]
  exact Post.here R h (.str _ _) (Nat.le_trans (Nat.le_succ _) (Nat.le_succ _))
theorem m_format {x : Str} : Meth C lv env (.str x) "format" (.builtin "str.format") σ := by
  intro A f s v pl Q E hA R hv h
  obtain ⟨t, rfl⟩ := hv.strI
  exact KFm.method (h s.toks (Nat.le_refl _))
theorem c_format {x : Str} {Q : PV → St → Prop} (hx : x.length ≤ 1000000) (h : Q (.str (Str.ofString "Header names/values must be of type str (got " ++ x ++ Str.ofString ")")) σ) : ACall C lv env (.builtin "str.format") [.str (Str.ofString "Header names/values must be of type str (got {0})"), .str x] [] σ Q X := by
  refine ⟨fun A f s vs ks hA R hv hk => ?_⟩
  cases hk
  obtain ⟨v, ws, rfl, hv1, hr⟩ := hv.consI
  obtain ⟨u, rfl, hv2⟩ := one_arg hr
  obtain ⟨t, rfl⟩ := hv1.strI
  obtain ⟨t', rfl⟩ := hv2.strI
  refine wp_toks (KFm.call_k (by decide +kernel) (KFm.args_2 _ _) (meets_got x t t' hx) fun t' k hk => ?_)
  exact Post.here R h (.str _ _) hk
end
end Mine

namespace Mine
namespace FB
theorem ga_VE : Slot "ValueError" "__getattribute__" "BaseException.__getattribute__" :=
  .of (owner := "BaseException") (n := "__getattribute__") (by rw [typeLookup_type, builtinLookup_eq_fast]; kernel_rfl) (by decide +kernel) (by decide +kernel) (by decide +kernel)
    (by first | exact .inl (by decide +kernel) | exact .inr (by decide +kernel)) (by rw [isSubtype_type]; kernel_rfl)
theorem lk_VE_class : typeLookup (.type "ValueError") "__class__" = pure (some (.builtin "object.__class__")) := by rw [typeLookup_type, builtinLookup_eq_fast]; kernel_rfl
theorem sub_VE_owner : isSubtype (.type "ValueError") (.type (".".intercalate ("object.__class__".cutAt '.').dropLast)) = pure true := by
  rw [PySem.F.owner_object_class, isSubtype_type]; kernel_rfl
theorem meta_Exception : typeOf (.type "Exception") = pure (.type "type") := by kernel_rfl
theorem sub_VE_str : isSubtype (.type "ValueError") (.type "str") = pure false := by rw [isSubtype_type]; kernel_rfl
theorem sub_VE_Exc : isSubtype (.type "ValueError") (.type "Exception") = pure true := by rw [isSubtype_type]; kernel_rfl
theorem sub_int_Exc : isSubtype (.type "int") (.type "Exception") = pure false := by rw [isSubtype_type]; kernel_rfl
theorem sub_none_Exc : isSubtype (.type "NoneType") (.type "Exception") = pure false := by rw [isSubtype_type]; kernel_rfl
section
variable {prog : Program} {w : World} {A : Around} {E : Value → Shared → Prop} {h : Heap} {g : Array GenState} {d : Drawn} {t : Nat} {os : OsState} {a : Addr} {o : Obj}
theorem class_get_VE {R : Result → Shared → Prop} (hx : h.get? a = some o) (hc : o.cls = .type "ValueError") (hq : R (.ok (.ret (.type "ValueError"))) ⟨h, g, d, t, os⟩) :
    codeAny (model prog w) A (.call (.builtin "getset_descriptor.__get__") ⟨[.builtin "object.__class__", .ref a, .type "ValueError"], []⟩) R ⟨h, g, d, t, os⟩ := by
  have hT : (⟨h, g, d, t, os⟩ : Shared).TypeIs (.ref a) "ValueError" := ⟨_, hx, hc⟩
  have hT5 : (⟨h, g, d, t, os⟩ : Shared).TypeIs (.builtin "object.__class__") "getset_descriptor" := PySem.F.typeOf_object_class
  have f8 := sub_VE_owner
  refine codeAny_call_builtin PySem.F.slot_gs_get.plain PySem.F.entry_gs_get (PySem.F.slot_gs_get.check _ _ _ _ _ _ _ _ hT5 (PySem.F.args_gs_get _ _ _) ?_)
  repeat (any_goals (first | assumption | wp_step))
  refine ⟨Code.quiet_builtin _ (by decide +kernel), codeAny_builtin PySem.F.entry_object_class ?_⟩
  repeat (any_goals (first | assumption | wp_step))
theorem class_entry_VE {tk : Tok} {Q : Fin → Shared → Prop} (hx : h.get? a = some o) (hc : o.cls = .type "ValueError") (hq : Q (.done (.ret (.type "ValueError"))) ⟨h, g, d, t, os⟩) :
    wpAny (model prog w) A (Builtin.«object.__getattribute__» ⟨[.ref a, .str "__class__" tk], []⟩) Q E ⟨h, g, d, t, os⟩ := by
  have hT : (⟨h, g, d, t, os⟩ : Shared).TypeIs (.ref a) "ValueError" := ⟨_, hx, hc⟩
  have hT5 : (⟨h, g, d, t, os⟩ : Shared).TypeIs (.builtin "object.__class__") "getset_descriptor" := PySem.F.typeOf_object_class
  have f4 := lk_VE_class
  have f5 := PySem.F.typeOf_object_class
  have f6 := PySem.F.slot_gs_get.lookup
  have f7 := PySem.F.slot_gs_set.lookup
  repeat (any_goals (first | assumption | wp_step))
  refine class_get_VE hx hc ?_
  repeat (any_goals (first | assumption | wp_step))
theorem class_call_VE {tk : Tok} {R : Result → Shared → Prop} (hx : h.get? a = some o) (hc : o.cls = .type "ValueError") (hq : R (.ok (.ret (.type "ValueError"))) ⟨h, g, d, t, os⟩) :
    codeAny (model prog w) A (.call (.builtin "BaseException.__getattribute__") ⟨[.ref a, .str "__class__" tk], []⟩) R ⟨h, g, d, t, os⟩ :=
  codeAny_call_builtin ga_VE.plain PySem.F.entry_bexc_ga (ga_VE.check _ _ _ _ _ _ _ _ (show (⟨h, g, d, t, os⟩ : Shared).TypeIs (.ref a) "ValueError" from ⟨_, hx, hc⟩) (PySem.F.args_bexc_ga _ _) (class_entry_VE hx hc hq))
theorem class_by_VE {tk : Tok} {Q : Value → Shared → Prop} (hx : h.get? a = some o) (hc : o.cls = .type "ValueError") (hq : Q (.type "ValueError") ⟨h, g, d, t, os⟩) : wpAny (model prog w) A (getAttrBy (.ref a) (.str "__class__" tk) false) Q E ⟨h, g, d, t, os⟩ := by
  have hT : (⟨h, g, d, t, os⟩ : Shared).TypeIs (.ref a) "ValueError" := ⟨_, hx, hc⟩
  have f2 := ga_VE.lookup
  have f3 := ga_VE.bind (.ref a)
  repeat (any_goals (first | assumption | wp_step))
  refine class_call_VE hx hc ?_
  repeat (any_goals (first | assumption | wp_step))
theorem class_attr_VE {Q : Option Value → Shared → Prop} (hx : h.get? a = some o) (hc : o.cls = .type "ValueError") (hq : Q (some (.type "ValueError")) ⟨h, g, d, t + 1, os⟩) : wpAny (model prog w) A (getAttr? (.ref a) "__class__") Q E ⟨h, g, d, t, os⟩ := by
  unfold getAttr? getAttrBy?
  repeat (any_goals (first | assumption | with_reducible apply class_by_VE hx hc | wp_step))
theorem isi_nested_VE {T : String} {dep : Int} {tk : Tok} {Q : Fin → Shared → Prop} (hx : h.get? a = some o) (hc : o.cls = .type "ValueError") (hne : (Value.type "ValueError" == Value.type T) = false) (hty : typeOf (.type T) = pure (.type "type"))
    (hsub : isSubtype (.type "ValueError") (.type T) = pure false) (hq : Q (.done (.ret (.bool false))) ⟨h, g, d, t + 1, os⟩) :
    wpAny (model prog w) A (Builtin.«isinstance.nested» ⟨[.ref a, .type T, .int dep tk], []⟩) Q E ⟨h, g, d, t, os⟩ := by
  have hT : (⟨h, g, d, t, os⟩ : Shared).TypeIs (.ref a) "ValueError" := ⟨_, hx, hc⟩
  repeat (any_goals (first | assumption | with_reducible apply class_attr_VE hx hc | wp_step))
theorem isi_VE {T : String} (hne : (Value.type "ValueError" == Value.type T) = false) (hty : typeOf (.type T) = pure (.type "type")) (hsub : isSubtype (.type "ValueError") (.type T) = pure false) :
    Meets (Builtin.«isinstance» ⟨[.ref a, .type T], []⟩) (fun _ R s => (∃ o, s.heap.get? a = some o ∧ o.cls = .type "ValueError") ∧ R (.ok (.ret (.bool false))) { s with toks := s.toks + 1 }) :=
  fun _ _ _ _ s hs => by
    obtain ⟨h, g, d, t, os⟩ := s
    obtain ⟨⟨o, hx, hc⟩, hq⟩ := hs
    exact isinstance_outer (isi_nested_VE hx hc hne hty hsub hq)
end
end FB
section
variable {C : Cx} {lv : Lv} {env : Env} {σ : St} {X : String → List PV → St → Prop}
theorem two_arg {f : Nat → Addr} {n : Nat} {h : Heap} {vs : List Value} {p : PV} {T : Value} (x : RepL f n h vs [p, .obj T]) : ∃ v, vs = [v, T] ∧ Rep f n h v p := by
  obtain ⟨v, ws, rfl, h1, hr⟩ := x.consI
  obtain ⟨u, rfl, h2⟩ := one_arg hr
  obtain rfl := h2.objI
  exact ⟨v, rfl, h1⟩
theorem isi_str {x : Str} {Q : PV → St → Prop} (h : Q (.bool true) σ) : ACall C lv env (.builtin "isinstance") [.str x, .obj (.type "str")] [] σ Q X := by
  refine ⟨fun A f s vs ks hA R hv hk => ?_⟩
  cases hk
  obtain ⟨v, rfl, hq⟩ := two_arg hv
  obtain ⟨t, rfl⟩ := hq.strI
  exact IsiPair.str_str (Post.now R h (.bool _))
theorem isi_int {a : Int} {T : String} {Q : PV → St → Prop} (h1 : (Value.type "int" == Value.type T) = false) (h2 : typeOf (.type T) = pure (.type "type")) (h3 : isSubtype (.type "int") (.type T) = pure false) (h : Q (.bool false) σ) : ACall C lv env (.builtin "isinstance") [.int a, .obj (.type T)] [] σ Q X := by
  refine ⟨fun A f s vs ks hA R hv hk => ?_⟩
  cases hk
  obtain ⟨v, rfl, hq⟩ := two_arg hv
  obtain ⟨t, rfl⟩ := hq.intI
  exact call_isinstance (isinstance_false_int h1 h2 h3) (Post.here R h (.bool _) (Nat.le_succ _))
theorem isi_none {T : String} {Q : PV → St → Prop} (h1 : (Value.type "NoneType" == Value.type T) = false) (h2 : typeOf (.type T) = pure (.type "type")) (h3 : isSubtype (.type "NoneType") (.type T) = pure false) (h : Q (.bool false) σ) : ACall C lv env (.builtin "isinstance") [.none, .obj (.type T)] [] σ Q X := by
  refine ⟨fun A f s vs ks hA R hv hk => ?_⟩
  cases hk
  obtain ⟨v, rfl, hq⟩ := two_arg hv
  obtain rfl := hq.noneI
  exact call_isinstance (isinstance_false_none h1 h2 h3) (Post.here R h (.bool _) (Nat.le_succ _))
theorem isi_exc_f {i : Nat} {l : List PV} {T : String} {Q : PV → St → Prop} (hi : σ.hp i = some (.exc "ValueError" l)) (h1 : (Value.type "ValueError" == Value.type T) = false) (h2 : typeOf (.type T) = pure (.type "type")) (h3 : isSubtype (.type "ValueError") (.type T) = pure false) (h : Q (.bool false) σ) : ACall C lv env (.builtin "isinstance") [.ref i, .obj (.type T)] [] σ Q X := by
  refine ⟨fun A f s vs ks hA R hv hk => ?_⟩
  cases hk
  obtain ⟨v, rfl, hq⟩ := two_arg hv
  obtain ⟨_, rfl⟩ := hq.refI
  obtain ⟨_, o, fv, t, ws, k1, k2, _⟩ := R.objs i _ hi
  exact call_isinstance (FB.isi_VE h1 h2 h3) ⟨⟨o, k1, k2⟩, Post.here R h (.bool _) (Nat.le_succ _)⟩
theorem isi_exc_t {i : Nat} {l : List PV} {Q : PV → St → Prop} (hi : σ.hp i = some (.exc "ValueError" l)) (h : Q (.bool true) σ) : ACall C lv env (.builtin "isinstance") [.ref i, .obj (.type "Exception")] [] σ Q X := by
  refine ⟨fun A f s vs ks hA R hv hk => ?_⟩
  cases hk
  obtain ⟨v, rfl, hq⟩ := two_arg hv
  obtain ⟨_, rfl⟩ := hq.refI
  obtain ⟨_, o, fv, t, ws, k1, k2, _⟩ := R.objs i _ hi
  exact call_isinstance (isinstance_true (Tx := "ValueError") FB.meta_Exception FB.sub_VE_Exc) ⟨⟨o, k1, k2⟩, Post.now R h (.bool _)⟩
theorem c_str_none {Q : PV → St → Prop} (h : Q (.str (Str.ofString "None")) σ) : ACall C lv env (.type "str") [.none] [] σ Q X := by
  refine ⟨fun A f s vs ks hA R hv hk => ?_⟩
  cases hk
  obtain ⟨v, rfl, hq⟩ := one_arg hv
  obtain rfl := hq.noneI
  exact PySem.P.str_of_none (Post.here R h (.str _ _) (Nat.le_succ _))
end
end Mine

namespace Mine
section
variable {C : Cx} {lv : Lv} {env : Env} {σ : St} {X : String → List PV → St → Prop}
theorem repL_of {f : Nat → Addr} {n : Nat} {h : Heap} : ∀ {vs : List Value} {ps : List PV}, vs.length = ps.length → (∀ (j : Nat) (v : Value) (p : PV), vs[j]? = some v → ps[j]? = some p → Rep f n h v p) → RepL f n h vs ps
  | [], [], _, _ => .nil
  | [], _ :: _, e, _ => by cases e
  | _ :: _, [], e, _ => by cases e
  | v :: vs, p :: ps, e, g => .cons (g 0 v p rfl rfl) (repL_of (by simpa using e) fun j v' p' h1 h2 => g (j + 1) v' p' h1 h2)
theorem c_list_range {i n : Nat} {Q : PV → St → Prop} (hn : lv.hn = true) (hi : σ.hp i = some (.range 0 (n : Int))) (hs : Builtin.Range.small 0 (n : Int) 1 = true) (hl : n ≤ 1000) (h : Q (.ref σ.n) (σ.alloc (.list (intsFrom 0 n)))) : ACall C lv env (.type "list") [.ref i] [] σ Q X := by
  refine ⟨fun A f s vs ks hA R hv hk => ?_⟩
  cases hk
  obtain ⟨v, rfl, hq⟩ := one_arg hv
  obtain ⟨_, rfl⟩ := hq.refI
  obtain ⟨_, t, u, w, hr⟩ := R.objs i _ hi
  have hsz : Builtin.Range.rangeSize 0 (n : Int) 1 = ((n : Nat) : Int) := by
    unfold Builtin.Range.rangeSize
    rw [if_pos (by decide)]
    split
    · rw [Int.ediv_one]; omega
    · omega
  refine wp_toks (wp_grow (call_list_range (hA.handled hn) hr hs hsz (by omega) fun h' tk acc c' hk' hD hacc hsz' _ ht => ?_))
  have hto : ∀ a ws, s.heap.IsTuple a ws → h'.IsTuple a ws := fun a ws ⟨o, e, r⟩ => ⟨o, hk' _ _ e, r⟩
  have hD' : h'.get? s.heap.objs.size = some { cls := .type "list", data := .seq acc.toList.toArray c' } := by rw [hD]
  have hrep : ∀ f' n' h'', RepL f' n' h'' acc.toList (intsFrom 0 n) := fun f' n' h'' => by
    refine repL_of ?_ fun j v p h1 h2 => ?_
    · unfold intsFrom
      rw [List.length_map, List.length_range, Array.length_toList]; exact hacc.1
    · obtain ⟨tk', rfl⟩ := hacc.2 j v (by rw [← Array.getElem?_toList]; exact h1)
      unfold intsFrom at h2
      rw [List.getElem?_map] at h2
      obtain ⟨k, hk, rfl⟩ := Option.map_eq_some_iff.mp h2
      have hjk : j = k := by
        have hj := (List.getElem?_eq_some_iff.mp hk).1
        rw [List.length_range] at hj
        rw [List.getElem?_range hj] at hk
        exact Option.some.inj hk
      subst hjk
      rw [show (0 : Int) + (j : Int) * 1 = 0 + (j : Int) from by omega]
      exact .int _ _
  obtain ⟨R', E'⟩ := R.alloc (s' := { s with heap := h', toks := tk }) (a := s.heap.objs.size) (ao := .list (intsFrom 0 n)) hk' hsz' (Nat.le_refl _) hD (by simp) rfl rfl ht
    ⟨acc.toList, c', hD', hrep _ _ _⟩
  exact ⟨_, _, _, h, rep_new, R', E'⟩
theorem grow_ok {its its2 : Array Value} (h : its.size + its2.size ≤ 1000000) : ¬(!its.isEmpty && Builtin.List.listTooLong (its.size + its2.size)) = true := by
  intro q
  have := (Bool.and_eq_true _ _ ▸ q).2
  unfold Builtin.List.listTooLong at this
  first
    | (have := of_decide_eq_true this; rw [sizeLine_eq] at this; omega)
    | (simp only [tooLong, sizeLine_eq, decide_eq_true_eq] at this; omega)
theorem m_extend {i : Nat} {l : List PV} (hi : σ.hp i = some (.list l)) : Meth C lv env (.ref i) "extend" (.builtin "list.extend") σ := by
  intro A f s v pl Q E hA R hv h
  obtain ⟨hlt, rfl⟩ := hv.refI
  obtain ⟨_, vs, k, hget, hvs⟩ := R.objs _ _ hi
  exact getMethod_builtin ⟨_, hget, rfl⟩ PySem.F.plainAttrs_list PySem.F.slot_list_extend PySem.F.type_list_extend (fun a e => by cases e; exact ⟨_, hget, rfl⟩) (h s.toks (Nat.le_refl _))
theorem c_extend {i j : Nat} {l m : List PV} {Q : PV → St → Prop} (hi : σ.hp i = some (.list l)) (hj : σ.hp j = some (.list m)) (h0 : 0 < i) (hl : l.length + m.length ≤ 1000000) (h : Q .none (σ.upd i (.list (l ++ m)))) : ACall C lv env (.builtin "list.extend") [.ref i, .ref j] [] σ Q X := by
  refine ⟨fun A f s vs ks hA R hv hk => ?_⟩
  cases hk
  obtain ⟨v, ws, rfl, hv1, hr⟩ := hv.consI
  obtain ⟨u, rfl, hv2⟩ := one_arg hr
  obtain ⟨hlt, rfl⟩ := hv1.refI
  obtain ⟨_, rfl⟩ := hv2.refI
  obtain ⟨_, vs, k, hget, hvs⟩ := R.objs i _ hi
  obtain ⟨_, ws, k', hget', hws⟩ := R.objs j _ hj
  have hsz : vs.toArray.size + ws.toArray.size ≤ 1000000 := by rw [List.size_toArray, List.size_toArray, hvs.length, hws.length]; exact hl
  refine call_meets PySem.F.slot_list_extend ⟨_, hget, rfl⟩ PySem.F.entry_list_extend (PySem.F.args_list_extend_2 _ _) (PySem.AutoSeq1.list_extend_list_list_0 (f i) vs.toArray k (f j) ws.toArray k' (grow_ok hsz) (by rw [sizeLine_eq]; omega) (by rw [sizeLine_eq]; omega)) ⟨hget, hget', ?_⟩
  obtain ⟨n', hu⟩ := upd_list (fun x => x ++ ws.toArray) hget
  have hu' : (s.heap.update (f i) (Obj.mapSeq fun x => x ++ ws.toArray)).get? (f i) = some { cls := .type "list", data := .seq (vs ++ ws).toArray n' } := by rw [hu]; simp
  obtain ⟨R', E'⟩ := list_upd (s' := { s with heap := s.heap.update (f i) (Obj.mapSeq fun x => x ++ ws.toArray) }) (l' := l ++ m) R hi h0 hu' (Heap.SameBut.update ..) (hvs.append hws) rfl rfl (Nat.le_refl _)
  exact ⟨_, _, _, h, .none, R', E'⟩
structure Bad (C : Cx) (p : PV) (x : Str) (okp : (Nat → Option AO) → Prop) : Prop where
  len : x.length ≤ 1000
  typ : ∃ T : String, (Value.type T == Value.type "str") = false ∧ ∀ (lv : Lv) (env : Env) (σ : St) (Q : PV → St → Prop) (X : String → List PV → St → Prop), okp σ.hp → Q (.obj (.type T)) σ → ACall C lv env (.type "type") [p] [] σ Q X
  rep : ∀ (lv : Lv) (env : Env) (σ : St) (Q : PV → St → Prop) (X : String → List PV → St → Prop), okp σ.hp → Q (.str x) σ → ACall C lv env (.builtin "repr") [p] [] σ Q X
theorem bad_none : Bad C .none (Str.ofString "None") (fun _ => True) := ⟨by decide +kernel, ⟨"NoneType", by decide, fun _ _ _ _ _ _ h => c_type_none h⟩, fun _ _ _ _ _ _ h => c_repr_none h⟩
theorem bad_int {a : Int} (ha : a.natAbs < 1000000) (hl : (Str.ofString (toString a)).length ≤ 1000) : Bad C (.int a) (Str.ofString (toString a)) (fun _ => True) := ⟨hl, ⟨"int", by decide, fun _ _ _ _ _ _ h => c_type_int h⟩, fun _ _ _ _ _ _ h => c_repr_int ha h⟩
theorem bad_bytes {b : Array UInt8} {x : Str} (g : ∀ t, Gives (Builtin.«bytes.__repr__» ⟨[.bytes b t], []⟩) (Made.str x)) (hx : x.length ≤ 1000) : Bad C (.bytes b) x (fun _ => True) := ⟨hx, ⟨"bytes", by decide, fun _ _ _ _ _ _ h => c_type_bytes h⟩, fun _ _ _ _ _ _ h => c_repr_bytes g hx h⟩
theorem bad_exc {i : Nat} {m x : Str} (hx : excReprHead "ValueError" ++ "(" ++ reprText m ++ ")" = x) (hl : x.length ≤ 1000) : Bad C (.ref i) x (fun hp => hp i = some (.exc "ValueError" [.str m])) := ⟨hl, ⟨"ValueError", by decide, fun _ _ _ _ _ k h => c_type_exc k (by decide) h⟩, fun _ _ _ _ _ k h => c_repr_exc PySem.F.excStr_ValueError k hx hl h⟩
theorem bad_exc_v {i : Nat} : Bad C (.ref i) (Str.ofString "ValueError('v')") (fun hp => hp i = some (.exc "ValueError" [.str (Str.ofString "v")])) := bad_exc (by decide +kernel) (by decide +kernel)
end
end Mine

namespace Mine
section
variable {C : Cx} {lv : Lv} {env : Env} {σ : St} {X : String → List PV → St → Prop}
end
end Mine

namespace Mine
namespace FB
end FB
end Mine

namespace Mine
open PySem.SeqAt
def PFlat : PV → Bool
  | .none => true
  | .int _ => true
  | .str _ => true
  | .ref _ => true
  | _ => false
def PF1 : PV → Bool
  | .tup l => l.all PFlat
  | p => PFlat p
theorem eqAt_flat {A : Around} {s : Shared} {f : Nat → Addr} {n : Nat} {v w : Value} {p : PV} (hp : PFlat p = true) (hv : Rep f n s.heap v p) (hw : Rep f n s.heap w p) : EqAt A s v w true := by
  cases p with
  | none => rw [hv.noneI, hw.noneI]; exact EqAt.same _
  | int i =>
    obtain ⟨t, rfl⟩ := hv.intI
    obtain ⟨u, rfl⟩ := hw.intI
    have := EqAt.int_int (A := A) (s := s) i t i u
    rwa [beq_self_eq_true] at this
  | str x =>
    obtain ⟨t, rfl⟩ := hv.strI
    obtain ⟨u, rfl⟩ := hw.strI
    have := EqAt.str_str (A := A) (s := s) x t x u
    rwa [beq_self_eq_true] at this
  | ref i =>
    rw [hv.refI.2, hw.refI.2]; exact EqAt.same _
  | _ => cases hp
theorem eqAt_all {A : Around} {s : Shared} {f : Nat → Addr} {n : Nat} {vs ws : List Value} {ps : List PV} (hv : RepL f n s.heap vs ps) (hw : RepL f n s.heap ws ps)
    (h : ∀ p ∈ ps, ∀ v w, Rep f n s.heap v p → Rep f n s.heap w p → EqAt A s v w true) : ∀ j (h1 : j < vs.toArray.size) (h2 : j < ws.toArray.size), EqAt A s vs.toArray[j] ws.toArray[j] true := by
  intro j h1 h2
  rw [List.size_toArray] at h1 h2
  have hj : j < ps.length := by rw [← hv.length]; exact h1
  obtain ⟨v, e1, r1⟩ := hv.get (List.getElem?_eq_getElem hj)
  obtain ⟨w, e2, r2⟩ := hw.get (List.getElem?_eq_getElem hj)
  rw [List.getElem?_eq_getElem h1] at e1
  rw [List.getElem?_eq_getElem h2] at e2
  rw [List.getElem_toArray, List.getElem_toArray, Option.some.inj e1, Option.some.inj e2]
  exact h _ (List.getElem_mem hj) v w r1 r2
theorem range_all (n : Nat) : (List.range n).all (fun _ => true) = true := by simp
theorem eqAt_pf {A : Around} {s : Shared} {f : Nat → Addr} {n : Nat} {v w : Value} {p : PV} (hA : A.units < cLine) (hp : PF1 p = true) (hv : Rep f n s.heap v p) (hw : Rep f n s.heap w p) : EqAt A s v w true := by
  cases p with
  | tup l =>
    cases hv with
    | @tup a vs _ ta ra =>
    cases hw with
    | @tup b ws _ tb rb =>
    by_cases hab : a = b
    · rw [hab]; exact EqAt.same _
    · refine EqAt.of_refs hab ?_
      have hl : vs.toArray.size = ws.toArray.size := by rw [List.size_toArray, List.size_toArray, ra.length, rb.length]
      have := RcAt.tuples (A := A) (s := s) (e := fun _ => true) ta tb hA (eqAt_all ra rb fun p hp' v w => eqAt_flat (List.all_eq_true.mp hp p hp'))
      rwa [range_all, hl, beq_self_eq_true] at this
  | obj w => cases hp
  | _ => refine eqAt_flat ?_ hv hw; exact hp
section
variable {C : Cx} {lv : Lv} {env : Env} {σ : St} {X : String → List PV → St → Prop}
theorem o_ne_same {i j : Nat} {l : List PV} {Q : PV → St → Prop} (hi : σ.hp i = some (.list l)) (hj : σ.hp j = some (.list l)) (hl : ∀ p ∈ l, PF1 p = true) (h : Q (.bool false) σ) : Op2 C lv env Rep (compareOp .NotEq) (.ref i) (.ref j) σ Q X := by
  refine ⟨fun A f s v w hA R hv hw => ?_⟩
  cases hv with
  | ref hlt =>
  cases hw with
  | ref hlt' =>
  obtain ⟨_, vs, k, hget, hvs⟩ := R.objs i _ hi
  obtain ⟨_, ws, k', hget', hws⟩ := R.objs j _ hj
  have hu : A.units + 64 < cLine := by have := hA.units; have := hA.small; show _ < 9900; omega
  have hz : vs.toArray.size = ws.toArray.size := by rw [List.size_toArray, List.size_toArray, hvs.length, hws.length]
  have := RcNeAt.lists (A := A) (s := s) (e := fun _ => true) ⟨_, hget, rfl, _, rfl⟩ ⟨_, hget', rfl, _, rfl⟩ hz (by omega) (eqAt_all hvs hws fun p hp v w => eqAt_pf (by show A.units + 1 < cLine; omega) (hl p hp))
  rw [range_all] at this
  exact this C.prog C.w _ _ (Post.now R h (.bool _))
theorem c_tuple {i : Nat} {l : List PV} {Q : PV → St → Prop} (hi : σ.hp i = some (.list l)) (hl : l.length ≤ 16777216) (h : Q (.tup l) σ) : ACall C lv env (.type "tuple") [.ref i] [] σ Q X := by
  refine ⟨fun A f s vs ks hA R hv hk => ?_⟩
  cases hk
  obtain ⟨v, rfl, hq⟩ := one_arg hv
  obtain ⟨hlt, rfl⟩ := hq.refI
  obtain ⟨_, ws, k, hget, hws⟩ := R.objs i _ hi
  refine wp_grow (call_tuple_list ⟨_, hget, rfl, _, rfl⟩ (fun h' hk hsz ht => ?_) (by rw [List.size_toArray, hws.length, sizeLine_eq]; exact hl))
  exact Post.grown R (fun b o e => Heap.get?_push_of_some _ (hk b o e)) hsz rfl rfl ht h (.tup (vs := ws) ⟨_, Heap.get?_push_size _ rfl, rfl, _, rfl⟩ (hws.mono (fun _ _ => rfl) (Nat.le_refl _) fun a ws ⟨o, e, r⟩ => ⟨o, Heap.get?_push_of_some _ (hk _ _ e), r⟩))
end
end Mine

namespace Mine
section
variable {C : Cx} {lv : Lv} {env : Env} {σ : St} {X : String → List PV → St → Prop}
theorem e_dict1 {k v : Str} {a b : Nat} {p1 p2 pos : Pos} {Q : PV → St → Prop} (h0 : 0 < σ.n) (h : ∀ ep, Q (.ref σ.n) ((σ.alloc (.dict [] 0)).upd σ.n (.dict [(k, .str v)] ep))) :
    AE C lv env (.Dict [some (.Constant (.str k) a p1)] [.Constant (.str v) b p2] pos) σ Q X := by
  refine ⟨fun A f s hA R => ?_⟩
  obtain ⟨R', E'⟩ := R.alloc (s' := { s with heap := s.heap.push { cls := .type "dict", data := .dict #[] } }) (ao := .dict [] 0) (fun b o e => Heap.get?_push_of_some _ e) (by show _ ≤ (s.heap.push _).objs.size; rw [Heap.size_push]; omega) (Nat.le_refl _) (Heap.get?_push_size _ rfl) (by simp) rfl rfl (Nat.le_refl _)
    ⟨[], Heap.get?_push_size _ rfl, .nil, by simp, R.big (Nat.le_refl _)⟩
  obtain ⟨kvs, D, r, hs⟩ := dict_of R' (j := σ.n) (if_pos rfl)
  cases r
  refine wpAny_Dict_walk (knd := strKind C.prog C.w) rfl rfl (by simp) (by show 1 ≤ 15; decide) ?_
  refine pairTrees_cons_walk (wpAny_Constant_str (wpAny_Constant_str (pairTrees_nil_walk ?_)))
  have isK : ∀ t, (strKind C.prog C.w).is k (.str k t) = true := fun t => by show Value.isStrOf k (.str k t) = true; simp [Value.isStrOf]
  have hD := D.dictOf
  rw [show (if σ.n = σ.n then s.heap.objs.size else f σ.n) = s.heap.objs.size from if_pos rfl] at hD
  refine ⟨[(k, .str v _)], ⟨isK _, rfl, trivial⟩, hD, fun h' D' hsb => ?_⟩
  obtain ⟨ep', D''⟩ := D'.dictAt
  have D3 : ∀ {kvs : List (Str × Value)}, h'.DictAt (strKind C.prog C.w) s.heap.objs.size kvs ep' → h'.DictAt (strKind C.prog C.w) (if σ.n = σ.n then s.heap.objs.size else f σ.n) kvs ep' := fun x => by rw [if_pos rfl]; exact x
  obtain ⟨R2, E2⟩ := dict_upd (s' := { s with heap := h', toks := _ }) R' (j := σ.n) (if_pos rfl) h0 (D3 D'') (by rw [if_pos rfl]; exact hsb) ((RepK.nil).put (.str v _)) rfl rfl (Nat.le_succ_of_le (Nat.le_succ_of_le (Nat.le_succ _)))
  exact ⟨_, _, _, h ep', rep_new, R2, E'.trans E2⟩
end
end Mine

set_option maxHeartbeats 1000000
namespace Mine
namespace L08
abbrev prog := PySem.Challenge.pw_dn0260_08
abbrev cb : List Stmt := bodyOf (stmtAt prog 5)
section
variable {C : Cx} {lv : Lv} {env : Env} {σ : St} {X : String → List PV → St → Prop}

def noCtl (nm : Bool) (x : List Nat) : Bool := !(x.any (if nm then testN else testV))
def ctlMsg : PV := .str "Control characters not allowed in headers"

theorem conv_str (H : HF C cb) {h : PV} {x : List Nat} {nm : Bool} {Q : PV → St → Prop} (hn : lv.hn = true) (hd : lv.d < 29) (hx : x.length ≤ 100000)
    (hg : noCtl nm x = true → Q (.str (st x)) σ) (hb : noCtl nm x = false → ∀ σ', Grow σ σ' → σ'.loc = σ.loc → X "ValueError" [ctlMsg] σ') : ACall C lv env (.ref H.conv.a) [h, .str (st x)] [("name", .bool nm)] σ Q X := by
  have hbi := H.bi
  have hxl : (st x).length ≤ 16777216 := by rw [st_len]; omega
  refine (c_mX H.conv.m (by omega) (H.convB _ _ _ _ _ _).toA rfl ?_).call
  intro env' S hF
  have fin : ∀ (r : Bool), (x.any (if nm then testN else testV)) = r → noCtl nm x = !r := fun r hr => by unfold noCtl; rw [hr]
  cases nm
  · refine ss_cons (s_if ?_)
    refine t_cmp ?_
    refine e_call ?_
    refine e_b_type (by assumption) (by assumption) ?_ (by decide +kernel)
    refine ⟨_, rfl, KeepV.type, ?_⟩
    refine al_cons ?_
    refine e_nm (by assumption) ?_
    with_reducible refine al_nil ?_
    with_reducible refine ak_nil ?_
    with_reducible refine ac0 ?_
    with_reducible refine c_type_str ?_
    refine e_b_str (by assumption) (by assumption) ?_ (by decide +kernel)
    with_reducible refine o_is_ty_t ?_ (by decide)
    with_reducible refine tr_bool ?_
    refine ⟨fun _ => ?_, nofun⟩
    refine ss_next (s_as (by assumption) ?_)
    refine e_if ?_
    refine t_val ?_
    refine e_nm (by assumption) ?_
    with_reducible refine tr_bool ?_
    refine ⟨nofun, fun _ => ?_⟩
    refine e_gl S H.gV ?_
    refine ⟨rfl, ?_⟩
    refine ss_cons (s_if ?_)
    refine t_val ?_
    refine e_mcall ?_
    refine e_nm (by assumption) ?_
    refine ⟨_, m_search H.pV, .builtin, ?_⟩
    refine al_cons ?_
    refine e_nm (by assumption) ?_
    with_reducible refine al_nil ?_
    with_reducible refine ak_nil ?_
    with_reducible refine ac0 ?_
    refine c_search H.pV setV hxl (fun ha => ?_) (fun ha => ?_)
    · rw [st_toList] at ha
      with_reducible refine tr_none ?_
      refine ⟨nofun, fun _ => ?_⟩
      refine ss_nil ?_
      refine ⟨fun _ => ?_, fun q => absurd rfl q⟩
      refine ss_ret ?_
      refine e_nm (by assumption) ?_
      refine ⟨nofun, fun _ => ?_⟩
      exact ⟨_, fun i o e => e, hg (fin _ ha)⟩
    · rw [st_toList] at ha
      refine tr_match (if_pos rfl) ?_
      refine ⟨fun _ => ?_, nofun⟩
      refine ss_cons (s_raise PySem.F.excCall_ValueError PySem.F.excRaise_ValueError hn ?_)
      refine e_b_ValueError (by assumption) (by assumption) ?_ (by decide +kernel)
      refine ⟨rfl, ?_⟩
      refine al_cons ?_
      refine e_str ?_
      with_reducible refine al_nil ?_
      refine ⟨Nat.le_of_ble_eq_true rfl, ?_⟩
      exact ⟨_, fun i o e => e, hb (fin _ ha) _ ⟨Nat.le_succ _, fun i h => if_neg (Nat.ne_of_lt h)⟩ rfl⟩
  · refine ss_cons (s_if ?_)
    refine t_cmp ?_
    refine e_call ?_
    refine e_b_type (by assumption) (by assumption) ?_ (by decide +kernel)
    refine ⟨_, rfl, KeepV.type, ?_⟩
    refine al_cons ?_
    refine e_nm (by assumption) ?_
    with_reducible refine al_nil ?_
    with_reducible refine ak_nil ?_
    with_reducible refine ac0 ?_
    with_reducible refine c_type_str ?_
    refine e_b_str (by assumption) (by assumption) ?_ (by decide +kernel)
    with_reducible refine o_is_ty_t ?_ (by decide)
    with_reducible refine tr_bool ?_
    refine ⟨fun _ => ?_, nofun⟩
    refine ss_next (s_as (by assumption) ?_)
    refine e_if ?_
    refine t_val ?_
    refine e_nm (by assumption) ?_
    with_reducible refine tr_bool ?_
    refine ⟨fun _ => ?_, nofun⟩
    refine e_gl S H.gN ?_
    refine ⟨rfl, ?_⟩
    refine ss_cons (s_if ?_)
    refine t_val ?_
    refine e_mcall ?_
    refine e_nm (by assumption) ?_
    refine ⟨_, m_search H.pN, .builtin, ?_⟩
    refine al_cons ?_
    refine e_nm (by assumption) ?_
    with_reducible refine al_nil ?_
    with_reducible refine ak_nil ?_
    with_reducible refine ac0 ?_
    refine c_search H.pN setN hxl (fun ha => ?_) (fun ha => ?_)
    · rw [st_toList] at ha
      with_reducible refine tr_none ?_
      refine ⟨nofun, fun _ => ?_⟩
      refine ss_nil ?_
      refine ⟨fun _ => ?_, fun q => absurd rfl q⟩
      refine ss_ret ?_
      refine e_nm (by assumption) ?_
      refine ⟨nofun, fun _ => ?_⟩
      exact ⟨_, fun i o e => e, hg (fin _ ha)⟩
    · rw [st_toList] at ha
      refine tr_match (if_pos rfl) ?_
      refine ⟨fun _ => ?_, nofun⟩
      refine ss_cons (s_raise PySem.F.excCall_ValueError PySem.F.excRaise_ValueError hn ?_)
      refine e_b_ValueError (by assumption) (by assumption) ?_ (by decide +kernel)
      refine ⟨rfl, ?_⟩
      refine al_cons ?_
      refine e_str ?_
      with_reducible refine al_nil ?_
      refine ⟨Nat.le_of_ble_eq_true rfl, ?_⟩
      exact ⟨_, fun i o e => e, hb (fin _ ha) _ ⟨Nat.le_succ _, fun i h => if_neg (Nat.ne_of_lt h)⟩ rfl⟩

def strFlt (nm : Bool) (x : List Nat) : Option (String × List PV) := if noCtl nm x = true then none else some ("ValueError", [ctlMsg])
theorem conv_strC (H : HF C cb) {x : List Nat} {nm : Bool} (hx : x.length ≤ 100000) (ok : St → Prop) : Conv C H nm (.str (st x)) (strFlt nm x) ok := by
  intro lv env σ Q X h hn hd _ hg hb
  refine conv_str H hn (by omega) hx (fun h1 => hg (by unfold strFlt; rw [if_pos h1]) σ .refl rfl) fun h1 σ' g e => hb _ _ (by unfold strFlt; rw [if_neg (by rw [h1]; decide)]) σ' g e

end
end L08
end Mine

set_option maxHeartbeats 1000000
namespace Mine
namespace L08
section
variable {C : Cx} {lv : Lv} {env : Env} {σ : St} {X : String → List PV → St → Prop}
def pairsPV (l : List (PV × PV)) : List PV := l.map fun x => .tup [x.1, x.2]
def firstFlt (flt : Bool → PV → Option (String × List PV)) (l : List (PV × PV)) : Option (String × List PV) := l.findSome? fun x => (flt true x.1).or (flt false x.2)

theorem init_spec (H : HF C cb) {h d L ep : Nat} {l : List (PV × PV)} {flt : Bool → PV → Option (String × List PV)} {ok : St → Prop} {Q : PV → St → Prop} (hn : lv.hn = true) (hd : lv.d < 24) (hi : σ.hp h = some (.inst H.K d)) (hdd : σ.hp d = some (.dict [] ep)) (hd0 : 0 < d) (hL : σ.hp L = some (.list (pairsPV l))) (hhn : h < σ.n) (hdn : d < σ.n) (hLn : L < σ.n) (hne : L ≠ d) (hhd : h ≠ d)
    (hc : ∀ x ∈ l, Conv C H true x.1 (flt true x.1) ok ∧ Conv C H false x.2 (flt false x.2) ok) (hok : ∀ σ', Grow (σ.upd d (.dict [("_headers", .ref L)] (ep + 1))) σ' → ok σ')
    (hg : firstFlt flt l = none → ∀ σ', Grow (σ.upd d (.dict [("_headers", .ref L)] (ep + 1))) σ' → σ'.loc = σ.loc → Q .none σ')
    (hb : ∀ c as, firstFlt flt l = some (c, as) → ∀ σ', Grow (σ.upd d (.dict [("_headers", .ref L)] (ep + 1))) σ' → σ'.loc = σ.loc → X c as σ') : CCall C lv env (.ref H.init.a) [.ref h, .ref L] [] σ Q X := by
  have hbi := H.bi
  refine c_mX H.init.m (by omega) (H.initB _ _ _ _ _).toA rfl ?_
  intro env' S hF
  refine ss_next (s_as S ?_)
  refine e_if ?_
  refine t_cmp ?_
  refine e_nm (by assumption) ?_
  refine e_none ?_
  with_reducible refine o_isnot_ref ?_
  with_reducible refine tr_bool ?_
  refine ⟨fun _ => ?_, nofun⟩
  refine e_nm (by assumption) ?_
  refine ⟨rfl, ?_⟩
  refine ss_cons (s_if ?_)
  refine t_cmp ?_
  refine e_call ?_
  refine e_b_type (by assumption) (by assumption) ?_ (by decide +kernel)
  refine ⟨_, rfl, KeepV.type, ?_⟩
  refine al_cons ?_
  refine e_nm (by assumption) ?_
  with_reducible refine al_nil ?_
  with_reducible refine ak_nil ?_
  with_reducible refine ac0 ?_
  refine c_type_list (by first | assumption | exact if_pos rfl | exact Eq.trans (if_neg (by omega)) (by assumption) | exact Eq.trans (if_neg (by omega)) (if_pos rfl)) ?_
  refine e_b_list (by assumption) (by assumption) ?_ (by decide +kernel)
  with_reducible refine o_isnot_ty_t ?_ (by decide)
  with_reducible refine tr_bool ?_
  refine ⟨nofun, fun _ => ?_⟩
  refine ss_nil ?_
  refine ⟨fun _ => ?_, fun q => absurd rfl q⟩
  refine ss_next (s_attr0 ?_)
  refine e_nm (by assumption) ?_
  refine e_nm (by assumption) ?_
  refine ⟨h, d, H.K, ep, rfl, hi, hdd, hd0, H.cls.sa, H.cls.over, H.taker, H.hh, ?_⟩
  refine ⟨rfl, ?_⟩
  refine ss_cons (s_if ?_)
  refine t_val ?_
  refine e_bool ?_
  with_reducible refine tr_bool ?_
  refine ⟨fun _ => ?_, nofun⟩
  have gdef : Grow (σ.upd d (.dict [("_headers", .ref L)] (ep + 1))) ((St.set ⟨σ.n, σ.hp, locOf [("self", PV.ref h), ("headers", PV.ref L)] fun _ => none⟩ "headers" (PV.ref L)).upd d (.dict [("_headers", .ref L)] (ep + 1))) := ⟨Nat.le_refl _, fun _ _ => rfl⟩
  have hLd : (σ.upd d (.dict [("_headers", .ref L)] (ep + 1))).hp L = some (.list (pairsPV l)) := (if_neg hne).trans hL
  have hdd' : (σ.upd d (.dict [("_headers", .ref L)] (ep + 1))).hp d = some (.dict [("_headers", .ref L)] (ep + 1)) := if_pos rfl
  have hid : (σ.upd d (.dict [("_headers", .ref L)] (ep + 1))).hp h = some (.inst H.K d) := (if_neg hhd).trans hi
  refine ss_cons (s_for hn hF ?_)
  refine e_nm (by assumption) ?_
  refine ⟨pairsPV l, _, fun k τ => Grow (σ.upd d (.dict [("_headers", .ref L)] (ep + 1))) τ ∧ τ.loc "self" = some (.ref h) ∧ ∀ j x, j < k → l[j]? = some x → flt true x.1 = none ∧ flt false x.2 = none, it_list hn hLd, ⟨gdef, rfl, fun j x hj => absurd hj (Nat.not_lt_zero _)⟩, fun k τ x => x.1.get hLn hLd, ?_, ?_⟩
  · intro k p τ hp ⟨g, ls, hno⟩
    simp only [pairsPV, List.getElem?_map] at hp
    obtain ⟨x, hx, rfl⟩ := Option.map_eq_some_iff.mp hp
    obtain ⟨c1, c2⟩ := hc x (List.mem_of_getElem? hx)
    have hk : k < l.length := (List.getElem?_eq_some_iff.mp hx).1
    have hfst : ∀ c as, (flt true x.1).or (flt false x.2) = some (c, as) → firstFlt flt l = some (c, as) := fun c as e => by
      unfold firstFlt
      rw [← List.take_append_drop k l, List.findSome?_append]
      have e1 : (l.take k).findSome? (fun x => (flt true x.1).or (flt false x.2)) = none := by
        rw [List.findSome?_eq_none_iff]
        intro y hy
        obtain ⟨j, hj⟩ := List.getElem?_of_mem hy
        have hjk : j < k := by have := (List.getElem?_eq_some_iff.mp hj).1; rw [List.length_take] at this; omega
        rw [List.getElem?_take_of_lt hjk] at hj
        obtain ⟨q1, q2⟩ := hno j y hjk hj
        rw [q1, q2]; rfl
      rw [e1, List.drop_eq_getElem_cons hk]
      have e2 : l[k] = x := by rw [List.getElem?_eq_getElem hk] at hx; exact Option.some.inj hx
      rw [e2, List.findSome?_cons, e]; rfl
    refine a_tup hn rfl (a_nm S (a_nm S ?_))
    refine ss_next (s_expr S.ok ?_)
    refine e_mcall ?_
    refine e_nm (v := .ref h) S ⟨_, m_inst (g.get hhn hid) (g.get hdn hdd') rfl H.cls.ga H.cls.gattr H.conv.m.find H.conv.m.typ, .ref H.conv.m.keep, ?_⟩
    refine al_cons ?_
    refine e_nm (by assumption) ?_
    with_reducible refine al_nil ?_
    refine ak_cons ?_
    refine e_bool ?_
    with_reducible refine ak_nil ?_
    with_reducible refine ac1 ?_
    refine c1 _ _ _ _ _ _ hn (by show lv.d + 1 < 27; omega) (hok _ (g.set.set)) (fun e1 σ' g1 l1 => ?_) (fun c as e1 σ' g1 l1 => ?_)
    · have ls' : σ'.loc "self" = some (.ref h) := by rw [l1]; exact ls
      have lv' : σ'.loc "v" = some x.2 := by rw [l1]; rfl
      have g' : Grow (σ.upd d (.dict [("_headers", .ref L)] (ep + 1))) σ' := g.set.set.trans g1
      refine ⟨rfl, ?_⟩
      refine ss_next (s_expr (Sc.ok (by assumption)) ?_)
      refine e_mcall ?_
      refine e_nm (by assumption) ?_
      refine ⟨_, m_inst (g'.get hhn hid) (g'.get hdn hdd') rfl H.cls.ga H.cls.gattr H.conv.m.find H.conv.m.typ, .ref H.conv.m.keep, ?_⟩
      refine al_cons ?_
      refine e_nm (by assumption) ?_
      with_reducible refine al_nil ?_
      refine ak_cons ?_
      refine e_bool ?_
      with_reducible refine ak_nil ?_
      with_reducible refine ac1 ?_
      refine c2 _ _ _ _ _ _ hn (by show lv.d + 1 < 27; omega) (hok _ g') (fun e2 σ'' g2 l2 => ?_) (fun c as e2 σ'' g2 l2 => ?_)
      · refine ⟨rfl, ?_⟩
        refine ss_nil ?_
        refine ⟨g'.trans g2, by rw [l2]; exact ls', fun j y hj hy => ?_⟩
        rcases Nat.lt_succ_iff_lt_or_eq.mp hj with h1 | h1
        · exact hno j y h1 hy
        · subst h1; rw [hx] at hy; cases hy; exact ⟨e1, e2⟩
      · exact ⟨_, fun i o e => e, hb c as (hfst c as (by rw [e1, e2]; rfl)) _ ⟨(g'.trans g2).n, (g'.trans g2).hp⟩ rfl⟩
    · exact ⟨_, fun i o e => e, hb c as (hfst c as (by rw [e1]; rfl)) _ ⟨(g.set.set.trans g1).n, (g.set.set.trans g1).hp⟩ rfl⟩
  · intro τ ⟨g, ls, hno⟩
    refine ss_nil ?_
    refine ⟨fun _ => ?_, fun q => absurd rfl q⟩
    refine ss_nil ?_
    refine ⟨fun _ => ?_, fun q => absurd rfl q⟩
    refine ss_nil ?_
    refine ⟨_, fun i o e => e, hg ?_ _ ⟨g.n, g.hp⟩ rfl⟩
    unfold firstFlt
    rw [List.findSome?_eq_none_iff]
    intro y hy
    obtain ⟨j, hj⟩ := List.getElem?_of_mem hy
    have hjk : j < l.length := (List.getElem?_eq_some_iff.mp hj).1
    obtain ⟨q1, q2⟩ := hno j y (by simpa [pairsPV] using hjk) hj
    rw [q1, q2]; rfl
theorem make_spec (H : HF C cb) {L : Nat} {l : List (PV × PV)} {flt : Bool → PV → Option (String × List PV)} {ok : St → Prop} {Q : PV → St → Prop} (hn : lv.hn = true) (hd : lv.d < 23) (hL : σ.hp L = some (.list (pairsPV l))) (hLn : L < σ.n) (hL0 : 0 < L)
    (hc : ∀ x ∈ l, Conv C H true x.1 (flt true x.1) ok ∧ Conv C H false x.2 (flt false x.2) ok) (hok : ∀ σ', σ.n + 2 ≤ σ'.n → (∀ i, i < σ.n → σ'.hp i = σ.hp i) → ok σ')
    (hg : firstFlt flt l = none → ∀ σ', σ.n + 2 ≤ σ'.n → (∀ i, i < σ.n → σ'.hp i = σ.hp i) → HS H.K σ' (σ.n + 1) σ.n L 1 → σ'.loc = σ.loc → Q (.ref (σ.n + 1)) σ')
    (hb : ∀ c as, firstFlt flt l = some (c, as) → ∀ σ', σ.n + 2 ≤ σ'.n → (∀ i, i < σ.n → σ'.hp i = σ.hp i) → σ'.loc = σ.loc → X c as σ') : ACall C lv env (.ref H.K) [.ref L] [] σ Q X := by
  have gr : ∀ {σ' : St}, Grow (((σ.alloc (.dict [] 0)).alloc (.inst H.K σ.n)).upd σ.n (.dict [("_headers", .ref L)] 1)) σ' → σ.n + 2 ≤ σ'.n ∧ (∀ i, i < σ.n → σ'.hp i = σ.hp i) ∧ HS H.K σ' (σ.n + 1) σ.n L 1 := by
    intro σ' g
    have gn : σ.n + 2 ≤ σ'.n := g.n
    have gh : ∀ i, i < σ.n + 2 → σ'.hp i = (if i = σ.n then some (.dict [("_headers", .ref L)] 1) else if i = σ.n + 1 then some (.inst H.K σ.n) else if i = σ.n then some (.dict [] 0) else σ.hp i) := fun i hi => g.hp i hi
    refine ⟨gn, fun i hi => by rw [gh i (by omega), if_neg (by omega), if_neg (by omega), if_neg (by omega)], ⟨?_, ?_, by omega, hL0, by omega, by omega, by omega, by omega, by omega, by omega⟩⟩
    · rw [gh _ (by omega), if_neg (by omega), if_pos rfl]
    · rw [gh _ (by omega), if_pos rfl]
  refine c_classX (by omega) H.cls.makes H.init.m.find H.init.m.typ ?_
  refine init_spec H (h := σ.n + 1) (d := σ.n) (L := L) (ep := 0) (l := l) (flt := flt) (ok := ok) hn (by show lv.d + 1 < 24; omega) (if_pos rfl) ?_ (by omega) ?_ ?_ ?_ ?_ (by omega) (by omega) hc (fun σ' g => hok σ' (gr g).1 (gr g).2.1) (fun h0 σ' g e => ⟨rfl, hg h0 σ' (gr g).1 (gr g).2.1 (gr g).2.2 e⟩) (fun c as h0 σ' g e => hb c as h0 σ' (gr g).1 (gr g).2.1 e)
  · exact (if_neg (show σ.n ≠ σ.n + 1 by omega)).trans (if_pos rfl)
  · exact (if_neg (show L ≠ σ.n + 1 by omega)).trans ((if_neg (show L ≠ σ.n by omega)).trans hL)
  · show σ.n + 1 < σ.n + 2; omega
  · show σ.n < σ.n + 2; omega
  · show L < σ.n + 2; omega
end
end L08
end Mine

set_option maxHeartbeats 1000000
namespace Mine
namespace L08
section
variable {C : Cx} {lv : Lv} {env : Env} {σ : St} {X : String → List PV → St → Prop}

structure GrowX (L : Nat) (σ σ' : St) : Prop where
  n : σ.n ≤ σ'.n
  hp : ∀ i, i < σ.n → i ≠ L → σ'.hp i = σ.hp i
theorem Grow.x {L : Nat} {σ σ' : St} (g : Grow σ σ') : GrowX L σ σ' := ⟨g.n, fun i hi _ => g.hp i hi⟩
theorem GrowX.trans {L : Nat} {a b c : St} (x : GrowX L a b) (y : GrowX L b c) : GrowX L a c := ⟨Nat.le_trans x.n y.n, fun i h hl => (y.hp i (Nat.lt_of_lt_of_le h x.n) hl).trans (x.hp i h hl)⟩
theorem GrowX.hs {K : Addr} {L : Nat} {σ σ' : St} {h d ep : Nat} (g : GrowX L σ σ') (x : HS K σ h d L ep) : HS K σ' h d L ep :=
  ⟨(g.hp _ x.hn x.hL).trans x.inst, (g.hp _ x.dn x.dL).trans x.dict, x.h0, x.L0, Nat.lt_of_lt_of_le x.hn g.n, Nat.lt_of_lt_of_le x.dn g.n, Nat.lt_of_lt_of_le x.Ln g.n, x.hL, x.dL, x.hd⟩

theorem cut_all {α : Type} (l : List α) : cut l none none = l := by unfold cut; simp

theorem items_spec (H : HF C cb) {h d L ep : Nat} {l : List PV} {Q : PV → St → Prop} (hd : lv.d < 29) (hs : HS H.K σ h d L ep) (hL : σ.hp L = some (.list l)) (hl : l.length ≤ 16777216)
    (hg : Q (.ref σ.n) (σ.alloc (.list l))) : ACall C lv env (.ref H.items.a) [.ref h] [] σ Q X := by
  have hbi := H.bi
  refine (c_mX H.items.m (by omega) (H.itemsB _ _ _ _).toA rfl ?_).call
  intro env' S hF
  refine ss_ret ?_
  refine e_slice (e_hs H ?_)
  refine e_nm (by assumption) ?_
  refine ⟨h, d, L, ep, rfl, ⟨hs.inst, hs.dict, hs.h0, hs.L0, hs.hn, hs.dn, hs.Ln, hs.hL, hs.dL, hs.hd⟩, ?_⟩
  refine ap_none ?_
  refine ap_none ?_
  refine sl_list hL .none .none hl ?_
  rw [cut_all]
  exact ⟨_, fun i o e => e, hg⟩

end
end L08
end Mine

set_option maxHeartbeats 2000000
namespace Mine
namespace L08
def txt : PV → List Nat
  | .str s => s.cps.toList
  | _ => []
def flt (nm : Bool) : PV → Option (String × List PV)
  | .str s => strFlt nm s.cps.toList
  | _ => some ("", [])
theorem flt_st (nm : Bool) (x : List Nat) : flt nm (.str (st x)) = strFlt nm x := by show strFlt nm (st x).cps.toList = _; rw [st_toList]
theorem testN_t {c : Nat} : testN c = true ↔ c < 32 ∨ c = 127 := by unfold testN; simp; omega
theorem testV_t {c : Nat} : testV c = true ↔ (c < 32 ∧ c ≠ 9) ∨ c = 127 := by unfold testV; simp; omega
def hdP (x : Hd) : PV × PV := (.str (st x.1), .str (st x.2))
theorem pairs_hd (l : List Hd) : pairsPV (l.map hdP) = l.map hdPV := by unfold pairsPV; rw [List.map_map]; rfl
end L08
end Mine

set_option maxHeartbeats 1000000
namespace Mine
namespace L08
section
variable {C : Cx} {lv : Lv} {env : Env} {σ : St} {X : String → List PV → St → Prop}

end
end L08
end Mine

set_option maxHeartbeats 2000000
namespace Mine
namespace L08
def dropN (l : List Hd) (y : List Nat) : List Hd := l.filter fun x => low x.1 ≠ y
def keepG (l : List Hd) (y : List Nat) : List (Option PV) := l.map fun x => if low x.1 ≠ y then some (hdPV x) else none
theorem keepG_eq (l : List Hd) (y : List Nat) : (keepG l y).filterMap id = (dropN l y).map hdPV := by
  unfold dropN
  induction l with
  | nil => rfl
  | cons a r ih =>
    show List.filterMap id ((if low a.1 ≠ y then some (hdPV a) else none) :: keepG r y) = _
    rw [List.filter_cons]
    by_cases h : low a.1 ≠ y
    · rw [if_pos h, if_pos (decide_eq_true h), List.filterMap_cons]; simp only [id]; rw [ih]; rfl
    · rw [if_neg h, if_neg (by simpa using h), List.filterMap_cons]; simp only [id]; rw [ih]
section
variable {C : Cx} {lv : Lv} {env : Env} {σ : St} {X : String → List PV → St → Prop}
theorem del_spec (H : HF C cb) {h d L ep : Nat} {l : List Hd} {p q : PV} {y : List Nat} {r : Option (String × List PV)} {ok : St → Prop} {Q : PV → St → Prop} (hn : lv.hn = true) (hd : lv.d < 24) (hs : HS H.K σ h d L ep) (hL : σ.hp L = some (.list (l.map hdPV)))
    (hlow : Low C p q) (hc : Conv C H true q r ok) (hok : ∀ σ', Grow σ σ' → ok σ') (hq : r = none → q = .str (st y)) (hsz : ∀ x ∈ l, (low x.1).length ≤ 100000) (hl : l.length ≤ 1000000)
    (hg : r = none → ∀ σ', GrowX L σ σ' → σ'.loc = σ.loc → σ'.hp L = some (.list ((dropN l y).map hdPV)) → Q .none σ')
    (hb : ∀ c as, r = some (c, as) → ∀ σ', Grow σ σ' → σ'.loc = σ.loc → X c as σ') : ACall C lv env (.ref H.delitem.a) [.ref h, p] [] σ Q X := by
  have hbi := H.bi
  obtain ⟨fl, kl, ml, cl⟩ := hlow
  refine (c_mX H.delitem.m (by omega) (H.delB _ _ _ _ _).toA rfl ?_).call
  intro env' S hF
  refine ss_next (s_as S ?_)
  refine e_mcall ?_
  refine e_nm (v := .ref h) S ⟨_, m_hs hs.mk' H.cls H.conv.m, .ref H.conv.m.keep, ?_⟩
  refine al_cons (e_mcall (e_nm (v := p) S ⟨_, ml _ _ _, kl, ?_⟩))
  with_reducible refine al_nil ?_
  with_reducible refine ak_nil ?_
  with_reducible refine ac0 ?_
  refine cl _ _ _ _ _ ?_
  with_reducible refine al_nil ?_
  refine ak_cons ?_
  refine e_bool ?_
  with_reducible refine ak_nil ?_
  with_reducible refine ac1 ?_
  refine hc _ _ _ _ _ _ hn (by show lv.d + 1 < 27; omega) (hok _ ⟨Nat.le_refl _, fun _ _ => rfl⟩) (fun e1 σ' g1 l1 => ?_) (fun c as e1 σ' g1 l1 => ⟨_, fun i o e => e, hb c as e1 _ ⟨g1.n, g1.hp⟩ rfl⟩)
  have g0 : Grow σ σ' := ⟨g1.n, g1.hp⟩
  have ls : σ'.loc "self" = some (.ref h) := by rw [l1]; rfl
  rw [hq e1]
  refine ⟨rfl, ?_⟩
  have ls1 : (σ'.set "name" (.str (st y))).loc "self" = some (.ref h) := ls
  have ln1 : (σ'.set "name" (.str (st y))).loc "name" = some (.str (st y)) := rfl
  have hs1 : HS H.K (σ'.set "name" (.str (st y))) h d L ep := HS.set' (hs.grow g0)
  have hL1 : (σ'.set "name" (.str (st y))).hp L = some (.list (l.map hdPV)) := g0.get hs.Ln hL
  have g1' : Grow σ (σ'.set "name" (.str (st y))) := g0.set
  generalize σ'.set "name" (.str (st y)) = τ1 at ls1 ln1 hs1 hL1 g1' ⊢
  clear ls g0 l1 g1 σ'
  refine ss_next (s_setall ?_)
  refine e_comp S hn ?_
  refine e_hs H (e_nm (v := .ref h) S ⟨h, d, L, ep, rfl, hs1, ?_⟩)
  refine comp_idx (l := l.map hdPV) (keepG l y) (by unfold keepG; rw [List.length_map, List.length_map]) (Nat.lt_of_le_of_lt (Nat.zero_le _) hs1.Ln) (it_list hn hL1) (fun τ' g => g.get hs1.Ln hL1) (by rw [List.length_map]; omega) ?_ ?_
  · intro cenv S' k p' y' hp hy τ' g hfree
    rw [List.getElem?_map] at hp
    obtain ⟨x, hx, rfl⟩ := Option.map_eq_some_iff.mp hp
    unfold keepG at hy
    rw [List.getElem?_map, hx] at hy
    have hy' : (if low x.1 ≠ y then some (hdPV x) else none) = y' := Option.some.inj hy
    clear hy
    have hxs := hsz x (List.mem_of_getElem? hx)
    have ln' : τ'.loc "name" = some (.str (st y)) := (hfree "name" (by decide +kernel)).trans ln1
    refine a_nm S' (at_one (t_cmp (e_mcall (e_sub (e_nm (v := hdPV x) S' (e_int ?_))))))
    refine o_sub_tup (by decide) (by decide) (p := .str (st x.1)) rfl ⟨_, m_lower, .builtin, ?_⟩
    with_reducible refine al_nil ?_
    with_reducible refine ak_nil ?_
    with_reducible refine ac0 ?_
    refine c_lower (by rw [lower_st, st_len]; omega) ?_
    rw [lower_st]
    refine e_nm (v := .str (st y)) S' (o_ne_str (tr_bool ⟨fun he => ?_, fun he => ?_⟩))
    · have he' : low x.1 ≠ y := by
        rintro q
        rw [q] at he; simp at he
      rw [if_pos he'] at hy'
      exact e_nm (v := hdPV x) S' ⟨hy'.symm, Grow.refl.set, fun z hz => if_neg (by rintro rfl; revert hz; decide +kernel)⟩
    · have he' : ¬ low x.1 ≠ y := by
        have : st (low x.1) = st y := by simpa using he
        exact fun q => q (st_inj.mp this)
      rw [if_neg he'] at hy'
      exact ⟨hy'.symm, Grow.refl.set, fun z hz => if_neg (by rintro rfl; revert hz; decide +kernel)⟩
  · intro τ2 g hτ2 hlt hloc
    rw [keepG_eq] at hτ2
    have ls2 : τ2.loc "self" = some (.ref h) := by rw [hloc]; exact ls1
    have hs2 := hs1.grow g
    have hL2 := g.get hs1.Ln hL1
    refine e_hs H (e_nm (v := .ref h) S ⟨h, d, L, ep, rfl, hs2, ?_⟩)
    refine ⟨L, τ1.n, _, _, rfl, rfl, Nat.ne_of_lt hs1.Ln, hs.L0, hL2, hτ2, by rw [List.length_map]; omega, ?_, ?_⟩
    · rw [List.length_map]
      have : (dropN l y).length ≤ l.length := List.length_filter_le _ _
      omega
    refine ⟨rfl, ss_nil ?_⟩
    refine ⟨_, fun i o e => e, hg e1 _ ⟨?_, fun i hi hne => ?_⟩ rfl (if_pos rfl)⟩
    · show σ.n ≤ τ2.n
      exact Nat.le_trans g1'.n g.n
    · exact (if_neg hne).trans ((g1'.trans g).hp i hi)
theorem set_spec (H : HF C cb) {h d L ep : Nat} {l : List Hd} {p q v : PV} {y : List Nat} {r rN rV : Option (String × List PV)} {ok : St → Prop} {Q : PV → St → Prop} (hn : lv.hn = true) (hd : lv.d < 22) (hs : HS H.K σ h d L ep) (hL : σ.hp L = some (.list (l.map hdPV)))
    (hlow : Low C p q) (hc : Conv C H true q r ok) (hcN : Conv C H true p rN ok) (hcV : Conv C H false v rV ok) (hok : ∀ σ', GrowX L σ σ' → ok σ') (hq : r = none → q = .str (st y)) (hsz : ∀ x ∈ l, (low x.1).length ≤ 100000) (hl : l.length ≤ 1000000)
    (hg : r = none → rN = none → rV = none → ∀ σ', GrowX L σ σ' → σ'.loc = σ.loc → σ'.hp L = some (.list ((dropN l y).map hdPV ++ [.tup [p, v]])) → Q .none σ')
    (hb : ∀ c as, r = some (c, as) → ∀ σ', Grow σ σ' → σ'.loc = σ.loc → X c as σ')
    (hbN : r = none → ∀ c as, rN = some (c, as) → ∀ σ', GrowX L σ σ' → σ'.loc = σ.loc → σ'.hp L = some (.list ((dropN l y).map hdPV)) → X c as σ')
    (hbV : r = none → rN = none → ∀ c as, rV = some (c, as) → ∀ σ', GrowX L σ σ' → σ'.loc = σ.loc → σ'.hp L = some (.list ((dropN l y).map hdPV)) → X c as σ') : ACall C lv env (.ref H.setitem.a) [.ref h, p, v] [] σ Q X := by
  have hbi := H.bi
  refine (c_mX H.setitem.m (by omega) (H.setB _ _ _ _ _ _).toA rfl ?_).call
  intro env' S hF
  refine ss_next (s_del ?_)
  refine e_nm (v := .ref h) S (e_nm (v := p) S ?_)
  refine del_inst hs.mk'.inst hs.mk'.dict H.seq H.delitem.m.spec ?_
  refine del_spec H hn (by show lv.d + 1 < 24; omega) hs.mk' hL hlow hc (fun σ' g => hok σ' ⟨g.n, fun i hi _ => g.hp i hi⟩) hq hsz hl (fun e1 σ' g l1 hL1 => ?_) (fun c as e σ' g l' => ⟨_, fun i o e => e, hb c as e _ ⟨g.n, g.hp⟩ rfl⟩)
  have hL1' := hL1
  have gX : GrowX L σ σ' := ⟨g.n, g.hp⟩
  have hs1 : HS H.K σ' h d L ep := GrowX.hs gX hs
  have ls : σ'.loc "self" = some (.ref h) := by rw [l1]; rfl
  have ln : σ'.loc "name" = some p := by rw [l1]; rfl
  have lvv : σ'.loc "val" = some v := by rw [l1]; rfl
  have hdl : (dropN l y).length ≤ l.length := List.length_filter_le _ _
  refine ⟨rfl, ?_⟩
  refine ss_next (s_expr S.ok ?_)
  refine e_mcall ?_
  refine e_hs H (e_nm (v := .ref h) S ⟨h, d, L, ep, rfl, hs1, _, m_append hL1, .builtin, ?_⟩)
  refine al_cons (e_tuple (al_cons (e_mcall (e_nm (v := .ref h) S ⟨_, m_hs hs1 H.cls H.conv.m, .ref H.conv.m.keep, ?_⟩))))
  refine al_cons (e_nm (v := p) S ?_)
  with_reducible refine al_nil ?_
  refine ak_cons ?_
  refine e_bool ?_
  with_reducible refine ak_nil ?_
  with_reducible refine ac1 ?_
  refine hcN _ _ _ _ _ _ hn (by show lv.d + 1 < 27; omega) (hok _ gX) (fun eN σ2 g2 l2 => ?_) (fun c as eN σ2 g2 l2 => ⟨_, fun i o e => e, hbN e1 c as eN _ ⟨Nat.le_trans gX.n g2.n, fun i hi hne => (g2.hp i (Nat.lt_of_lt_of_le hi gX.n)).trans (gX.hp i hi hne)⟩ rfl (g2.get hs1.Ln hL1)⟩)
  have gX2 : GrowX L σ σ2 := gX.trans (Grow.x g2)
  have hs2 := hs1.grow g2
  have hL2 := g2.get hs1.Ln hL1
  have ls2 : σ2.loc "self" = some (.ref h) := by rw [l2]; exact ls
  have lv2 : σ2.loc "val" = some v := by rw [l2]; exact lvv
  refine al_cons (e_mcall (e_nm (v := .ref h) S ⟨_, m_hs hs2 H.cls H.conv.m, .ref H.conv.m.keep, ?_⟩))
  refine al_cons (e_nm (v := v) S ?_)
  with_reducible refine al_nil ?_
  refine ak_cons ?_
  refine e_bool ?_
  with_reducible refine ak_nil ?_
  with_reducible refine ac1 ?_
  refine hcV _ _ _ _ _ _ hn (by show lv.d + 1 < 27; omega) (hok _ gX2) (fun eV σ3 g3 l3 => ?_) (fun c as eV σ3 g3 l3 => ⟨_, fun i o e => e, hbV e1 eN c as eV _ ⟨Nat.le_trans gX2.n g3.n, fun i hi hne => (g3.hp i (Nat.lt_of_lt_of_le hi gX2.n)).trans (gX2.hp i hi hne)⟩ rfl (g3.get hs2.Ln hL2)⟩)
  have hL3 := g3.get hs2.Ln hL2
  have gX3 : GrowX L σ σ3 := gX2.trans (Grow.x g3)
  with_reducible refine al_nil ?_
  refine ⟨Nat.le_of_ble_eq_true rfl, ?_⟩
  with_reducible refine al_nil ?_
  with_reducible refine ak_nil ?_
  with_reducible refine ac0 ?_
  refine c_append hL3 hs.L0 (by rw [List.length_map]; omega) ?_
  refine ⟨rfl, ?_⟩
  refine ss_nil ?_
  exact ⟨_, fun i o e => e, hg e1 eN eV _ ⟨gX3.n, fun i hi hne => (if_neg hne).trans (gX3.hp i hi hne)⟩ rfl (if_pos rfl)⟩
end
end L08
end Mine

set_option maxHeartbeats 1000000
namespace Mine
namespace L08
section
variable {C : Cx} {lv : Lv} {env : Env} {σ : St} {X : String → List PV → St → Prop}
theorem init_none (H : HF C cb) {h d ep : Nat} {ps : List PV} {Q : PV → St → Prop} (hn : lv.hn = true) (hd : lv.d < 24) (hbd : ∀ lv env σ, Binds C lv env σ H.init.fd ps [] [("self", .ref h), ("headers", .none)]) (hi : σ.hp h = some (.inst H.K d)) (hdd : σ.hp d = some (.dict [] ep)) (hd0 : 0 < d) (hhn : h < σ.n) (hdn : d < σ.n)
    (hg : ∀ σ', Grow ((σ.alloc (.list [])).upd d (.dict [("_headers", .ref σ.n)] (ep + 1))) σ' → σ'.loc = σ.loc → Q .none σ') : CCall C lv env (.ref H.init.a) ps [] σ Q X := by
  have hbi := H.bi
  refine c_mX H.init.m (by omega) (hbd _ _ _).toA rfl ?_
  intro env' S hF
  refine ss_next (s_as S ?_)
  refine e_if ?_
  refine t_cmp ?_
  refine e_nm (by assumption) ?_
  refine e_none ?_
  with_reducible refine o_isnot_no ?_
  with_reducible refine tr_bool ?_
  refine ⟨nofun, fun _ => ?_⟩
  refine e_list ?_
  with_reducible refine al_nil ?_
  refine ⟨Nat.le_of_ble_eq_true rfl, ?_⟩
  refine ⟨rfl, ?_⟩
  refine ss_cons (s_if ?_)
  refine t_cmp ?_
  refine e_call ?_
  refine e_b_type (by assumption) (by assumption) ?_ (by decide +kernel)
  refine ⟨_, rfl, KeepV.type, ?_⟩
  refine al_cons ?_
  refine e_nm (by assumption) ?_
  with_reducible refine al_nil ?_
  with_reducible refine ak_nil ?_
  with_reducible refine ac0 ?_
  refine c_type_list (by first | assumption | exact if_pos rfl | exact Eq.trans (if_neg (by omega)) (by assumption) | exact Eq.trans (if_neg (by omega)) (if_pos rfl)) ?_
  refine e_b_list (by assumption) (by assumption) ?_ (by decide +kernel)
  with_reducible refine o_isnot_ty_t ?_ (by decide)
  with_reducible refine tr_bool ?_
  refine ⟨nofun, fun _ => ?_⟩
  refine ss_nil ?_
  refine ⟨fun _ => ?_, fun q => absurd rfl q⟩
  have hi' : (σ.alloc (.list [])).hp h = some (.inst H.K d) := (if_neg (Nat.ne_of_lt hhn)).trans hi
  have hdd' : (σ.alloc (.list [])).hp d = some (.dict [] ep) := (if_neg (Nat.ne_of_lt hdn)).trans hdd
  refine ss_next (s_attr0 ?_)
  refine e_nm (by assumption) ?_
  refine e_nm (by assumption) ?_
  refine ⟨h, d, H.K, ep, rfl, hi', hdd', hd0, H.cls.sa, H.cls.over, H.taker, H.hh, ?_⟩
  refine ⟨rfl, ?_⟩
  refine ss_cons (s_if ?_)
  refine t_val ?_
  refine e_bool ?_
  with_reducible refine tr_bool ?_
  refine ⟨fun _ => ?_, nofun⟩
  have hLd : ((σ.alloc (.list [])).upd d (.dict [("_headers", .ref σ.n)] (ep + 1))).hp σ.n = some (.list []) := (if_neg (Ne.symm (Nat.ne_of_lt hdn))).trans (if_pos rfl)
  refine ss_cons (s_for hn hF ?_)
  refine e_nm (by assumption) ?_
  refine ⟨[], _, fun k τ => Grow ((σ.alloc (.list [])).upd d (.dict [("_headers", .ref σ.n)] (ep + 1))) τ, it_list hn hLd, ⟨Nat.le_refl _, fun _ _ => rfl⟩, fun k τ x => x.get (Nat.lt_succ_self _) hLd, ?_, ?_⟩
  · intro k p τ hp; cases hp
  · intro τ g
    refine ss_nil ?_
    refine ⟨fun _ => ?_, fun q => absurd rfl q⟩
    refine ss_nil ?_
    refine ⟨fun _ => ?_, fun q => absurd rfl q⟩
    refine ss_nil ?_
    exact ⟨_, fun i o e => e, hg _ ⟨g.n, g.hp⟩ rfl⟩
theorem make0_spec (H : HF C cb) {ps : List PV} {Q : PV → St → Prop} (hn : lv.hn = true) (hd : lv.d < 23) (h0 : 0 < σ.n) (hps : ps = [] ∨ ps = [.none])
    (hg : ∀ σ', σ.n + 3 ≤ σ'.n → (∀ i, i < σ.n → σ'.hp i = σ.hp i) → HS H.K σ' (σ.n + 1) σ.n (σ.n + 2) 1 → σ'.hp (σ.n + 2) = some (.list []) → σ'.loc = σ.loc → Q (.ref (σ.n + 1)) σ') : ACall C lv env (.ref H.K) ps [] σ Q X := by
  refine c_classX (by omega) H.cls.makes H.init.m.find H.init.m.typ ?_
  refine init_none H (h := σ.n + 1) (d := σ.n) (ep := 0) hn (by show lv.d + 1 < 24; omega) ?_ (if_pos rfl) ?_ ?_ ?_ ?_ ?_
  · rcases hps with rfl | rfl
    · exact fun lv env σ' => H.init0 lv env σ' _
    · exact fun lv env σ' => H.initB lv env σ' _ _
  · exact (if_neg (show σ.n ≠ σ.n + 1 by omega)).trans (if_pos rfl)
  · exact h0
  · show σ.n + 1 < σ.n + 1 + 1; omega
  · show σ.n < σ.n + 1 + 1; omega
  · intro σ' g e
    have gn : σ.n + 3 ≤ σ'.n := g.n
    have gh : ∀ i, i < σ.n + 3 → σ'.hp i = (if i = σ.n then some (.dict [("_headers", .ref (σ.n + 2))] 1) else if i = σ.n + 2 then some (.list []) else if i = σ.n + 1 then some (.inst H.K σ.n) else if i = σ.n then some (.dict [] 0) else σ.hp i) := fun i hi => g.hp i hi
    refine ⟨rfl, hg σ' gn (fun i hi => by rw [gh i (by omega), if_neg (by omega), if_neg (by omega), if_neg (by omega), if_neg (by omega)]) ⟨?_, ?_, by omega, by omega, by omega, by omega, by omega, by omega, by omega, by omega⟩ ?_ e⟩
    · rw [gh _ (by omega), if_neg (by omega), if_neg (by omega), if_pos rfl]
    · rw [gh _ (by omega), if_pos rfl]
    · rw [gh _ (by omega), if_neg (by omega), if_pos rfl]
end
end L08
end Mine

set_option maxHeartbeats 2000000
namespace Mine
namespace L08
def gotW (x : Str) : Str := Str.ofString "Header names/values must be of type str (got " ++ x ++ Str.ofString ")"
section
variable {C : Cx} {lv : Lv} {env : Env} {σ : St} {X : String → List PV → St → Prop}
theorem conv_bad (H : HF C cb) {p : PV} {x : Str} {okp : (Nat → Option AO) → Prop} {nm : Bool} (b : Bad C p x okp) : Conv C H nm p (some ("AssertionError", [.str (gotW x)])) (fun σ => okp σ.hp) := by
  intro lv env σ Q X h hn hd hok hg hb
  have hbi := H.bi
  obtain ⟨T, hT, typ⟩ := b.typ
  refine (c_mX H.conv.m (by omega) (H.convB _ _ _ _ _ _).toA rfl ?_).call
  intro env' S hF
  refine ss_cons (s_if (t_cmp (e_call ?_)))
  refine e_b_type (by assumption) (by assumption) ?_ (by decide +kernel)
  refine ⟨_, rfl, KeepV.type, ?_⟩
  refine al_cons ?_
  refine e_nm (by assumption) ?_
  with_reducible refine al_nil ?_
  with_reducible refine ak_nil ?_
  with_reducible refine ac0 ?_
  refine typ _ _ _ _ _ hok ?_
  refine e_b_str (by assumption) (by assumption) ?_ (by decide +kernel)
  refine o_is_type ?_
  rw [hT]
  refine tr_bool ⟨nofun, fun _ => ss_nil ⟨fun _ => ?_, fun q => absurd rfl q⟩⟩
  refine ss_cons (s_raise PySem.F.excCall_AssertionError PySem.F.excRaise_AssertionError hn ?_)
  refine e_b_AssertionError (by assumption) (by assumption) ?_ (by decide +kernel)
  refine ⟨rfl, ?_⟩
  refine al_cons (e_mcall (e_str ⟨_, m_format, .builtin, ?_⟩))
  refine al_cons (e_call ?_)
  refine e_b_repr (by assumption) (by assumption) ?_ (by decide +kernel)
  refine ⟨_, rfl, KeepV.builtin, ?_⟩
  refine al_cons ?_
  refine e_nm (by assumption) ?_
  with_reducible refine al_nil ?_
  with_reducible refine ak_nil ?_
  with_reducible refine ac0 ?_
  refine b.rep _ _ _ _ _ hok ?_
  with_reducible refine al_nil ?_
  with_reducible refine ak_nil ?_
  with_reducible refine ac0 ?_
  refine c_format (by have := b.len; omega) ?_
  with_reducible refine al_nil ?_
  refine ⟨Nat.le_of_ble_eq_true rfl, ?_⟩
  exact ⟨_, fun i o e => e, hb _ _ rfl _ ⟨Nat.le_refl _, fun _ _ => rfl⟩ rfl⟩
end
end L08
end Mine

set_option maxHeartbeats 2000000
set_option linter.constructorNameAsVariable false
namespace Mine
namespace L08
def byB : Array UInt8 := #[]
def byW : Str := Str.ofString "b''"
def excV : AO := .exc "ValueError" [.str (Str.ofString "v")]
def wordsP : PV → Str
  | .none => Str.ofString "None"
  | .int a => Str.ofString (toString a)
  | .bytes _ => byW
  | _ => Str.ofString "ValueError('v')"
def fltG (nm : Bool) : PV → Option (String × List PV)
  | .str s => strFlt nm s.cps.toList
  | p => some ("AssertionError", [.str (gotW (wordsP p))])
inductive Thg (n : Nat) (hp : Nat → Option AO) : PV → Prop
  | str {x : List Nat} : x.length ≤ 100 → (∀ c ∈ x, c < 0x110000) → Thg n hp (.str (st x))
  | none : Thg n hp .none
  | int {a : Nat} : a < 1000 → Thg n hp (.int a)
  | bytes : Thg n hp (.bytes byB)
  | exc {i : Nat} : i < n → hp i = some excV → Thg n hp (.ref i)
theorem Thg.mono {n n' : Nat} {hp hp' : Nat → Option AO} {p : PV} (h : Thg n hp p) (hn : n ≤ n') (hh : ∀ i, i < n → hp i = some excV → hp' i = some excV) : Thg n' hp' p := by
  cases h with
  | str h1 h2 => exact .str h1 h2
  | none => exact .none
  | int h1 => exact .int h1
  | bytes => exact .bytes
  | exc h1 h2 => exact .exc (Nat.lt_of_lt_of_le h1 hn) (hh _ h1 h2)
theorem Thg.grow {σ σ' : St} {p : PV} (h : Thg σ.n σ.hp p) (g : Grow σ σ') : Thg σ'.n σ'.hp p := h.mono g.n fun i hi ho => g.get hi ho
def THp (hp : Nat → Option AO) (p : PV) : Prop := ∀ i, p = .ref i → hp i = some excV
theorem conv_imp {C : Cx} {H : HF C cb} {nm : Bool} {v : PV} {r : Option (String × List PV)} {ok ok' : St → Prop} (h : Conv C H nm v r ok) (i : ∀ σ, ok' σ → ok σ) : Conv C H nm v r ok' := fun lv env σ Q X hv a b c d e => h lv env σ Q X hv a b (i _ c) d e
theorem num_len {a : Nat} (h : a < 1000) : (Str.ofString (toString (a : Int))).length ≤ 3 := toString_length_le (k := 3) (by omega) (by decide) (by omega)
theorem fltG_st (nm : Bool) (x : List Nat) : fltG nm (.str (st x)) = strFlt nm x := by show strFlt nm (st x).cps.toList = _; rw [st_toList]
theorem fltG_txt (nm : Bool) (v : PV) (h : fltG nm v = none) : v = .str (st (txt v)) := by
  cases v <;> first | (cases h; done) | exact congrArg PV.str (st_of _)
theorem by_bad {C : Cx} : Bad C (.bytes byB) byW (fun _ => True) := bad_bytes (fun t => .of_eq (by kernel_rfl)) (by decide +kernel)
theorem Thg.conv {C : Cx} (H : HF C cb) {n : Nat} {hp : Nat → Option AO} {p : PV} (h : Thg n hp p) (nm : Bool) : Conv C H nm p (fltG nm p) (fun σ => THp σ.hp p) := by
  cases h with
  | str h1 h2 => rw [fltG_st]; exact conv_strC H (by omega) _
  | none => exact conv_imp (conv_bad H bad_none) fun _ _ => trivial
  | int h1 => exact conv_imp (conv_bad H (bad_int (by omega) (Nat.le_trans (num_len h1) (by decide)))) fun _ _ => trivial
  | bytes => exact conv_imp (conv_bad H by_bad) fun _ _ => trivial
  | exc h1 h2 => exact conv_imp (conv_bad H bad_exc_v) fun σ k => k _ rfl
theorem cpOk_of (s : String) : cpOk (Str.ofString s) := by
  intro c hc
  rw [Str.ofString_eq_toList] at hc
  have hc' : c ∈ s.toList.map Char.toNat := by simpa using hc
  obtain ⟨d, _, rfl⟩ := List.mem_map.mp hc'
  have := d.valid
  rcases this with h | h
  · exact Nat.lt_trans h (by decide)
  · exact h.2
theorem cpOk_app {x y : Str} (hx : cpOk x) (hy : cpOk y) : cpOk (x ++ y) := by
  intro c hc
  rw [Str.cps_append] at hc
  rw [Array.toList_append] at hc
  rcases List.mem_append.mp hc with h | h
  · exact hx c h
  · exact hy c h
theorem got_cp {x : Str} (h : cpOk x) : cpOk (gotW x) := cpOk_app (cpOk_app (cpOk_of _) h) (cpOk_of _)
theorem wordsP_cp (p : PV) : cpOk (wordsP p) := by
  cases p <;> exact cpOk_of _
def tagOf (c : String) : Str := if c = "ValueError" then Str.ofString "refused" else Str.ofString "no text"
inductive FltIs (n : Nat) (hp : Nat → Option AO) : Option (String × List PV) → PV → Prop
  | no : FltIs n hp none .none
  | yes {c : String} {m : Str} {i : Nat} : i < n → hp i = some (.list [.str (tagOf c), .str m]) → cpOk m → (c = "ValueError" ∨ c = "AssertionError") → FltIs n hp (some (c, [.str m])) (.ref i)
theorem FltIs.mono {n n' : Nat} {hp hp' : Nat → Option AO} {r : Option (String × List PV)} {p : PV} (h : FltIs n hp r p) (hn : n ≤ n') (hh : ∀ i, i < n → ∀ t m, hp i = some (.list [.str t, .str m]) → hp' i = some (.list [.str t, .str m])) : FltIs n' hp' r p := by
  cases h with
  | no => exact .no
  | yes h1 h2 h3 h4 => exact .yes (Nat.lt_of_lt_of_le h1 hn) (hh _ h1 _ _ h2) h3 h4
theorem FltIs.grow {σ σ' : St} {r : Option (String × List PV)} {p : PV} (h : FltIs σ.n σ.hp r p) (g : Grow σ σ') : FltIs σ'.n σ'.hp r p := h.mono g.n fun i hi t m ho => g.get hi ho
theorem FltIs.noObj {n : Nat} {hp : Nat → Option AO} {r : Option (String × List PV)} {p : PV} (h : FltIs n hp r p) : ∀ w, p ≠ .obj w := by
  intro w e
  subst e
  cases h
theorem FltIs.iff {n : Nat} {hp : Nat → Option AO} {r : Option (String × List PV)} {p : PV} (h : FltIs n hp r p) : p.isNone = r.isNone := by cases h <;> rfl
def fltD : Option (String × List PV) → PyData
  | some (c, [.str m]) => .list [.str (tagOf c), .str m]
  | _ => .none
theorem tagOf_cp (c : String) : cpOk (tagOf c) := by unfold tagOf; split <;> exact cpOk_of _
theorem FltIs.pd {n k : Nat} {hp : Nat → Option AO} {r : Option (String × List PV)} {p : PV} (h : FltIs n hp r p) : PD hp (k + 1) p (fltD r) := by
  cases h with
  | no => exact .none
  | yes h1 h2 h3 h4 => exact .list h2 (.cons (.str (tagOf_cp _)) (.cons (.str h3) .nil))
def tst (nm : Bool) : Nat → Bool := if nm then testN else testV
theorem tst_iff {nm : Bool} {c : Nat} : tst nm c = ((decide (c < 32) || decide (c = 127)) && (nm || decide (c ≠ 9))) := by
  unfold tst
  rw [Bool.eq_iff_iff]
  cases nm
  · show testV c = true ↔ _
    rw [testV_t]
    simp only [Bool.and_eq_true, Bool.or_eq_true, decide_eq_true_eq, Bool.false_eq_true, false_or]
    omega
  · show testN c = true ↔ _
    rw [testN_t]
    simp only [Bool.and_eq_true, Bool.or_eq_true, decide_eq_true_eq, true_or, and_true]
theorem strFlt_t {nm : Bool} {x : List Nat} (h : x.any (tst nm) = true) : strFlt nm x = some ("ValueError", [ctlMsg]) := by
  unfold strFlt noCtl
  unfold tst at h
  rw [h]; rfl
theorem strFlt_f {nm : Bool} {x : List Nat} (h : x.any (tst nm) = false) : strFlt nm x = none := by
  unfold strFlt noCtl
  unfold tst at h
  rw [h]; rfl
theorem fltG_r {n : Nat} {hp : Nat → Option AO} {p : PV} (h : Thg n hp p) (nm : Bool) : fltG nm p = none ∨ ∃ c m, fltG nm p = some (c, [.str m]) ∧ cpOk m ∧ (c = "ValueError" ∨ c = "AssertionError") := by
  cases h with
  | str h1 h2 =>
    rw [fltG_st]
    unfold strFlt
    split
    · exact .inl rfl
    · exact .inr ⟨_, _, rfl, cpOk_of _, .inl rfl⟩
  | none => exact .inr ⟨_, _, rfl, got_cp (wordsP_cp _), .inr rfl⟩
  | int h1 => exact .inr ⟨_, _, rfl, got_cp (wordsP_cp _), .inr rfl⟩
  | bytes => exact .inr ⟨_, _, rfl, got_cp (wordsP_cp _), .inr rfl⟩
  | exc h1 h2 => exact .inr ⟨_, _, rfl, got_cp (wordsP_cp _), .inr rfl⟩
end L08
end Mine

set_option maxHeartbeats 2000000
namespace Mine
namespace L08
structure FF (C : Cx) where
  thingA : Addr
  thingF : FuncData
  thing : FnG C "_law_thing" (stmtAt prog 7) thingA thingF
  thingB : ∀ lv env σ p0 p1 p2, Binds C lv env σ thingF [p0, p1, p2] [] [("kind", p0), ("number", p1), ("x", p2)]
  faultA : Addr
  faultF : FuncData
  fault : FnG C "_law_fault" (stmtAt prog 8) faultA faultF
  faultB : ∀ lv env σ p0 p1, Binds C lv env σ faultF [p0, p1] [] [("thing", p0), ("allowed", p1)]
  toldA : Addr
  toldF : FuncData
  told : FnG C "_law_told" (stmtAt prog 9) toldA toldF
  toldB : ∀ lv env σ p0, Binds C lv env σ toldF [p0] [] [("headers", p0)]
def alw (nm : Bool) : Str := if nm then st [] else st [9]
theorem alw_mem {nm : Bool} {c : Nat} : (!decide (c ∈ (alw nm).cps.toList)) = (nm || decide (c ≠ 9)) := by
  cases nm
  · show (!decide (c ∈ (st [9]).cps.toList)) = _
    rw [st_toList]; simp
  · show (!decide (c ∈ (st []).cps.toList)) = _
    rw [st_toList]; simp
def signs36 : List Nat := List.range 33 ++ [126, 127, 128]
def signs10 : List Nat := [58, 59, 61, 126, 159, 160, 255, 256, 8232, 128512]
def plainT : List Nat := [112, 108, 97, 105, 110]
def byT : List Nat := [98, 121, 32, 116, 97, 98, 108, 101]
def texts8 : List (List Nat) := [plainT, []] ++ (signs36.flatMap fun s => [[116, s, 116], [s, 116], [116, s], [s]]) ++ signs10.map fun s => [116, s, 116]
theorem texts8_chk : ∀ t ∈ texts8, (low t).length ≤ 12 ∧ low t ≠ byT ∧ t.length ≤ 5 ∧ ∀ c ∈ t, c < 0x110000 := by decide +kernel
theorem signs36_ok : ∀ k, k < 36 → signs36.getD k 0 ≤ 128 ∧ signs36.getD k 0 ∈ signs36 := by decide +kernel
theorem signs10_ok : ∀ k, k < 10 → signs10.getD k 0 ∈ signs10 ∧ (Str.ofString ":;=~\x9f\xa0ÿĀ\u2028😀").cps[k]? = some (signs10.getD k 0) := by decide +kernel
theorem t8_36 {s : Nat} (h : s ∈ signs36) {t : List Nat} (ht : t ∈ [[116, s, 116], [s, 116], [116, s], [s]]) : t ∈ texts8 := List.mem_append.mpr (.inl (List.mem_append.mpr (.inr (List.mem_flatMap.mpr ⟨s, h, ht⟩))))
theorem t8_10 {s : Nat} (h : s ∈ signs10) : [116, s, 116] ∈ texts8 := List.mem_append.mpr (.inr (List.mem_map.mpr ⟨s, h, rfl⟩))
structure T8 (n : Nat) (hp : Nat → Option AO) (p : PV) : Prop where
  t : Thg n hp p
  nb : p ≠ .bytes byB
  tx : ∀ t, p = .str (st t) → t ∈ texts8
theorem T8.grow {σ σ' : St} {p : PV} (h : T8 σ.n σ.hp p) (g : Grow σ σ') : T8 σ'.n σ'.hp p := ⟨h.t.grow g, h.nb, h.tx⟩
theorem T8.mono {n n' : Nat} {hp hp' : Nat → Option AO} {p : PV} (h : T8 n hp p) (hn : n ≤ n') (hh : ∀ i, i < n → hp i = some excV → hp' i = some excV) : T8 n' hp' p := ⟨h.t.mono hn hh, h.nb, h.tx⟩
section
variable {C : Cx} {lv : Lv} {env : Env} {σ : St} {X : String → List PV → St → Prop}
theorem thing_spec (H : HF C cb) (F : FF C) {kind num : Nat} {x : Int} {Q : PV → St → Prop} (hn : lv.hn = true) (hd : lv.d < 28) (hk : kind < 7) (hnum : num < 1000)
    (h : ∀ σ' p, Grow σ σ' → σ'.loc = σ.loc → T8 σ'.n σ'.hp p → Q p σ') : ACall C lv env (.ref F.thingA) [.int kind, .int num, .int x] [] σ Q X := by
  have hbi := H.bi
  refine a_f F.thing (by omega) (F.thingB _ _ _ _ _ _) ?_
  intro env' S hF
  generalize hτ0 : (⟨σ.n, σ.hp, locOf [("kind", PV.int kind), ("number", PV.int num), ("x", PV.int x)] fun _ => none⟩ : St) = τ0
  have l1 : τ0.loc "kind" = some (.int kind) := by rw [← hτ0]; rfl
  have l2 : τ0.loc "number" = some (.int num) := by rw [← hτ0]; rfl
  have l4 : τ0.loc "x" = some (.int x) := by rw [← hτ0]; rfl
  have g0 : Grow σ τ0 := by rw [← hτ0]; exact ⟨Nat.le_refl _, fun _ _ => rfl⟩
  clear hτ0
  have fin : ∀ {τ : St} {q : PV}, Grow σ τ → T8 τ.n τ.hp q → ∃ hp, (∀ i o, hp i = some o → τ.hp i = some o) ∧ Q q ⟨τ.n, hp, σ.loc⟩ := fun g a => ⟨_, fun i o e => e, h ⟨_, _, σ.loc⟩ _ ⟨g.n, g.hp⟩ rfl a⟩
  have txt : ∀ {τ : St} {t : List Nat}, Grow σ τ → t ∈ texts8 → ∃ hp, (∀ i o, hp i = some o → τ.hp i = some o) ∧ Q (.str (st t)) ⟨τ.n, hp, σ.loc⟩ := fun g k => by
    obtain ⟨_, _, h1, h2⟩ := texts8_chk _ k
    exact fin g ⟨.str (by omega) h2, nofun, fun t' e => by rw [← st_inj.mp (PV.str.inj e)]; exact k⟩
  have e116 : Str.ofString "t" = st [116] := by decide +kernel
  by_cases k0 : kind = 0
  · refine if_yes S l1 (by omega) (ss_ret (e_str ?_))
    rw [show Str.ofString "plain" = st plainT from by decide +kernel]
    exact ⟨nofun, fun _ => txt g0 (by decide +kernel)⟩
  refine if_no0 S l1 (by omega) ?_
  by_cases k1 : kind = 1
  · refine if_yes S l1 (by omega) (ss_ret (e_nm (v := .int num) S ⟨nofun, fun _ => fin g0 ⟨.int hnum, nofun, nofun⟩⟩))
  refine if_no0 S l1 (by omega) ?_
  by_cases k2 : kind = 2
  · refine if_yes S l1 (by omega) ?_
    have p0 : 0 ≤ x.fmod 36 := Int.fmod_nonneg_of_pos _ (by decide)
    have p1 : x.fmod 36 < 36 := Int.fmod_lt_of_pos _ (by decide)
    have r0 : 0 ≤ (x.fdiv 36).fmod 4 := Int.fmod_nonneg_of_pos _ (by decide)
    have r1 : (x.fdiv 36).fmod 4 < 4 := Int.fmod_lt_of_pos _ (by decide)
    obtain ⟨hs2, hs⟩ := signs36_ok (x.fmod 36).toNat (by omega)
    refine ss_mid (fun τ => Grow σ τ ∧ τ.loc "x" = some (.int x) ∧ τ.loc "sign" = some (.str (st [signs36.getD (x.fmod 36).toNat 0]))) (s_as S (e_call ?_)) ?_
    · refine e_b_chr (by assumption) (by assumption) ?_ (by decide +kernel)
      refine ⟨_, rfl, KeepV.builtin, ?_⟩
      refine al_cons ?_
      refine e_sub ?_
      refine e_bin ?_
      refine e_call ?_
      refine e_b_list (by assumption) (by assumption) ?_ (by decide +kernel)
      refine ⟨_, rfl, KeepV.type, ?_⟩
      refine al_cons ?_
      refine e_call ?_
      refine e_b_range (by assumption) (by assumption) ?_ (by decide +kernel)
      refine ⟨_, rfl, KeepV.type, ?_⟩
      refine al_cons ?_
      refine e_int ?_
      with_reducible refine al_nil ?_
      with_reducible refine ak_nil ?_
      with_reducible refine ac0 ?_
      refine c_range1 ?_
      with_reducible refine al_nil ?_
      with_reducible refine ak_nil ?_
      with_reducible refine ac0 ?_
      refine c_list_range (n := 33) hn ?_ (by decide +kernel) (by decide) ?_
      · exact if_pos rfl
      refine e_list ?_
      refine al_cons ?_
      refine e_int ?_
      refine al_cons ?_
      refine e_int ?_
      refine al_cons ?_
      refine e_int ?_
      with_reducible refine al_nil ?_
      refine ⟨Nat.le_of_ble_eq_true rfl, ?_⟩
      refine o_add_list ((if_neg (by show τ0.n + 1 ≠ τ0.n + 1 + 1; omega)).trans (if_pos rfl)) (if_pos rfl) (by decide +kernel) ?_
      refine e_bin ?_
      refine e_nm (by assumption) ?_
      refine e_int ?_
      with_reducible refine o_mod_int (by decide) ?_
      refine o_sub_list (p := .int (signs36.getD (x.fmod 36).toNat 0 : Nat)) (if_pos rfl) p0 (by omega) ?_ ?_
      · have hk' : (x.fmod 36).toNat < 36 := by omega
        show (intsFrom 0 33 ++ [PV.int 126, .int 127, .int 128])[(x.fmod 36).toNat]? = _
        generalize (x.fmod 36).toNat = k at hk'
        have hls : intsFrom 0 33 ++ [PV.int 126, .int 127, .int 128] = signs36.map fun c : Nat => PV.int c := by
          unfold signs36 intsFrom
          rw [List.map_append]
          congr 1
        rw [hls, List.getElem?_map]
        have : signs36.length = 36 := by decide
        rw [List.getD_eq_getElem?_getD, List.getElem?_eq_getElem (by omega)]
        rfl
      · with_reducible refine al_nil ?_
        with_reducible refine ak_nil ?_
        with_reducible refine ac0 ?_
        refine c_chr (by omega) (by omega) ?_
        rw [Int.toNat_natCast]
        exact ⟨rfl, g0.al.al.al.al.set, l4, rfl⟩
    rintro τ1 ⟨g1, l4, ls⟩
    generalize signs36.getD (x.fmod 36).toNat 0 = s at hs hs2 ls
    refine ss_ret (e_sub (e_list ?_))
    refine al_cons (e_bin (e_bin (e_str (e_nm (v := .str (st [s])) S ?_))))
    rw [e116]
    refine o_add_str (by rw [st_len, st_len]; show 2 ≤ _; decide) ?_
    rw [st_append]
    refine e_str (o_add_str (by rw [st_len, st_len]; show 3 ≤ _; decide) ?_)
    rw [st_append]
    refine al_cons (e_bin (e_nm (v := .str (st [s])) S (e_str (o_add_str (by rw [st_len, st_len]; show 2 ≤ _; decide) ?_))))
    rw [st_append]
    refine al_cons (e_bin (e_str (e_nm (v := .str (st [s])) S (o_add_str (by rw [st_len, st_len]; show 2 ≤ _; decide) ?_))))
    rw [st_append]
    refine al_cons (e_nm (v := .str (st [s])) S ?_)
    with_reducible refine al_nil ?_
    refine ⟨Nat.le_of_ble_eq_true rfl, ?_⟩
    refine e_bin ?_
    refine e_bin ?_
    refine e_nm (by assumption) ?_
    refine e_int ?_
    with_reducible refine o_div_int (by decide) (by decide) ?_
    refine e_int ?_
    with_reducible refine o_mod_int (by decide) ?_
    obtain ⟨w, hw⟩ : ∃ w : Nat, (w : Int) = (x.fdiv 36).fmod 4 := ⟨((x.fdiv 36).fmod 4).toNat, by omega⟩
    rw [← hw]
    have hw3 : w < 4 := by omega
    clear hw r0 r1 p0 p1
    rcases w with _ | _ | _ | _ | w
    · exact o_sub_list (p := .str (st ([116] ++ [s] ++ [116]))) (if_pos rfl) (by omega) (by omega) rfl ⟨nofun, fun _ => txt g1.al (t8_36 hs (by simp))⟩
    · exact o_sub_list (p := .str (st ([s] ++ [116]))) (if_pos rfl) (by omega) (by omega) rfl ⟨nofun, fun _ => txt g1.al (t8_36 hs (by simp))⟩
    · exact o_sub_list (p := .str (st ([116] ++ [s]))) (if_pos rfl) (by omega) (by omega) rfl ⟨nofun, fun _ => txt g1.al (t8_36 hs (by simp))⟩
    · exact o_sub_list (p := .str (st [s])) (if_pos rfl) (by omega) (by omega) rfl ⟨nofun, fun _ => txt g1.al (t8_36 hs (by simp))⟩
    · omega
  refine if_no0 S l1 (by omega) ?_
  by_cases k3 : kind = 3
  · refine if_yes S l1 (by omega) (ss_ret (e_none ⟨nofun, fun _ => fin g0 ⟨.none, nofun, nofun⟩⟩))
  refine if_no0 S l1 (by omega) ?_
  by_cases k4 : kind = 4
  · refine if_yes S l1 (by omega) (ss_ret (e_call ?_))
    refine e_b_ValueError (by assumption) (by assumption) ?_ (by decide +kernel)
    refine ⟨_, rfl, KeepV.type, ?_⟩
    refine al_cons ?_
    refine e_str ?_
    with_reducible refine al_nil ?_
    with_reducible refine ak_nil ?_
    with_reducible refine ac0 ?_
    refine c_exc PySem.F.excCall_ValueError (by decide) (by decide) ?_
    exact ⟨nofun, fun _ => fin g0.al ⟨.exc (Nat.lt_succ_self _) (if_pos rfl), nofun, nofun⟩⟩
  refine if_no0 S l1 (by omega) ?_
  refine ss_ret (e_if (t_cmp (e_nm (v := .int kind) S (e_int (o_eq_int (tr_bool ⟨fun hb => ?_, fun hb => ?_⟩))))))
  · refine e_str ?_
    rw [show Str.ofString "" = st [] from by decide +kernel]
    exact txt g0 (by decide +kernel)
  · have p0 : 0 ≤ x.fmod 10 := Int.fmod_nonneg_of_pos _ (by decide)
    have p1 : x.fmod 10 < 10 := Int.fmod_lt_of_pos _ (by decide)
    obtain ⟨hs, hs2⟩ := signs10_ok (x.fmod 10).toNat (by omega)
    refine e_bin (e_bin (e_str (e_sub (e_str ?_))))
    refine e_bin ?_
    refine e_nm (by assumption) ?_
    refine e_int ?_
    with_reducible refine o_mod_int (by decide) ?_
    refine o_sub_str (c := signs10.getD (x.fmod 10).toNat 0) p0 (by omega) hs2 ?_
    generalize signs10.getD (x.fmod 10).toNat 0 = s at hs hs2
    rw [show (⟨#[s]⟩ : Str) = st [s] from rfl, e116]
    refine o_add_str (by rw [st_len, st_len]; show 2 ≤ _; decide) ?_
    rw [st_append]
    refine e_str ?_
    refine o_add_str (by rw [st_len, st_len]; show 3 ≤ _; decide) ?_
    rw [st_append]
    exact txt g0 (t8_10 hs)
theorem eGot : (Str.ofString "Header names/values must be of type str (got ").length = 45 := by decide +kernel
theorem eCls : (Str.ofString ")").length = 1 := by decide +kernel
theorem fault_spec (H : HF C cb) (F : FF C) {p : PV} {nm : Bool} {Q : PV → St → Prop} (hn : lv.hn = true) (hd : lv.d < 28) (ht : T8 σ.n σ.hp p)
    (h : ∀ σ' q, Grow σ σ' → σ'.loc = σ.loc → FltIs σ'.n σ'.hp (fltG nm p) q → Q q σ') : ACall C lv env (.ref F.faultA) [p, .str (alw nm)] [] σ Q X := by
  have hbi := H.bi
  refine a_f F.fault (by omega) (F.faultB _ _ _ _ _) ?_
  intro env' S hF
  generalize hτ0 : (⟨σ.n, σ.hp, locOf [("thing", p), ("allowed", PV.str (alw nm))] fun _ => none⟩ : St) = τ0
  have l1 : τ0.loc "thing" = some p := by rw [← hτ0]; rfl
  have l2 : τ0.loc "allowed" = some (.str (alw nm)) := by rw [← hτ0]; rfl
  have g0 : Grow σ τ0 := by rw [← hτ0]; exact ⟨Nat.le_refl _, fun _ _ => rfl⟩
  clear hτ0
  have fin : ∀ {τ : St} {q : PV}, Grow σ τ → FltIs τ.n τ.hp (fltG nm p) q → ∃ hp, (∀ i o, hp i = some o → τ.hp i = some o) ∧ Q q ⟨τ.n, hp, σ.loc⟩ := fun g f => ⟨_, fun i o e => e, h ⟨_, _, σ.loc⟩ _ ⟨g.n, g.hp⟩ rfl f⟩
  have fin2 : ∀ {τ : St}, fltG nm p = some ("AssertionError", [.str (gotW (wordsP p))]) → Grow σ τ → ∃ hp, (∀ i o, hp i = some o → (τ.alloc (.list [.str (Str.ofString "no text"), .str (gotW (wordsP p))])).hp i = some o) ∧ Q (.ref τ.n) ⟨τ.n + 1, hp, σ.loc⟩ := by
    intro τ hf g
    refine fin g.al ?_
    rw [hf]
    exact .yes (Nat.lt_succ_self _) (if_pos rfl) (got_cp (wordsP_cp _)) (.inr rfl)
  obtain ⟨ht, hnb, _⟩ := ht
  cases ht with
  | @str x h1 h2 =>
    refine ss_cons (s_if (t_not (t_val (e_call ?_))))
    refine e_b_isinstance (by assumption) (by assumption) ?_ (by decide +kernel)
    refine ⟨_, rfl, KeepV.builtin, ?_⟩
    refine al_cons ?_
    refine e_nm (by assumption) ?_
    refine al_cons ?_
    refine e_b_str (by assumption) (by assumption) ?_ (by decide +kernel)
    with_reducible refine al_nil ?_
    with_reducible refine ak_nil ?_
    with_reducible refine ac0 ?_
    refine isi_str (tr_bool ⟨nofun, fun _ => ?_⟩)
    refine ss_nil ⟨fun _ => ?_, fun q => absurd rfl q⟩
    refine ss_cons (s_for hn hF ?_)
    refine e_nm (v := .str (st x)) S ?_
    refine ⟨signs (st x), _, fun k τ => Grow σ τ ∧ τ.loc "allowed" = some (.str (alw nm)) ∧ (x.take k).any (tst nm) = false, it_str hn, ⟨g0, l2, rfl⟩, fun _ _ _ => trivial, ?_, ?_⟩
    · rintro k q τ hp ⟨g, la, hno⟩
      rw [signs_st, List.getElem?_map] at hp
      obtain ⟨c, hc, rfl⟩ := Option.map_eq_some_iff.mp hp
      have htake : x.take (k + 1) = x.take k ++ [c] := by rw [List.take_add_one, hc]; rfl
      have hany : (x.take (k + 1)).any (tst nm) = tst nm c := by rw [htake, List.any_append, hno]; simp
      refine a_nm S ?_
      have g3 : Grow σ (τ.set "sign" (.str (st [c]))) := g.set
      have ls3 : (τ.set "sign" (.str (st [c]))).loc "sign" = some (.str ⟨#[c]⟩) := rfl
      have la3 : (τ.set "sign" (.str (st [c]))).loc "allowed" = some (.str (alw nm)) := la
      generalize τ.set "sign" (.str (st [c])) = τ3 at g3 ls3 la3 ⊢
      clear g la hp τ
      refine ss_cons (s_if (t_mid (fun b τ' => b = tst nm c ∧ τ' = τ3) ?_ ?_))
      · rw [tst_iff]
        refine t_and (t_mid (fun b τ' => b = (decide (c < 32) || decide (c = 127)) ∧ τ' = τ3) ?_ ?_)
        · refine t_or (t_cmp (e_call ?_))
          refine e_b_ord (by assumption) (by assumption) ?_ (by decide +kernel)
          refine ⟨_, rfl, KeepV.builtin, ?_⟩
          refine al_cons ?_
          refine e_nm (by assumption) ?_
          with_reducible refine al_nil ?_
          with_reducible refine ak_nil ?_
          with_reducible refine ac0 ?_
          with_reducible refine c_ord ?_
          refine e_int ?_
          with_reducible refine o_lt_int ?_
          with_reducible refine tr_bool ?_
          refine ⟨fun h1 => ⟨?_, rfl⟩, fun h1 => ?_⟩
          · have := of_decide_eq_true h1
            simp only [show c < 32 from by omega, decide_true, Bool.true_or]
          · have h1' := of_decide_eq_false h1
            refine t_or (t_cmp (e_call ?_))
            refine e_b_ord (by assumption) (by assumption) ?_ (by decide +kernel)
            refine ⟨_, rfl, KeepV.builtin, ?_⟩
            refine al_cons ?_
            refine e_nm (by assumption) ?_
            with_reducible refine al_nil ?_
            with_reducible refine ak_nil ?_
            with_reducible refine ac0 ?_
            with_reducible refine c_ord ?_
            refine e_int ?_
            with_reducible refine o_eq_int ?_
            with_reducible refine tr_bool ?_
            refine ⟨fun h2 => ⟨?_, rfl⟩, fun h2 => t_or_nil ⟨?_, rfl⟩⟩
            · have h2' : (c : Int) = 127 := beq_iff_eq.mp h2
              simp only [show c = 127 from by omega, decide_true, Bool.or_true]
            · have h2' : ¬ (c : Int) = 127 := fun q => by rw [q] at h2; cases h2
              simp only [show ¬ c < 32 from by omega, show ¬ c = 127 from by omega, decide_false, Bool.or_false]
        · rintro b τ4 ⟨rfl, hτ4⟩
          obtain rfl := hτ4.symm
          refine ⟨fun hb => ?_, fun hb => ⟨by rw [hb]; rfl, rfl⟩⟩
          rw [hb, Bool.true_and]
          refine t_and (t_cmp (e_nm (v := .str ⟨#[c]⟩) S (e_nm (v := .str (alw nm)) S (o_notin_str ?_))))
          rw [alw_mem]
          exact tr_bool ⟨fun hb2 => t_and_nil ⟨hb2.symm, rfl⟩, fun hb2 => ⟨hb2.symm, rfl⟩⟩
      · rintro b τ4 ⟨rfl, hτ4⟩
        obtain rfl := hτ4.symm
        refine ⟨fun hb => ?_, fun hb => ss_nil ⟨fun _ => ss_nil ⟨g3, la3, by rw [hany, hb]⟩, fun q => absurd rfl q⟩⟩
        have hx : x.any (tst nm) = true := by
          rw [List.any_eq_true]
          exact ⟨c, List.mem_of_getElem? hc, hb⟩
        refine ss_ret (e_list ?_)
        refine al_cons ?_
        refine e_str ?_
        refine al_cons ?_
        refine e_str ?_
        with_reducible refine al_nil ?_
        refine ⟨Nat.le_of_ble_eq_true rfl, ?_⟩
        refine ⟨nofun, fun _ => ⟨nofun, fun _ => fin g3.al ?_⟩⟩
        rw [fltG_st, strFlt_t hx]
        exact .yes (Nat.lt_succ_self _) (if_pos rfl) (cpOk_of _) (.inl rfl)
    · rintro τ ⟨g, la, hno⟩
      rw [signs_st, List.length_map, List.take_length] at hno
      refine ss_nil ⟨fun _ => ss_ret (e_none (fin g ?_)), fun q => absurd rfl q⟩
      rw [fltG_st, strFlt_f hno]
      exact .no
  | none =>
    refine ss_cons (s_if (t_not (t_val (e_call ?_))))
    refine e_b_isinstance (by assumption) (by assumption) ?_ (by decide +kernel)
    refine ⟨_, rfl, KeepV.builtin, ?_⟩
    refine al_cons ?_
    refine e_nm (by assumption) ?_
    refine al_cons ?_
    refine e_b_str (by assumption) (by assumption) ?_ (by decide +kernel)
    with_reducible refine al_nil ?_
    with_reducible refine ak_nil ?_
    with_reducible refine ac0 ?_
    refine isi_none (by decide) PySem.F.isi_meta_str PySem.F.sub_NoneType_str (tr_bool ⟨fun _ => ?_, nofun⟩)
    refine ss_next (s_as S (e_if (t_val (e_call ?_))))
    refine e_b_isinstance (by assumption) (by assumption) ?_ (by decide +kernel)
    refine ⟨_, rfl, KeepV.builtin, ?_⟩
    refine al_cons ?_
    refine e_nm (by assumption) ?_
    refine al_cons ?_
    refine e_b_Exception (by assumption) (by assumption) ?_ (by decide +kernel)
    with_reducible refine al_nil ?_
    with_reducible refine ak_nil ?_
    with_reducible refine ac0 ?_
    refine isi_none (by decide) FB.meta_Exception FB.sub_none_Exc (tr_bool ⟨nofun, fun _ => e_call ?_⟩)
    refine e_b_str (by assumption) (by assumption) ?_ (by decide +kernel)
    refine ⟨_, rfl, KeepV.type, ?_⟩
    refine al_cons ?_
    refine e_nm (by assumption) ?_
    with_reducible refine al_nil ?_
    with_reducible refine ak_nil ?_
    with_reducible refine ac0 ?_
    refine c_str_none ⟨rfl, ?_⟩
    have hl : (Str.ofString "None").length ≤ 20 := by decide +kernel
    refine ss_ret (e_list (al_cons (e_str (al_cons (e_bin (e_bin (e_str (e_nm (v := .str (Str.ofString "None")) S ?_))))))))
    refine o_add_str (by rw [eGot]; omega) ?_
    refine e_str (o_add_str (by rw [Str.length_append, eGot, eCls]; omega) ?_)
    with_reducible refine al_nil ?_
    refine ⟨Nat.le_of_ble_eq_true rfl, ?_⟩
    exact ⟨nofun, fun _ => fin2 rfl g0.set⟩
  | @int a h1 =>
    have hl := num_len h1
    refine ss_cons (s_if (t_not (t_val (e_call ?_))))
    refine e_b_isinstance (by assumption) (by assumption) ?_ (by decide +kernel)
    refine ⟨_, rfl, KeepV.builtin, ?_⟩
    refine al_cons ?_
    refine e_nm (by assumption) ?_
    refine al_cons ?_
    refine e_b_str (by assumption) (by assumption) ?_ (by decide +kernel)
    with_reducible refine al_nil ?_
    with_reducible refine ak_nil ?_
    with_reducible refine ac0 ?_
    refine isi_int (by decide) PySem.F.isi_meta_str PySem.F.sub_int_str (tr_bool ⟨fun _ => ?_, nofun⟩)
    refine ss_next (s_as S (e_if (t_val (e_call ?_))))
    refine e_b_isinstance (by assumption) (by assumption) ?_ (by decide +kernel)
    refine ⟨_, rfl, KeepV.builtin, ?_⟩
    refine al_cons ?_
    refine e_nm (by assumption) ?_
    refine al_cons ?_
    refine e_b_Exception (by assumption) (by assumption) ?_ (by decide +kernel)
    with_reducible refine al_nil ?_
    with_reducible refine ak_nil ?_
    with_reducible refine ac0 ?_
    refine isi_int (by decide) FB.meta_Exception FB.sub_int_Exc (tr_bool ⟨nofun, fun _ => e_call ?_⟩)
    refine e_b_str (by assumption) (by assumption) ?_ (by decide +kernel)
    refine ⟨_, rfl, KeepV.type, ?_⟩
    refine al_cons ?_
    refine e_nm (by assumption) ?_
    with_reducible refine al_nil ?_
    with_reducible refine ak_nil ?_
    with_reducible refine ac0 ?_
    refine c_str_int (by omega) ⟨rfl, ?_⟩
    have lw : (τ0.set "written" (.str (Str.ofString (toString (a : Int))))).loc "written" = some (.str (Str.ofString (toString (a : Int)))) := rfl
    refine ss_ret (e_list (al_cons (e_str (al_cons (e_bin (e_bin (e_str (e_nm (v := .str (Str.ofString (toString (a : Int)))) S ?_))))))))
    refine o_add_str (by rw [eGot]; omega) ?_
    refine e_str (o_add_str (by rw [Str.length_append, eGot, eCls]; omega) ?_)
    with_reducible refine al_nil ?_
    refine ⟨Nat.le_of_ble_eq_true rfl, ?_⟩
    exact ⟨nofun, fun _ => fin2 rfl g0.set⟩
  | bytes => exact absurd rfl hnb
  | @exc i h1 h2 =>
    have hv : τ0.hp i = some excV := g0.get h1 h2
    refine ss_cons (s_if (t_not (t_val (e_call ?_))))
    refine e_b_isinstance (by assumption) (by assumption) ?_ (by decide +kernel)
    refine ⟨_, rfl, KeepV.builtin, ?_⟩
    refine al_cons ?_
    refine e_nm (by assumption) ?_
    refine al_cons ?_
    refine e_b_str (by assumption) (by assumption) ?_ (by decide +kernel)
    with_reducible refine al_nil ?_
    with_reducible refine ak_nil ?_
    with_reducible refine ac0 ?_
    refine isi_exc_f hv (by decide) PySem.F.isi_meta_str FB.sub_VE_str (tr_bool ⟨fun _ => ?_, nofun⟩)
    refine ss_next (s_as S (e_if (t_val (e_call ?_))))
    refine e_b_isinstance (by assumption) (by assumption) ?_ (by decide +kernel)
    refine ⟨_, rfl, KeepV.builtin, ?_⟩
    refine al_cons ?_
    refine e_nm (by assumption) ?_
    refine al_cons ?_
    refine e_b_Exception (by assumption) (by assumption) ?_ (by decide +kernel)
    with_reducible refine al_nil ?_
    with_reducible refine ak_nil ?_
    with_reducible refine ac0 ?_
    refine isi_exc_t (l := [.str (Str.ofString "v")]) hv (tr_bool ⟨fun _ => e_str ⟨rfl, ?_⟩, nofun⟩)
    have hl : (Str.ofString "ValueError('v')").length ≤ 20 := by decide +kernel
    refine ss_ret (e_list (al_cons (e_str (al_cons (e_bin (e_bin (e_str (e_nm (v := .str (Str.ofString "ValueError('v')")) S ?_))))))))
    refine o_add_str (by rw [eGot]; omega) ?_
    refine e_str (o_add_str (by rw [Str.length_append, eGot, eCls]; omega) ?_)
    with_reducible refine al_nil ?_
    refine ⟨Nat.le_of_ble_eq_true rfl, ?_⟩
    exact ⟨nofun, fun _ => fin2 rfl g0.set⟩
end
end L08
end Mine

set_option maxHeartbeats 2000000
namespace Mine
namespace L08
def msgL : Str := Str.ofString "Headers must be a list of name/value tuples"
structure NoL (C : Cx) (p : PV) (okp : (Nat → Option AO) → Prop) : Prop where
  nn : p.isNone = false
  no : ∀ w, p ≠ .obj w
  typ : ∃ T : String, (Value.type T == Value.type "list") = false ∧ ∀ (lv : Lv) (env : Env) (σ : St) (Q : PV → St → Prop) (X : String → List PV → St → Prop), okp σ.hp → Q (.obj (.type T)) σ → ACall C lv env (.type "type") [p] [] σ Q X
theorem nol_tup {C : Cx} (l : List PV) : NoL C (.tup l) (fun _ => True) := ⟨rfl, nofun, "tuple", by decide, fun _ _ _ _ _ _ h => c_type_tup h⟩
theorem nol_dict {C : Cx} (i : Nat) : NoL C (.ref i) (fun hp => ∃ l ep, hp i = some (.dict l ep)) := ⟨rfl, nofun, "dict", by decide, fun _ _ _ _ _ ⟨_, _, k⟩ h => c_type_dict k h⟩
theorem nol_str {C : Cx} (x : Str) : NoL C (.str x) (fun _ => True) := ⟨rfl, nofun, "str", by decide, fun _ _ _ _ _ _ h => c_type_str h⟩
theorem nol_bytes {C : Cx} (x : Array UInt8) : NoL C (.bytes x) (fun _ => True) := ⟨rfl, nofun, "bytes", by decide, fun _ _ _ _ _ _ h => c_type_bytes h⟩
theorem nol_int {C : Cx} (x : Int) : NoL C (.int x) (fun _ => True) := ⟨rfl, nofun, "int", by decide, fun _ _ _ _ _ _ h => c_type_int h⟩
theorem nol_bool {C : Cx} (x : Bool) : NoL C (.bool x) (fun _ => True) := ⟨rfl, nofun, "bool", by decide, fun _ _ _ _ _ _ h => c_type_bool h⟩
section
variable {C : Cx} {lv : Lv} {env : Env} {σ : St} {X : String → List PV → St → Prop}
theorem init_bad (H : HF C cb) {h : Nat} {p : PV} {okp : (Nat → Option AO) → Prop} {Q : PV → St → Prop} (hn : lv.hn = true) (hd : lv.d < 24) (b : NoL C p okp) (hok : okp σ.hp)
    (hb : ∀ σ', Grow σ σ' → σ'.loc = σ.loc → X "TypeError" [.str msgL] σ') : CCall C lv env (.ref H.init.a) [.ref h, p] [] σ Q X := by
  have hbi := H.bi
  obtain ⟨T, hT, typ⟩ := b.typ
  refine c_mX H.init.m (by omega) (H.initB _ _ _ _ _).toA rfl ?_
  intro env' S hF
  refine ss_next (s_as S (e_if (t_cmp (e_nm (v := p) S (e_none (o_isnot_none b.no ?_))))))
  rw [b.nn]
  refine tr_bool ⟨fun _ => e_nm (v := p) S ⟨rfl, ?_⟩, nofun⟩
  refine ss_cons (s_if (t_cmp (e_call ?_)))
  refine e_b_type (by assumption) (by assumption) ?_ (by decide +kernel)
  refine ⟨_, rfl, KeepV.type, ?_⟩
  refine al_cons ?_
  refine e_nm (by assumption) ?_
  with_reducible refine al_nil ?_
  with_reducible refine ak_nil ?_
  with_reducible refine ac0 ?_
  refine typ _ _ _ _ _ hok ?_
  refine e_b_list (by assumption) (by assumption) ?_ (by decide +kernel)
  refine o_isnot_type ?_
  rw [hT]
  refine tr_bool ⟨fun _ => ?_, nofun⟩
  refine ss_cons (s_raise PySem.F.excCall_TypeError PySem.F.excRaise_TypeError hn ?_)
  refine e_b_TypeError (by assumption) (by assumption) ?_ (by decide +kernel)
  refine ⟨rfl, ?_⟩
  refine al_cons ?_
  refine e_str ?_
  with_reducible refine al_nil ?_
  refine ⟨Nat.le_of_ble_eq_true rfl, ?_⟩
  exact ⟨_, fun i o e => e, hb _ ⟨Nat.le_refl _, fun _ _ => rfl⟩ rfl⟩
theorem make_bad (H : HF C cb) {p : PV} {okp : (Nat → Option AO) → Prop} {Q : PV → St → Prop} (hn : lv.hn = true) (hd : lv.d < 23) (b : NoL C p okp) (hok : ∀ σ', Grow σ σ' → okp σ'.hp)
    (hb : ∀ σ', Grow σ σ' → σ'.loc = σ.loc → X "TypeError" [.str msgL] σ') : ACall C lv env (.ref H.K) [p] [] σ Q X := by
  refine c_classX (by omega) H.cls.makes H.init.m.find H.init.m.typ ?_
  refine init_bad H (h := σ.n + 1) hn (by show lv.d + 1 < 24; omega) b (hok _ Grow.alloc.al) fun σ' g e => hb σ' ((Grow.alloc.al).trans g) e
theorem ss_con {st : List Stmt} {Q' Q : PFlow → St → Prop} (X' : String → List PV → St → Prop) (h : ASs C lv env st σ Q' X') (hq : ∀ fl τ, Q' fl τ → Q fl τ) (hx : ∀ c as τ, X' c as τ → X c as τ) : ASs C lv env st σ Q X := h.mono hq hx
theorem told_bad (H : HF C cb) (F : FF C) {p : PV} {okp : (Nat → Option AO) → Prop} {Q : PV → St → Prop} (hn : lv.hn = true) (hd : lv.d < 20) (b : NoL C p okp) (hok : ∀ σ' : St, (∀ i, i < σ.n → σ'.hp i = σ.hp i) → okp σ'.hp)
    (hg : ∀ σ' i, Grow σ σ' → σ'.loc = σ.loc → i < σ'.n → σ'.hp i = some (.list [.str (Str.ofString "no list"), .str msgL]) → Q (.ref i) σ') : ACall C lv env (.ref F.toldA) [p] [] σ Q X := by
  have hbi := H.bi
  refine a_f F.told (by omega) (F.toldB _ _ _ _) ?_
  intro env' S hF
  refine ss_cons (s_try hF (ss_con (Q' := fun _ _ => False) (fun c as τ => c = "TypeError" ∧ as = [.str msgL] ∧ Grow σ τ) ?_ (fun _ _ k => k.elim) ?_))
  · refine ss_cons (s_expr S.ok (e_call ?_))
    refine e_gl S H.glob ⟨_, rfl, .ref H.keep, ?_⟩
    refine al_cons (e_nm (v := p) S ?_)
    with_reducible refine al_nil ?_
    with_reducible refine ak_nil ?_
    with_reducible refine ac0 ?_
    exact make_bad H hn (by show lv.d + 1 < 23; omega) b (fun σ' g => hok σ' g.hp) fun σ' g _ => ⟨rfl, rfl, g.n, g.hp⟩
  · rintro c as τ ⟨rfl, rfl, g⟩
    refine h_as catch_TypeError sub_TT (by decide) S.ok (S.loc _ (by decide +kernel)) (e_b_TypeError S hbi ⟨rfl, rfl⟩) ?_
    refine ss_ret (e_list (al_cons (e_str (al_cons (e_call ?_)))))
    refine e_b_str (by assumption) (by assumption) ?_ (by decide +kernel)
    refine ⟨_, rfl, KeepV.type, ?_⟩
    refine al_cons ?_
    refine e_nm (by assumption) ?_
    with_reducible refine al_nil ?_
    with_reducible refine ak_nil ?_
    with_reducible refine ac0 ?_
    refine c_str_exc PySem.F.excStr_TypeError (m := msgL) (if_pos rfl) ?_
    with_reducible refine al_nil ?_
    refine ⟨Nat.le_of_ble_eq_true rfl, ?_⟩
    intro q
    refine ⟨nofun, fun _ => ⟨_, fun i o e => e, hg ⟨_, _, σ.loc⟩ (τ.n + 1) ?_ rfl (Nat.lt_succ_self _) (if_pos rfl)⟩⟩
    have k := g.trans ((Grow.alloc (o := .exc "TypeError" [.str msgL])).al (o := .list [.str (Str.ofString "no list"), .str msgL]))
    exact ⟨k.n, k.hp⟩
theorem first_r {n : Nat} {hp : Nat → Option AO} {l : List (PV × PV)} (ht : ∀ x ∈ l, T8 n hp x.1 ∧ T8 n hp x.2) {c : String} {as : List PV} (e : firstFlt fltG l = some (c, as)) : ∃ m, as = [.str m] ∧ cpOk m ∧ (c = "ValueError" ∨ c = "AssertionError") := by
  unfold firstFlt at e
  obtain ⟨x, hx, e⟩ := List.exists_of_findSome?_eq_some e
  obtain ⟨h1, h2⟩ := ht x hx
  have key : ∀ {nm : Bool} {p : PV}, T8 n hp p → fltG nm p = some (c, as) → ∃ m, as = [.str m] ∧ cpOk m ∧ (c = "ValueError" ∨ c = "AssertionError") := by
    intro nm p h e
    rcases fltG_r h.t nm with q | ⟨c', m, q, q1, q2⟩
    · rw [q] at e; cases e
    · rw [q] at e; cases e; exact ⟨m, rfl, q1, q2⟩
  cases hq : fltG true x.1 with
  | none => rw [hq] at e; exact key h2 e
  | some z => rw [hq] at e; exact key h1 (hq.trans e)
theorem told_list (H : HF C cb) (F : FF C) {L : Nat} {l : List (PV × PV)} {Q : PV → St → Prop} (hn : lv.hn = true) (hd : lv.d < 20) (hL : σ.hp L = some (.list (pairsPV l))) (hLn : L < σ.n) (hL0 : 0 < L) (ht : ∀ x ∈ l, T8 σ.n σ.hp x.1 ∧ T8 σ.n σ.hp x.2)
    (hg : ∀ σ' q, Grow σ σ' → σ'.loc = σ.loc → FltIs σ'.n σ'.hp (firstFlt fltG l) q → Q q σ') : ACall C lv env (.ref F.toldA) [.ref L] [] σ Q X := by
  have hbi := H.bi
  refine a_f F.told (by omega) (F.toldB _ _ _ _) ?_
  intro env' S hF
  have fin : ∀ {τ : St} {q : PV}, Grow σ τ → FltIs τ.n τ.hp (firstFlt fltG l) q → ∃ hp, (∀ i o, hp i = some o → τ.hp i = some o) ∧ Q q ⟨τ.n, hp, σ.loc⟩ := fun g f => ⟨_, fun i o e => e, hg ⟨_, _, σ.loc⟩ _ ⟨g.n, g.hp⟩ rfl f⟩
  have thp : ∀ {p : PV}, T8 σ.n σ.hp p → ∀ σ' : St, (∀ i, i < σ.n → σ'.hp i = σ.hp i) → THp σ'.hp p := by
    intro p h σ' g i e
    obtain ⟨h, _, _⟩ := h
    cases h with
    | exc h1 h2 => cases e; rw [g _ h1]; exact h2
    | _ => cases e
  refine ss_cons (s_try hF (ss_con (Q' := fun fl τ => fl = .next ∧ Grow σ τ ∧ firstFlt fltG l = none) (fun c as τ => Grow σ τ ∧ firstFlt fltG l = some (c, as)) ?_ ?_ ?_))
  · refine ss_cons (s_expr S.ok (e_call ?_))
    refine e_gl S H.glob ⟨_, rfl, .ref H.keep, ?_⟩
    refine al_cons (e_nm (v := .ref L) S ?_)
    with_reducible refine al_nil ?_
    with_reducible refine ak_nil ?_
    with_reducible refine ac0 ?_
    refine make_spec H (l := l) (flt := fltG) (ok := fun σ => ∀ x ∈ l, THp σ.hp x.1 ∧ THp σ.hp x.2) hn (by show lv.d + 1 < 23; omega) hL hLn hL0 ?_ ?_ ?_ ?_
    · intro x hx
      obtain ⟨h1, h2⟩ := ht x hx
      exact ⟨conv_imp (h1.t.conv H true) fun σ k => (k x hx).1, conv_imp (h2.t.conv H false) fun σ k => (k x hx).2⟩
    · intro σ' _ g x hx
      obtain ⟨h1, h2⟩ := ht x hx
      exact ⟨thp h1 σ' g, thp h2 σ' g⟩
    · intro e σ' gn gh _ _
      exact ⟨fun _ => ss_nil ⟨rfl, ⟨by have : σ.n + 2 ≤ σ'.n := gn; omega, gh⟩, e⟩, fun q => absurd rfl q⟩
    · intro c as e σ' gn gh _
      exact ⟨⟨by have : σ.n + 2 ≤ σ'.n := gn; omega, gh⟩, e⟩
  · rintro fl τ ⟨rfl, g, e⟩
    refine ⟨fun _ => ss_nil ⟨fun _ => ss_ret (e_none (fin g ?_)), fun q => absurd rfl q⟩, fun q => absurd rfl q⟩
    rw [e]; exact .no
  · rintro c as τ ⟨g, e⟩
    obtain ⟨m, rfl, hm, hcc⟩ := first_r ht e
    rcases hcc with rfl | rfl
    · refine h_skip catch_TypeError sub_VT (e_b_TypeError S hbi ⟨rfl, rfl⟩) ?_
      refine h_as catch_ValueError sub_VV (by decide) S.ok (S.loc _ (by decide +kernel)) (e_b_ValueError S hbi ⟨rfl, rfl⟩) ?_
      refine ss_ret (e_list (al_cons (e_str (al_cons (e_call ?_)))))
      refine e_b_str (by assumption) (by assumption) ?_ (by decide +kernel)
      refine ⟨_, rfl, KeepV.type, ?_⟩
      refine al_cons ?_
      refine e_nm (by assumption) ?_
      with_reducible refine al_nil ?_
      with_reducible refine ak_nil ?_
      with_reducible refine ac0 ?_
      refine c_str_exc PySem.F.excStr_ValueError (m := m) (if_pos rfl) ?_
      with_reducible refine al_nil ?_
      refine ⟨Nat.le_of_ble_eq_true rfl, ?_⟩
      intro q
      refine ⟨nofun, fun _ => fin (τ := (τ.alloc (.exc "ValueError" [.str m])).alloc (.list [.str (Str.ofString "refused"), .str m])) (g.trans Grow.alloc.al) ?_⟩
      rw [e]
      exact .yes (Nat.lt_succ_self _) (if_pos rfl) hm (.inl rfl)
    · refine h_skip catch_TypeError sub_AT (e_b_TypeError S hbi ⟨rfl, rfl⟩) ?_
      refine h_skip catch_ValueError sub_AV (e_b_ValueError S hbi ⟨rfl, rfl⟩) ?_
      refine h_as catch_AssertionError sub_AA (by decide) S.ok (S.loc _ (by decide +kernel)) (e_b_AssertionError S hbi ⟨rfl, rfl⟩) ?_
      refine ss_ret (e_list (al_cons (e_str (al_cons (e_call ?_)))))
      refine e_b_str (by assumption) (by assumption) ?_ (by decide +kernel)
      refine ⟨_, rfl, KeepV.type, ?_⟩
      refine al_cons ?_
      refine e_nm (by assumption) ?_
      with_reducible refine al_nil ?_
      with_reducible refine ak_nil ?_
      with_reducible refine ac0 ?_
      refine c_str_exc PySem.F.excStr_AssertionError (m := m) (if_pos rfl) ?_
      with_reducible refine al_nil ?_
      refine ⟨Nat.le_of_ble_eq_true rfl, ?_⟩
      intro q
      refine ⟨nofun, fun _ => fin (τ := (τ.alloc (.exc "AssertionError" [.str m])).alloc (.list [.str (Str.ofString "no text"), .str m])) (g.trans Grow.alloc.al) ?_⟩
      rw [e]
      exact .yes (Nat.lt_succ_self _) (if_pos rfl) hm (.inr rfl)
end
end L08
end Mine

set_option maxHeartbeats 4000000
namespace Mine
namespace L08
abbrev Flt := Option (String × List PV)
inductive FltsIs (n : Nat) (hp : Nat → Option AO) : List Flt → List PV → Prop
  | nil : FltsIs n hp [] []
  | cons {r : Flt} {p : PV} {rs : List Flt} {ps : List PV} : FltIs n hp r p → FltsIs n hp rs ps → FltsIs n hp (r :: rs) (p :: ps)
theorem FltsIs.mono {n n' : Nat} {hp hp' : Nat → Option AO} (hn : n ≤ n') (hh : ∀ i, i < n → ∀ t m, hp i = some (.list [.str t, .str m]) → hp' i = some (.list [.str t, .str m])) {rs : List Flt} {ps : List PV} (h : FltsIs n hp rs ps) : FltsIs n' hp' rs ps := by
  induction h with
  | nil => exact .nil
  | cons a _ ih => exact .cons (a.mono hn hh) ih
theorem FltsIs.grow {σ σ' : St} {rs : List Flt} {ps : List PV} (h : FltsIs σ.n σ.hp rs ps) (g : Grow σ σ') : FltsIs σ'.n σ'.hp rs ps := h.mono g.n fun i hi t m ho => g.get hi ho
theorem FltsIs.app {n : Nat} {hp : Nat → Option AO} {rs rs' : List Flt} {ps ps' : List PV} (h : FltsIs n hp rs ps) (k : FltsIs n hp rs' ps') : FltsIs n hp (rs ++ rs') (ps ++ ps') := by
  induction h with
  | nil => exact k
  | cons a _ ih => exact .cons a ih
theorem FltsIs.len {n : Nat} {hp : Nat → Option AO} {rs : List Flt} {ps : List PV} (h : FltsIs n hp rs ps) : ps.length = rs.length := by
  induction h with
  | nil => rfl
  | cons a _ ih => simp [ih]
theorem FltsIs.no2 {n : Nat} {hp : Nat → Option AO} {rs : List Flt} {ps : List PV} (h : FltsIs n hp rs ps) (t m : Str) : ps ≠ [.str t, .str m] := by
  rintro rfl
  cases h with
  | cons a _ => cases a
theorem FltsIs.noObj {n : Nat} {hp : Nat → Option AO} {rs : List Flt} {ps : List PV} (h : FltsIs n hp rs ps) : ∀ p ∈ ps, ∀ w, p ≠ .obj w := by
  induction h with
  | nil => nofun
  | cons a _ ih =>
    intro p hm
    rcases List.mem_cons.mp hm with rfl | q
    · exact a.noObj
    · exact ih p q
theorem FltsIs.filter {n : Nat} {hp : Nat → Option AO} {rs : List Flt} {ps : List PV} (h : FltsIs n hp rs ps) : FltsIs n hp (rs.filter fun r => r.isSome) (ps.filter fun p => !p.isNone) := by
  induction h with
  | nil => exact .nil
  | @cons r p rs ps a _ ih =>
    rw [List.filter_cons, List.filter_cons, a.iff]
    cases r with
    | none => exact ih
    | some z => exact .cons a ih
theorem FltsIs.pd {n : Nat} {hp : Nat → Option AO} {rs : List Flt} {ps : List PV} (h : FltsIs n hp rs ps) : PDL hp 1 ps (rs.map fltD) := by
  induction h with
  | nil => exact .nil
  | cons a _ ih => exact .cons a.pd ih
theorem fltD_none {n : Nat} {hp : Nat → Option AO} {r : Flt} {p : PV} (h : FltIs n hp r p) (ha : fltD r = .none) : r = none := by
  cases h with
  | no => rfl
  | yes h1 h2 h3 h4 => cases ha
abbrev Pr := PV × PV
def rowF (x : Pr) : List Flt := [fltG true x.1, fltG false x.2]
def okP (x : Pr) : Bool := (fltG true x.1).isNone && (fltG false x.2).isNone
def rsF (l : List Pr) : List Flt := (l.flatMap rowF).filter fun r => r.isSome
theorem rsF_snoc (l : List Pr) (x : Pr) : rsF (l ++ [x]) = rsF l ++ (rowF x).filter fun r => r.isSome := by
  unfold rsF
  rw [List.flatMap_append, List.filter_append]
  simp
theorem rsF_len (l : List Pr) : (rsF l).length ≤ 2 * l.length := by
  refine Nat.le_trans (List.length_filter_le _ _) ?_
  rw [List.length_flatMap]
  induction l with
  | nil => exact Nat.le_refl _
  | cons a r ih => simp only [List.map_cons, List.sum_cons, List.length_cons]; show 2 + _ ≤ _; omega
theorem rsF_first (l : List Pr) : firstFlt fltG l = ((rsF l).head?).getD none := by
  induction l with
  | nil => rfl
  | cons a r ih =>
    have e : rsF (a :: r) = ((rowF a).filter fun r => r.isSome) ++ rsF r := by unfold rsF; rw [List.flatMap_cons, List.filter_append]
    have e2 : firstFlt fltG (a :: r) = ((fltG true a.1).or (fltG false a.2)).or (firstFlt fltG r) := by
      unfold firstFlt
      rw [List.findSome?_cons]
      cases (fltG true a.1).or (fltG false a.2) <;> rfl
    rw [e, e2, ih]
    unfold rowF
    cases h1 : fltG true a.1 with
    | some z => rfl
    | none =>
      cases h2 : fltG false a.2 with
      | some z => rfl
      | none => rfl
theorem rsF_nil {l : List Pr} (h : rsF l = []) : firstFlt fltG l = none := by rw [rsF_first, h]; rfl
theorem pairs_snoc (l : List Pr) (a b : PV) : pairsPV (l ++ [(a, b)]) = pairsPV l ++ [.tup [a, b]] := by unfold pairsPV; rw [List.map_append]; rfl
theorem pairs_no (l : List Pr) (t m : Str) : AO.list (pairsPV l) ≠ .list [.str t, .str m] := by
  cases l with
  | nil => nofun
  | cons a r => nofun
theorem pairs_nx (l : List Pr) : AO.list (pairsPV l) ≠ excV := by unfold excV; nofun
structure PJ (ns : List Int) (P G FL : Nat) (lp lg : List Pr) (rs : List Flt) (τ : St) : Prop where
  hP : τ.hp P = some (.list (pairsPV lp))
  hG : τ.hp G = some (.list (pairsPV lg))
  hF : ∃ fl, τ.hp FL = some (.list fl) ∧ FltsIs τ.n τ.hp rs fl
  ts : ∀ x ∈ lp, T8 τ.n τ.hp x.1 ∧ T8 τ.n τ.hp x.2
  Pn : P < τ.n
  Gn : G < τ.n
  Fn : FL < τ.n
  P0 : 0 < P
  G0 : 0 < G
  F0 : 0 < FL
  PG : P ≠ G
  PF : P ≠ FL
  GF : G ≠ FL
  h0 : τ.hp 0 = some (.list (ns.map PV.int))
  ls : τ.loc "script" = some (.ref 0)
  lp : τ.loc "pairs" = some (.ref P)
  lg : τ.loc "good" = some (.ref G)
  lf : τ.loc "faults" = some (.ref FL)
section
variable {ns : List Int} {P G FL : Nat} {lp lg : List Pr} {rs : List Flt} {τ τ' : St}
theorem PJ.grow (x : PJ ns P G FL lp lg rs τ) (g : Grow τ τ') (e : τ'.loc = τ.loc) : PJ ns P G FL lp lg rs τ' := by
  obtain ⟨fl, h1, h2⟩ := x.hF
  have := x.Pn
  exact ⟨g.get x.Pn x.hP, g.get x.Gn x.hG, ⟨fl, g.get x.Fn h1, h2.grow g⟩, fun y hy => ⟨(x.ts y hy).1.grow g, (x.ts y hy).2.grow g⟩, Nat.lt_of_lt_of_le x.Pn g.n, Nat.lt_of_lt_of_le x.Gn g.n, Nat.lt_of_lt_of_le x.Fn g.n, x.P0, x.G0, x.F0, x.PG, x.PF, x.GF, g.get (by omega) x.h0, by rw [e]; exact x.ls, by rw [e]; exact x.lp, by rw [e]; exact x.lg, by rw [e]; exact x.lf⟩
theorem PJ.set {y : Str} {v : PV} (x : PJ ns P G FL lp lg rs τ) (n1 : ("script" : Str) ≠ y) (n2 : ("pairs" : Str) ≠ y) (n3 : ("good" : Str) ≠ y) (n4 : ("faults" : Str) ≠ y) : PJ ns P G FL lp lg rs (τ.set y v) :=
  ⟨x.hP, x.hG, x.hF, x.ts, x.Pn, x.Gn, x.Fn, x.P0, x.G0, x.F0, x.PG, x.PF, x.GF, x.h0, (if_neg n1).trans x.ls, (if_neg n2).trans x.lp, (if_neg n3).trans x.lg, (if_neg n4).trans x.lf⟩
theorem t8_upd {j : Nat} {o o' : AO} {p : PV} (h : T8 τ.n τ.hp p) (ho : τ.hp j = some o) (hne : o ≠ excV) : T8 τ.n (τ.upd j o').hp p := h.mono (Nat.le_refl _) fun i hi hio => by
  refine (if_neg ?_).trans hio
  rintro rfl
  rw [ho] at hio; exact hne (Option.some.inj hio)
theorem flts_upd {j : Nat} {o o' : AO} {rs : List Flt} {ps : List PV} (h : FltsIs τ.n τ.hp rs ps) (ho : τ.hp j = some o) (hne : ∀ t m : Str, o ≠ .list [.str t, .str m]) : FltsIs τ.n (τ.upd j o').hp rs ps := h.mono (Nat.le_refl _) fun i hi t m hio => by
  refine (if_neg ?_).trans hio
  rintro rfl
  rw [ho] at hio; exact hne _ _ (Option.some.inj hio)
theorem PJ.pushP {a b : PV} (x : PJ ns P G FL lp lg rs τ) (ha : T8 τ.n τ.hp a) (hb : T8 τ.n τ.hp b) : PJ ns P G FL (lp ++ [(a, b)]) lg rs (τ.upd P (.list (pairsPV lp ++ [.tup [a, b]]))) := by
  obtain ⟨fl, h1, h2⟩ := x.hF
  have hx := pairs_nx lp
  have up : ∀ {p : PV}, T8 τ.n τ.hp p → T8 τ.n (τ.upd P (.list (pairsPV lp ++ [.tup [a, b]]))).hp p := fun h => t8_upd h x.hP hx
  refine ⟨(if_pos rfl).trans (by rw [pairs_snoc]), (if_neg x.PG.symm).trans x.hG, ⟨fl, (if_neg x.PF.symm).trans h1, flts_upd h2 x.hP (pairs_no lp)⟩, fun y hy => ?_, x.Pn, x.Gn, x.Fn, x.P0, x.G0, x.F0, x.PG, x.PF, x.GF, (if_neg (Nat.ne_of_lt x.P0)).trans x.h0, x.ls, x.lp, x.lg, x.lf⟩
  rcases List.mem_append.mp hy with q | q
  · exact ⟨up (x.ts y q).1, up (x.ts y q).2⟩
  · rw [List.mem_singleton.mp q]; exact ⟨up ha, up hb⟩
theorem PJ.pushG {a b : PV} (x : PJ ns P G FL lp lg rs τ) : PJ ns P G FL lp (lg ++ [(a, b)]) rs (τ.upd G (.list (pairsPV lg ++ [.tup [a, b]]))) := by
  obtain ⟨fl, h1, h2⟩ := x.hF
  have hx := pairs_nx lg
  have up : ∀ {p : PV}, T8 τ.n τ.hp p → T8 τ.n (τ.upd G (.list (pairsPV lg ++ [.tup [a, b]]))).hp p := fun h => t8_upd h x.hG hx
  exact ⟨(if_neg x.PG).trans x.hP, (if_pos rfl).trans (by rw [pairs_snoc]), ⟨fl, (if_neg x.GF.symm).trans h1, flts_upd h2 x.hG (pairs_no lg)⟩, fun y hy => ⟨up (x.ts y hy).1, up (x.ts y hy).2⟩, x.Pn, x.Gn, x.Fn, x.P0, x.G0, x.F0, x.PG, x.PF, x.GF, (if_neg (Nat.ne_of_lt x.G0)).trans x.h0, x.ls, x.lp, x.lg, x.lf⟩
theorem PJ.pushF {fl fl' : List PV} {rs' : List Flt} (x : PJ ns P G FL lp lg rs τ) (h1 : τ.hp FL = some (.list fl)) (h2 : FltsIs τ.n τ.hp rs fl) (h3 : FltsIs τ.n τ.hp rs' fl') : PJ ns P G FL lp lg (rs ++ rs') (τ.upd FL (.list (fl ++ fl'))) := by
  have hno : ∀ t m : Str, AO.list fl ≠ .list [.str t, .str m] := fun t m e => h2.no2 t m (AO.list.inj e)
  have hx : AO.list fl ≠ excV := by unfold excV; nofun
  have up : ∀ {p : PV}, T8 τ.n τ.hp p → T8 τ.n (τ.upd FL (.list (fl ++ fl'))).hp p := fun h => t8_upd h h1 hx
  exact ⟨(if_neg x.PF).trans x.hP, (if_neg x.GF).trans x.hG, ⟨_, if_pos rfl, (flts_upd h2 h1 hno).app (flts_upd h3 h1 hno)⟩, fun y hy => ⟨up (x.ts y hy).1, up (x.ts y hy).2⟩, x.Pn, x.Gn, x.Fn, x.P0, x.G0, x.F0, x.PG, x.PF, x.GF, (if_neg (Nat.ne_of_lt x.F0)).trans x.h0, x.ls, x.lp, x.lg, x.lf⟩
end
theorem small63 (l : Nat) (h : l ≤ 63) : Builtin.Range.small 0 (l : Int) 1 = true := by
  have key : ∀ l : Fin 64, Builtin.Range.small 0 ((l : Nat) : Int) 1 = true := by decide +kernel
  exact key ⟨l, by omega⟩
section
variable {C : Cx} {lv : Lv} {env : Env} {σ : St} {X : String → List PV → St → Prop}
theorem loop1 (H : HF C cb) (F : FF C) {ns : List Int} {P G FL : Nat} (hlen : ns.length ≤ 63) (hn : lv.hn = true) (hlv : lv.d < 15) (S : Sc env (namesOf (stmtAt prog 10))) (hF : FrameOk lv env) (j : PJ ns P G FL [] [] [] σ) :
    AS C lv env ((bodyOf (stmtAt prog 10)).getD 3 (.Pass default)) σ (fun fl τ => fl = .next ∧ ∃ l, l.length = ns.length ∧ PJ ns P G FL l (l.filter okP) (rsF l) τ) X := by
  have hbi := H.bi
  refine s_for hn hF ?_
  have ls := j.ls
  refine e_call ?_
  refine e_b_range (by assumption) (by assumption) ?_ (by decide +kernel)
  refine ⟨_, rfl, KeepV.type, ?_⟩
  refine al_cons ?_
  refine e_call ?_
  refine e_b_len (by assumption) (by assumption) ?_ (by decide +kernel)
  refine ⟨_, rfl, KeepV.builtin, ?_⟩
  refine al_cons ?_
  refine e_nm (by assumption) ?_
  with_reducible refine al_nil ?_
  with_reducible refine ak_nil ?_
  with_reducible refine ac0 ?_
  refine c_len_list j.h0 (by rw [List.length_map]; omega) ?_
  rw [List.length_map]
  with_reducible refine al_nil ?_
  with_reducible refine ak_nil ?_
  with_reducible refine ac0 ?_
  refine c_range1 ?_
  refine ⟨intsFrom 0 ((ns.length : Int) - 0).toNat, _, fun k τ => ∃ l, l.length = k ∧ PJ ns P G FL l (l.filter okP) (rsF l) τ, it_range hn (if_pos rfl) (small63 _ hlen) (by omega), ⟨[], rfl, j.grow .alloc rfl⟩, fun _ _ _ => trivial, ?_, ?_⟩
  · clear ls j
    rintro k p τ hp ⟨l, hl, j⟩
    obtain ⟨hk, rfl⟩ : k < ns.length ∧ p = .int k := by
      unfold intsFrom at hp
      rw [List.getElem?_map] at hp
      obtain ⟨i', hi', rfl⟩ := Option.map_eq_some_iff.mp hp
      have hb := (List.getElem?_eq_some_iff.mp hi').1
      rw [List.length_range] at hb
      rw [List.getElem?_range hb] at hi'
      cases hi'
      exact ⟨by omega, by rw [Int.zero_add]⟩
    clear hp
    refine a_nm S ?_
    have j1 : PJ ns P G FL l (l.filter okP) (rsF l) (τ.set "i" (.int k)) := j.set (by decide +kernel) (by decide +kernel) (by decide +kernel) (by decide +kernel)
    have li : (τ.set "i" (.int k)).loc "i" = some (.int k) := rfl
    generalize τ.set "i" (.int k) = τ0 at j1 li ⊢
    clear j τ
    have hx : (ns.map PV.int)[(k : Int).toNat]? = some (.int ns[k]) := by rw [Int.toNat_natCast, List.getElem?_map, List.getElem?_eq_getElem hk]; rfl
    generalize ns[k] = x at hx
    have e9 : Str.ofString "\t" = alw false := by decide +kernel
    have e0 : Str.ofString "" = alw true := by decide +kernel
    -- name
    refine ss_mid (fun τ => PJ ns P G FL l (l.filter okP) (rsF l) τ ∧ τ.loc "i" = some (.int k) ∧ ∃ a, T8 τ.n τ.hp a ∧ τ.loc "name" = some a) (s_as S (e_call ?_)) ?_
    · have ls := j1.ls
      have h0 := j1.h0
      refine e_gl S F.thing.glob ⟨_, rfl, .ref F.thing.keep, ?_⟩
      refine al_cons (e_bin (e_sub (e_nm (v := .ref 0) S (e_nm (v := .int k) S ?_))))
      refine o_sub_list h0 (by omega) (by omega) hx ?_
      refine e_int ?_
      with_reducible refine o_mod_int (by decide) ?_
      refine al_cons ?_
      refine e_bin ?_
      refine e_int ?_
      refine e_nm (by assumption) ?_
      with_reducible refine o_add_int ?_
      refine al_cons ?_
      refine e_bin ?_
      refine e_sub ?_
      refine e_nm (by assumption) ?_
      refine e_nm (by assumption) ?_
      refine o_sub_list h0 (by omega) (by omega) hx ?_
      refine e_int ?_
      with_reducible refine o_div_int (by decide) (by decide) ?_
      with_reducible refine al_nil ?_
      with_reducible refine ak_nil ?_
      with_reducible refine ac0 ?_
      have m0 : 0 ≤ x.fmod 7 := Int.fmod_nonneg_of_pos _ (by decide)
      have m1 : x.fmod 7 < 7 := Int.fmod_lt_of_pos _ (by decide)
      obtain ⟨kd, hkd⟩ : ∃ w : Nat, (w : Int) = x.fmod 7 := ⟨(x.fmod 7).toNat, by omega⟩
      rw [← hkd, show (100 + (k : Int)) = ((100 + k : Nat) : Int) from by omega]
      refine thing_spec H F (kind := kd) (num := 100 + k) hn (by omega) (by omega) (by omega) fun τ2 q g2 e2 ht => ?_
      refine ⟨rfl, (j1.grow g2 e2).set (by decide +kernel) (by decide +kernel) (by decide +kernel) (by decide +kernel), ?_, q, ht, rfl⟩
      show τ2.loc "i" = _; rw [e2]; exact li
    clear j1 li τ0
    rintro τ0 ⟨j1, li, a, ha, la⟩
    -- value
    refine ss_mid (fun τ => PJ ns P G FL l (l.filter okP) (rsF l) τ ∧ T8 τ.n τ.hp a ∧ τ.loc "name" = some a ∧ ∃ b, T8 τ.n τ.hp b ∧ τ.loc "value" = some b) (s_as S (e_call ?_)) ?_
    · have ls := j1.ls
      have h0 := j1.h0
      refine e_gl S F.thing.glob ⟨_, rfl, .ref F.thing.keep, ?_⟩
      refine al_cons (e_bin (e_bin (e_sub (e_nm (v := .ref 0) S (e_nm (v := .int k) S ?_)))))
      refine o_sub_list h0 (by omega) (by omega) hx ?_
      refine e_int ?_
      with_reducible refine o_div_int (by decide) (by decide) ?_
      refine e_int ?_
      with_reducible refine o_mod_int (by decide) ?_
      refine al_cons ?_
      refine e_bin ?_
      refine e_int ?_
      refine e_nm (by assumption) ?_
      with_reducible refine o_add_int ?_
      refine al_cons ?_
      refine e_bin ?_
      refine e_sub ?_
      refine e_nm (by assumption) ?_
      refine e_nm (by assumption) ?_
      refine o_sub_list h0 (by omega) (by omega) hx ?_
      refine e_int ?_
      with_reducible refine o_div_int (by decide) (by decide) ?_
      with_reducible refine al_nil ?_
      with_reducible refine ak_nil ?_
      with_reducible refine ac0 ?_
      have m0 : 0 ≤ (x.fdiv 7).fmod 7 := Int.fmod_nonneg_of_pos _ (by decide)
      have m1 : (x.fdiv 7).fmod 7 < 7 := Int.fmod_lt_of_pos _ (by decide)
      obtain ⟨kd, hkd⟩ : ∃ w : Nat, (w : Int) = (x.fdiv 7).fmod 7 := ⟨((x.fdiv 7).fmod 7).toNat, by omega⟩
      rw [← hkd, show (200 + (k : Int)) = ((200 + k : Nat) : Int) from by omega]
      refine thing_spec H F (kind := kd) (num := 200 + k) hn (by omega) (by omega) (by omega) fun τ2 q g2 e2 ht => ?_
      refine ⟨rfl, (j1.grow g2 e2).set (by decide +kernel) (by decide +kernel) (by decide +kernel) (by decide +kernel), ha.grow g2.set, ?_, q, ht, rfl⟩
      show τ2.loc "name" = _; rw [e2]; exact la
    clear j1 li ha la τ0
    rintro τ0 ⟨j1, ha, la, b, hb, lb⟩
    -- own
    refine ss_mid (fun τ => PJ ns P G FL l (l.filter okP) (rsF l) τ ∧ (T8 τ.n τ.hp a ∧ τ.loc "name" = some a) ∧ (T8 τ.n τ.hp b ∧ τ.loc "value" = some b) ∧ ∃ O ol, τ.loc "own" = some (.ref O) ∧ P < O ∧ FL < O ∧ O < τ.n ∧ τ.hp O = some (.list ol) ∧ FltsIs τ.n τ.hp (rowF (a, b)) ol) (s_as S (e_list (al_cons (e_call ?_)))) ?_
    · refine e_gl S F.fault.glob ⟨_, rfl, .ref F.fault.keep, ?_⟩
      refine al_cons (e_nm (v := a) S ?_)
      refine al_cons ?_
      refine e_str ?_
      with_reducible refine al_nil ?_
      with_reducible refine ak_nil ?_
      with_reducible refine ac0 ?_
      rw [e0]
      refine fault_spec H F hn (by omega) ha fun τ2 q g2 e2 hq => ?_
      refine al_cons (e_call ?_)
      refine e_gl S F.fault.glob ⟨_, rfl, .ref F.fault.keep, ?_⟩
      have lb2 : τ2.loc "value" = some b := by rw [e2]; exact lb
      refine al_cons (e_nm (v := b) S ?_)
      refine al_cons ?_
      refine e_str ?_
      with_reducible refine al_nil ?_
      with_reducible refine ak_nil ?_
      with_reducible refine ac0 ?_
      rw [e9]
      refine fault_spec H F hn (by omega) (hb.grow g2) fun τ3 q' g3 e3 hq' => ?_
      with_reducible refine al_nil ?_
      refine ⟨Nat.le_of_ble_eq_true rfl, ?_⟩
      have g := (g2.trans g3).al (o := .list [q, q'])
      have hPn := j1.Pn
      have hFn := j1.Fn
      have hg23 := (g2.trans g3).n
      refine ⟨rfl, (((j1.grow g2 e2).grow g3 e3).grow .alloc rfl).set (by decide +kernel) (by decide +kernel) (by decide +kernel) (by decide +kernel), ⟨ha.grow g.set, ?_⟩, ⟨hb.grow g.set, ?_⟩, τ3.n, [q, q'], rfl, by omega, by omega, Nat.lt_succ_self _, if_pos rfl, .cons ((hq.grow g3).grow Grow.alloc.set) (.cons (hq'.grow Grow.alloc.set) .nil)⟩
      · show τ3.loc "name" = _; rw [e3, e2]; exact la
      · show τ3.loc "value" = _; rw [e3, e2]; exact lb
    clear j1 ha la hb lb τ0
    rintro τ0 ⟨j1, ⟨ha, la⟩, ⟨hb, lb⟩, O, ol, lo, hPO, hFO, hOn, hO, hos⟩
    -- pairs.append
    refine ss_mid (fun τ => PJ ns P G FL (l ++ [(a, b)]) (l.filter okP) (rsF l) τ ∧ τ.loc "name" = some a ∧ τ.loc "value" = some b ∧ τ.loc "own" = some (.ref O) ∧ O < τ.n ∧ τ.hp O = some (.list ol) ∧ FltsIs τ.n τ.hp (rowF (a, b)) ol) (s_expr S.ok (e_mcall ?_)) ?_
    · have lp := j1.lp
      refine e_nm (v := .ref P) S ⟨_, m_append j1.hP, .builtin, ?_⟩
      refine al_cons (e_tuple (al_cons (e_nm (v := a) S (al_cons (e_nm (v := b) S ?_)))))
      with_reducible refine al_nil ?_
      refine ⟨Nat.le_of_ble_eq_true rfl, ?_⟩
      with_reducible refine al_nil ?_
      with_reducible refine ak_nil ?_
      with_reducible refine ac0 ?_
      refine c_append j1.hP j1.P0 (by unfold pairsPV; rw [List.length_map]; omega) ⟨rfl, j1.pushP ha hb, la, lb, lo, hOn, (if_neg (by omega)).trans hO, flts_upd hos j1.hP (pairs_no l)⟩
    clear j1 ha la hb lb lo hOn hO hos τ0
    rintro τ0 ⟨j1, la, lb, lo, hOn, hO, hos⟩
    -- faults.extend
    refine ss_mid (fun τ => PJ ns P G FL (l ++ [(a, b)]) (l.filter okP) (rsF (l ++ [(a, b)])) τ ∧ τ.loc "name" = some a ∧ τ.loc "value" = some b ∧ τ.loc "own" = some (.ref O) ∧ O < τ.n ∧ τ.hp O = some (.list ol) ∧ FltsIs τ.n τ.hp (rowF (a, b)) ol) (s_expr S.ok (e_mcall ?_)) ?_
    · have lf := j1.lf
      obtain ⟨fl, hfl, hfs⟩ := j1.hF
      refine e_nm (v := .ref FL) S ⟨_, m_extend hfl, .builtin, ?_⟩
      refine al_cons (e_comp S hn (e_nm (v := .ref O) S ?_))
      have hol := hos.len
      refine comp_idx (l := ol) (ol.map fun p => if p.isNone = true then none else some p) (by rw [List.length_map]) (Nat.lt_of_le_of_lt (Nat.zero_le _) j1.Fn) (it_list hn hO) (fun τ' g => g.get hOn hO) (by rw [hol]; show 2 < 16777216; decide) ?_ ?_
      · intro cenv S' q p y hp hy τ g hfree
        rw [List.getElem?_map, hp] at hy
        have hy' : y = if p.isNone = true then none else some p := (Option.some.inj hy).symm
        have hno : ∀ w, p ≠ .obj w := hos.noObj p (List.mem_of_getElem? hp)
        refine a_nm S' (at_one (t_cmp (e_nm (v := p) S' (e_none (o_isnot_none hno (tr_bool ⟨fun hb => ?_, fun hb => ?_⟩))))))
        · rw [if_neg (by simpa using hb)] at hy'
          exact e_nm (v := p) S' ⟨hy', Grow.refl.set, fun z hz => if_neg (by rintro rfl; revert hz; decide +kernel)⟩
        · rw [if_pos (by simpa using hb)] at hy'
          exact ⟨hy', Grow.refl.set, fun z hz => if_neg (by rintro rfl; revert hz; decide +kernel)⟩
      · intro τ g hτ hlt hloc
        have hfe : (ol.map fun p => if p.isNone = true then none else some p).filterMap id = ol.filter fun p => !p.isNone := by
          clear hτ hO hos hol
          induction ol with
          | nil => rfl
          | cons a r ih =>
            rw [List.map_cons, List.filterMap_cons, List.filter_cons]
            cases ha : a.isNone with
            | true => simp only [if_true, id]; exact ih
            | false => simp only [Bool.false_eq_true, if_false, id, Bool.not_false, if_true]; rw [ih]
        rw [hfe] at hτ
        have j2 := j1.grow g hloc
        have hfs2 := hfs.grow g
        have hfl2 := g.get j1.Fn hfl
        have hos2 := hos.grow g
        have hll := hfs.len
        have hrl := rsF_len l
        have hol2 : (ol.filter fun p => !p.isNone).length ≤ ol.length := List.length_filter_le _ _
        have hor : (rowF (a, b)).length = 2 := rfl
        with_reducible refine al_nil ?_
        with_reducible refine ak_nil ?_
        with_reducible refine ac0 ?_
        refine c_extend hfl2 hτ j1.F0 (by omega) ⟨rfl, ?_, ?_, ?_, ?_, Nat.lt_of_lt_of_le hOn g.n, (if_neg (by omega)).trans (g.get hOn hO), ?_⟩
        · rw [rsF_snoc]
          exact j2.pushF hfl2 hfs2 hos2.filter
        · show τ.loc "name" = _; rw [hloc]; exact la
        · show τ.loc "value" = _; rw [hloc]; exact lb
        · show τ.loc "own" = _; rw [hloc]; exact lo
        · exact flts_upd hos2 hfl2 fun t m e => hfs2.no2 t m (AO.list.inj e)
    clear j1 la lb lo hOn hO hos τ0
    rintro τ0 ⟨j1, la, lb, lo, hOn, hO, hos⟩
    have hlf : (l ++ [(a, b)]).filter okP = l.filter okP ++ if okP (a, b) = true then [(a, b)] else [] := by
      rw [List.filter_append]
      congr 1
      cases h : okP (a, b) <;> simp [h]
    refine ss_cons (s_if (t_cmp (e_nm (v := .ref O) S (e_list ?_))))
    refine al_cons ?_
    refine e_none ?_
    refine al_cons ?_
    refine e_none ?_
    with_reducible refine al_nil ?_
    refine ⟨Nat.le_of_ble_eq_true rfl, ?_⟩
    have hO1 := (Grow.alloc (σ := τ0) (o := .list [.none, .none])).get hOn hO
    have hos1 := hos.grow (Grow.alloc (σ := τ0) (o := .list [.none, .none]))
    have j2 := j1.grow (Grow.alloc (σ := τ0) (o := .list [.none, .none])) rfl
    refine o_eqP (n := 2) (m := 2) (.list hO1 hos1.pd) (e := .list [.none, .none]) (.list (if_pos rfl) (.cons .none (.cons .none .nil))) (fun q => tr_bool ⟨fun _ => ?_, nofun⟩) (fun q => tr_bool ⟨nofun, fun _ => ss_nil ⟨fun _ => ss_nil ⟨l ++ [(a, b)], by rw [List.length_append, hl]; rfl, ?_⟩, fun q => absurd rfl q⟩⟩)
    · have hok : okP (a, b) = true := by
        have e := PyData.list.inj q
        have e1 := (List.cons.inj e).1
        have e2 := (List.cons.inj (List.cons.inj e).2).1
        unfold okP
        cases hos1 with
        | cons k1 hr =>
          cases hr with
          | cons k2 _ =>
            show ((fltG true a).isNone && (fltG false b).isNone) = true
            rw [fltD_none k1 e1, fltD_none k2 e2]
            rfl
      have lg := j2.lg
      refine ss_next (s_expr S.ok (e_mcall ?_))
      refine e_nm (v := .ref G) S ⟨_, m_append j2.hG, .builtin, ?_⟩
      refine al_cons (e_tuple (al_cons (e_nm (v := a) S (al_cons (e_nm (v := b) S ?_)))))
      with_reducible refine al_nil ?_
      refine ⟨Nat.le_of_ble_eq_true rfl, ?_⟩
      with_reducible refine al_nil ?_
      with_reducible refine ak_nil ?_
      with_reducible refine ac0 ?_
      have hgl : (l.filter okP).length ≤ l.length := List.length_filter_le _ _
      refine c_append j2.hG j2.G0 (by unfold pairsPV; rw [List.length_map]; omega) ⟨rfl, ss_nil ⟨fun _ => ss_nil ⟨l ++ [(a, b)], by rw [List.length_append, hl]; rfl, ?_⟩, fun q => absurd rfl q⟩⟩
      rw [hlf, if_pos hok]
      exact j2.pushG
    · have hok : ¬ (okP (a, b) = true) := by
        intro h
        apply q
        unfold okP at h
        rw [Bool.and_eq_true, Option.isNone_iff_eq_none, Option.isNone_iff_eq_none] at h
        show PyData.list [fltD (fltG true a), fltD (fltG false b)] = _
        rw [show fltG true a = none from h.1, show fltG false b = none from h.2]; rfl
      rw [hlf, if_neg hok, List.append_nil]
      exact j2
  · rintro τ ⟨l, hl, x⟩
    refine ss_nil ⟨rfl, l, ?_, x⟩
    rw [hl]
    unfold intsFrom
    rw [List.length_map, List.length_range]; omega
end
end L08
end Mine

set_option maxHeartbeats 4000000
namespace Mine
namespace L08
def hdD (x : Hd) : PyData := .tuple [.str (st x.1), .str (st x.2)]
structure RowOk (x : Hd) : Prop where
  n : x.1 ∈ texts8
  v : x.2 ∈ texts8
  fn : strFlt true x.1 = none
  fv : strFlt false x.2 = none
theorem okP_hd {n : Nat} {hp : Nat → Option AO} {x : Pr} (h1 : T8 n hp x.1) (h2 : T8 n hp x.2) (h : okP x = true) : ∃ y : Hd, x = hdP y ∧ RowOk y := by
  unfold okP at h
  rw [Bool.and_eq_true, Option.isNone_iff_eq_none, Option.isNone_iff_eq_none] at h
  have e1 := fltG_txt true x.1 h.1
  have e2 := fltG_txt false x.2 h.2
  refine ⟨(txt x.1, txt x.2), ?_, h1.tx _ e1, h2.tx _ e2, ?_, ?_⟩
  · obtain ⟨a, b⟩ := x
    show (a, b) = (PV.str (st (txt a)), PV.str (st (txt b)))
    rw [← e1, ← e2]
  · have := h.1; rw [e1, fltG_st] at this; exact this
  · have := h.2; rw [e2, fltG_st] at this; exact this
theorem good_hds {n : Nat} {hp : Nat → Option AO} : ∀ {l : List Pr}, (∀ x ∈ l, T8 n hp x.1 ∧ T8 n hp x.2) → ∃ R : List Hd, l.filter okP = R.map hdP ∧ (∀ x ∈ R, RowOk x) ∧ R.length ≤ l.length
  | [], _ => ⟨[], rfl, nofun, Nat.le_refl _⟩
  | a :: r, h => by
    obtain ⟨R, e, hR, hl⟩ := good_hds (l := r) fun x hx => h x (List.mem_cons_of_mem _ hx)
    rw [List.filter_cons]
    cases hq : okP a with
    | true =>
      obtain ⟨y, hy, hyo⟩ := okP_hd (h a List.mem_cons_self).1 (h a List.mem_cons_self).2 hq
      refine ⟨y :: R, by rw [if_pos rfl, e, hy]; rfl, fun x hx => ?_, Nat.succ_le_succ hl⟩
      rcases List.mem_cons.mp hx with rfl | q
      · exact hyo
      · exact hR x q
    | false => exact ⟨R, by rw [if_neg (by decide), e], hR, Nat.le_succ_of_le hl⟩
theorem R_none {R : List Hd} (h : ∀ x ∈ R, RowOk x) : firstFlt flt (R.map hdP) = none := by
  unfold firstFlt
  rw [List.findSome?_eq_none_iff]
  intro y hy
  obtain ⟨x, hx, rfl⟩ := List.mem_map.mp hy
  have := h x hx
  show (flt true (.str (st x.1))).or (flt false (.str (st x.2))) = none
  rw [flt_st, flt_st, this.fn, this.fv]; rfl
theorem drop_R {R : List Hd} (h : ∀ x ∈ R, RowOk x) : dropN R byT = R := by
  unfold dropN
  rw [List.filter_eq_self]
  intro x hx
  have := (texts8_chk _ (h x hx).n).2.1
  simpa using this
def ByT : List Nat := [66, 121, 32, 116, 97, 98, 108, 101]
def ByH : List Nat := [66, 121, 32, 104, 97, 110, 100]
theorem pd_R {hp : Nat → Option AO} {i : Nat} {R : List Hd} (hR : ∀ x ∈ R, (∀ c ∈ x.1, c < 0x110000) ∧ ∀ c ∈ x.2, c < 0x110000) (h : hp i = some (.list (R.map hdPV))) : PD hp 2 (.ref i) (.list (R.map hdD)) := .list h (.map fun x hx => .tup (.cons (.str (.st (hR x hx).1)) (.cons (.str (.st (hR x hx).2)) .nil)))
theorem R_cp {R : List Hd} (h : ∀ x ∈ R, RowOk x) : ∀ x ∈ R ++ [(ByT, [49]), (ByH, [50])], (∀ c ∈ x.1, c < 0x110000) ∧ ∀ c ∈ x.2, c < 0x110000 := by
  intro x hx
  rcases List.mem_append.mp hx with q | q
  · exact ⟨(texts8_chk _ (h x q).n).2.2.2, (texts8_chk _ (h x q).v).2.2.2⟩
  · simp only [List.mem_cons, List.not_mem_nil, or_false] at q
    rcases q with rfl | rfl <;> exact ⟨by decide, by decide⟩
theorem pf_pairs {n : Nat} {hp : Nat → Option AO} {l : List Pr} (h : ∀ x ∈ l, T8 n hp x.1 ∧ T8 n hp x.2) : ∀ p ∈ pairsPV l, PF1 p = true := by
  have key : ∀ {p : PV}, T8 n hp p → PFlat p = true := by
    intro p ⟨ht, hnb, _⟩
    cases ht with
    | bytes => exact absurd rfl hnb
    | _ => rfl
  intro p hp'
  obtain ⟨x, hx, rfl⟩ := List.mem_map.mp hp'
  show ([x.1, x.2] : List PV).all PFlat = true
  simp [key (h x hx).1, key (h x hx).2]
def NoLs (C : Cx) (τ : St) (p : PV) : Prop := ∃ okp, NoL C p okp ∧ ∀ τ' : St, (∀ i, i < τ.n → τ'.hp i = τ.hp i) → okp τ'.hp
theorem NoLs.grow {C : Cx} {τ τ' : St} {p : PV} (h : NoLs C τ p) (g : Grow τ τ') : NoLs C τ' p := by
  obtain ⟨okp, h1, h2⟩ := h
  exact ⟨okp, h1, fun τ2 h => h2 τ2 fun i hi => (h i (Nat.lt_of_lt_of_le hi g.n)).trans (g.hp i hi)⟩
theorem nols {C : Cx} {τ : St} {p : PV} (h : NoL C p fun _ => True) : NoLs C τ p := ⟨_, h, fun _ _ => trivial⟩
theorem nols_dict {C : Cx} {τ : St} {i : Nat} (hi : i < τ.n) (h : ∃ l ep, τ.hp i = some (.dict l ep)) : NoLs C τ (.ref i) := by
  obtain ⟨l, ep, h⟩ := h
  exact ⟨_, nol_dict i, fun τ' k => ⟨l, ep, (k i hi).trans h⟩⟩
section
variable {C : Cx} {lv : Lv} {env : Env} {σ : St} {X : String → List PV → St → Prop}
theorem law1 (H : HF C cb) (F : FF C) {ns : List Int} {P G FL : Nat} {l : List Pr} (hll : l.length ≤ 63) (hn : lv.hn = true) (hlv : lv.d < 15) (S : Sc env (namesOf (stmtAt prog 10))) (hF : FrameOk lv env) (j : PJ ns P G FL l (l.filter okP) (rsF l) σ) {Q : PFlow → St → Prop}
    (hq : ∀ τ, PJ ns P G FL l (l.filter okP) (rsF l) τ → ASs C lv env ((bodyOf (stmtAt prog 10)).drop 7) τ Q X) :
    ASs C lv env ((bodyOf (stmtAt prog 10)).drop 4) σ Q X := by
  have hbi := H.bi
  have hpl : (pairsPV l).length ≤ 63 := by unfold pairsPV; rw [List.length_map]; exact hll
  -- before
  refine ss_mid (fun τ => PJ ns P G FL l (l.filter okP) (rsF l) τ ∧ ∃ Bf, τ.loc "before" = some (.ref Bf) ∧ Bf < τ.n ∧ τ.hp Bf = some (.list (pairsPV l))) (s_as S ?_) ?_
  · have lp := j.lp
    refine e_slice (e_nm (v := .ref P) S ?_)
    refine ap_none ?_
    refine ap_none ?_
    refine sl_list j.hP .none .none (by omega) ?_
    rw [cut_all]
    exact ⟨rfl, (j.grow .alloc rfl).set (by decide +kernel) (by decide +kernel) (by decide +kernel) (by decide +kernel), σ.n, rfl, Nat.lt_succ_self _, if_pos rfl⟩
  clear j
  rintro τ0 ⟨j0, Bf, lb, hBn, hB⟩
  refine ss_mid (fun τ => PJ ns P G FL l (l.filter okP) (rsF l) τ) (s_if (t_or (t_cmp (e_call ?_)))) ?_
  · refine e_gl S F.told.glob ⟨_, rfl, .ref F.told.keep, ?_⟩
    have lp := j0.lp
    refine al_cons (e_nm (v := .ref P) S ?_)
    with_reducible refine al_nil ?_
    with_reducible refine ak_nil ?_
    with_reducible refine ac0 ?_
    refine told_list H F hn (by omega) j0.hP j0.Pn j0.P0 j0.ts fun τ2 q g2 e2 hq2 => ?_
    have j2 := j0.grow g2 e2
    have lb2 : τ2.loc "before" = some (.ref Bf) := by rw [e2]; exact lb
    have hB2 := g2.get hBn hB
    have hBn2 := Nat.lt_of_lt_of_le hBn g2.n
    have lf2 := j2.lf
    obtain ⟨fl, hfl, hfs⟩ := j2.hF
    refine e_if (t_cmp (e_nm (v := .ref FL) S (e_list (al_nil ⟨by decide, ?_⟩))))
    have g3 : Grow τ2 (τ2.alloc (.list [])) := .alloc
    have j3 := j2.grow g3 rfl
    have hq3 := hq2.grow g3
    have hB3 := g3.get hBn2 hB2
    have hfl3 := g3.get j2.Fn hfl
    have hfs3 := hfs.grow g3
    have lb3 : (τ2.alloc (.list [])).loc "before" = some (.ref Bf) := lb2
    have hnew : (τ2.alloc (.list [])).hp τ2.n = some (.list []) := if_pos rfl
    generalize τ2.alloc (.list []) = τ3 at j3 hq3 hB3 hfl3 hfs3 lb3 hnew ⊢
    refine o_neP (n := 2) (m := 2) (.list hfl3 hfs3.pd) (e := .list []) (.list hnew .nil) (fun q => tr_bool ⟨nofun, fun _ => ?_⟩) (fun q => tr_bool ⟨fun _ => ?_, nofun⟩)
    · have hr : rsF l = [] := by
        have := PyData.list.inj q
        exact List.map_eq_nil_iff.mp this
      refine e_none ?_
      refine o_neP (n := 2) (m := 1) hq3.pd (e := .none) .none (fun _ => tr_bool ⟨nofun, fun _ => ?_⟩) (fun q => absurd (by rw [rsF_nil hr]; rfl) q)
      have lp3 := j3.lp
      refine t_or (t_cmp (e_nm (v := .ref P) S (e_nm (v := .ref Bf) S (o_ne_same j3.hP hB3 (pf_pairs j3.ts) (tr_bool ⟨nofun, fun _ => ?_⟩)))))
      exact t_or_nil ⟨nofun, fun _ => ss_nil ⟨rfl, j3⟩⟩
    · obtain ⟨r0, rr, hr⟩ : ∃ r0 rr, rsF l = r0 :: rr := by
        cases hr : rsF l with
        | nil => rw [hr] at q; exact absurd rfl q
        | cons a r => exact ⟨a, r, rfl⟩
      have hff : firstFlt fltG l = r0 := by rw [rsF_first, hr]; rfl
      rw [hr] at hfs3
      cases hfs3 with
      | @cons _ p0 _ ps0 k0 _ =>
        have lf3 := j3.lf
        refine e_sub (e_nm (v := .ref FL) S (e_int (o_sub_list (p := p0) hfl3 (by decide) (by decide) rfl ?_)))
        refine o_neP (n := 2) (m := 2) hq3.pd k0.pd (fun _ => tr_bool ⟨nofun, fun _ => ?_⟩) (fun q => absurd (by rw [hff]) q)
        have lp3 := j3.lp
        refine t_or (t_cmp (e_nm (v := .ref P) S (e_nm (v := .ref Bf) S (o_ne_same j3.hP hB3 (pf_pairs j3.ts) (tr_bool ⟨nofun, fun _ => ?_⟩)))))
        exact t_or_nil ⟨nofun, fun _ => ss_nil ⟨rfl, j3⟩⟩
  clear j0 lb hBn hB τ0
  rintro τ0 j0
  refine ss_mid (fun τ => PJ ns P G FL l (l.filter okP) (rsF l) τ) (s_for hn hF ?_) hq
  have lp0 := j0.lp
  refine e_list (al_cons (e_call ?_))
  refine e_b_tuple (by assumption) (by assumption) ?_ (by decide +kernel)
  refine ⟨_, rfl, KeepV.type, ?_⟩
  refine al_cons ?_
  refine e_nm (by assumption) ?_
  with_reducible refine al_nil ?_
  with_reducible refine ak_nil ?_
  with_reducible refine ac0 ?_
  refine c_tuple j0.hP (by omega) ?_
  refine al_cons (e_tuple (al_nil ⟨by decide, ?_⟩))
  refine al_cons (e_dict0 ?_)
  refine al_cons (e_dict1 (Nat.succ_pos _) fun ep => ?_)
  have g0 : Grow τ0 (((τ0.alloc (.dict [] 0)).alloc (.dict [] 0)).upd (τ0.alloc (.dict [] 0)).n (.dict [(Str.ofString "a", .str (Str.ofString "b"))] ep)) :=
    ⟨Nat.le_succ_of_le (Nat.le_succ _), fun i hi => (if_neg (by show i ≠ τ0.n + 1; omega)).trans ((Grow.alloc.al).hp i hi)⟩
  have j1 := j0.grow g0 rfl
  have d0 : NoLs C (((τ0.alloc (.dict [] 0)).alloc (.dict [] 0)).upd (τ0.alloc (.dict [] 0)).n (.dict [(Str.ofString "a", .str (Str.ofString "b"))] ep)) (.ref τ0.n) := nols_dict (by show τ0.n < τ0.n + 1 + 1; omega) ⟨_, _, (if_neg (by show τ0.n ≠ τ0.n + 1; omega)).trans ((if_neg (by show τ0.n ≠ τ0.n + 1; omega)).trans (if_pos rfl))⟩
  have d1 : NoLs C (((τ0.alloc (.dict [] 0)).alloc (.dict [] 0)).upd (τ0.alloc (.dict [] 0)).n (.dict [(Str.ofString "a", .str (Str.ofString "b"))] ep)) (.ref (τ0.alloc (.dict [] 0)).n) := nols_dict (by show τ0.n + 1 < τ0.n + 1 + 1; omega) ⟨_, _, if_pos rfl⟩
  generalize ((τ0.alloc (.dict [] 0)).alloc (.dict [] 0)).upd (τ0.alloc (.dict [] 0)).n (.dict [(Str.ofString "a", .str (Str.ofString "b"))] ep) = τ1 at g0 j1 d0 d1 ⊢
  generalize (τ0.alloc (.dict [] 0)).n = D1 at d1 ⊢
  generalize τ0.n = D0 at d0 ⊢
  clear lp0 j0 g0 τ0
  refine al_cons ?_
  refine e_str ?_
  refine al_cons ?_
  refine e_str ?_
  refine al_cons ?_
  refine e_bytes ?_
  refine al_cons ?_
  refine e_int ?_
  refine al_cons ?_
  refine e_bool ?_
  refine al_cons ?_
  refine e_int ?_
  with_reducible refine al_nil ?_
  refine ⟨Nat.le_of_ble_eq_true rfl, ?_⟩
  have gA : Grow τ1 (τ1.alloc (.list [.tup (pairsPV l), .tup [], .ref D0, .ref D1, .str (Str.ofString ""), .str (Str.ofString "ab"), .bytes #[], .int 0, .bool false, .int 5])) := .alloc
  refine ⟨[.tup (pairsPV l), .tup [], .ref D0, .ref D1, .str (Str.ofString ""), .str (Str.ofString "ab"), .bytes #[], .int 0, .bool false, .int 5], _, fun k τ => PJ ns P G FL l (l.filter okP) (rsF l) τ ∧ NoLs C τ (.ref D0) ∧ NoLs C τ (.ref D1) ∧ τ1.n < τ.n ∧ τ.hp τ1.n = some (.list [.tup (pairsPV l), .tup [], .ref D0, .ref D1, .str (Str.ofString ""), .str (Str.ofString "ab"), .bytes #[], .int 0, .bool false, .int 5]), it_list hn (if_pos rfl), ⟨j1.grow gA rfl, d0.grow gA, d1.grow gA, Nat.lt_succ_self _, if_pos rfl⟩, fun k τ x => x.2.2.2.2, ?_, fun τ x => ss_nil ⟨rfl, x.1⟩⟩
  clear j1 d0 d1 gA
  rintro k p τ hp ⟨j1, d0, d1, hTn, hT⟩
  have hno : NoLs C τ p := by
    have := List.mem_of_getElem? hp
    simp only [List.mem_cons, List.not_mem_nil, or_false] at this
    rcases this with rfl | rfl | rfl | rfl | rfl | rfl | rfl | rfl | rfl | rfl
    · exact nols (nol_tup _)
    · exact nols (nol_tup _)
    · exact d0
    · exact d1
    · exact nols (nol_str _)
    · exact nols (nol_str _)
    · exact nols (nol_bytes _)
    · exact nols (nol_int _)
    · exact nols (nol_bool _)
    · exact nols (nol_int _)
  clear hp
  refine a_nm S ?_
  have g0 : Grow τ (τ.set "other" p) := Grow.refl.set
  have j2 : PJ ns P G FL l (l.filter okP) (rsF l) (τ.set "other" p) := j1.set (by decide +kernel) (by decide +kernel) (by decide +kernel) (by decide +kernel)
  have lo2 : (τ.set "other" p).loc "other" = some p := rfl
  have hno2 := hno.grow g0
  have d02 := d0.grow g0
  have d12 := d1.grow g0
  have hTn2 : τ1.n < (τ.set "other" p).n := hTn
  have hT2 : (τ.set "other" p).hp τ1.n = _ := hT
  generalize τ.set "other" p = τ2 at j2 lo2 hno2 d02 d12 hTn2 hT2 ⊢
  clear j1 d0 d1 hTn hT hno g0 τ
  obtain ⟨okp, b, hok⟩ := hno2
  refine ss_cons (s_if (t_cmp (e_call ?_)))
  refine e_gl S F.told.glob ⟨_, rfl, .ref F.told.keep, ?_⟩
  refine al_cons (e_nm (v := p) S ?_)
  with_reducible refine al_nil ?_
  with_reducible refine ak_nil ?_
  with_reducible refine ac0 ?_
  refine told_bad H F hn (by omega) b hok fun τ3 i g3 e3 hi hv => ?_
  refine e_list ?_
  refine al_cons ?_
  refine e_str ?_
  refine al_cons ?_
  refine e_str ?_
  with_reducible refine al_nil ?_
  refine ⟨Nat.le_of_ble_eq_true rfl, ?_⟩
  have g4 : Grow τ3 (τ3.alloc (.list [.str (Str.ofString "no list"), .str (Str.ofString "Headers must be a list of name/value tuples")])) := .alloc
  refine o_neP (n := 1) (m := 1) (.list (g4.get hi hv) (.cons (.str (cpOk_of _)) (.cons (.str (cpOk_of _)) .nil))) (.list (if_pos rfl) (.cons (.str (cpOk_of _)) (.cons (.str (cpOk_of _)) .nil))) (fun _ => tr_bool ⟨nofun, fun _ => ?_⟩) (fun q => absurd rfl q)
  have g := g3.trans g4
  exact ss_nil ⟨fun _ => ss_nil ⟨j2.grow g (by show τ3.loc = _; exact e3), d02.grow g, d12.grow g, Nat.lt_of_lt_of_le hTn2 g.n, g.get hTn2 hT2⟩, fun q => absurd rfl q⟩
end
end L08
end Mine

set_option maxHeartbeats 4000000
namespace Mine
namespace L08
theorem low_byT : low ByT = byT := by decide +kernel
theorem conv_t {C : Cx} (H : HF C cb) (nm : Bool) {t : List Nat} (hl : t.length ≤ 12) (h : strFlt nm t = none) : Conv C H nm (.str (st t)) none (fun _ => True) := by
  rw [← h]; exact conv_strC H (by omega) _
section
variable {C : Cx} {lv : Lv} {env : Env} {σ : St} {X : String → List PV → St → Prop}
theorem put_spec (H : HF C cb) {h d L : Nat} {R : List Hd} {n y v : List Nat} {Q : PV → St → Prop} (hn : lv.hn = true) (hd : lv.d < 22) (hs : HS H.K σ h d L 1) (hL : σ.hp L = some (.list (R.map hdPV))) (hR : ∀ x ∈ R, RowOk x) (hRl : R.length ≤ 1000)
    (hy : low n = y) (hyl : y.length ≤ 12) (hnl : n.length ≤ 12) (hvl : v.length ≤ 12) (hn1 : strFlt true n = none) (hy1 : strFlt true y = none) (hv1 : strFlt false v = none) (hdr : dropN R y = R)
    (hg : ∀ σ', GrowX L σ σ' → σ'.loc = σ.loc → σ'.hp L = some (.list ((R ++ [(n, v)]).map hdPV)) → Q .none σ') : ACall C lv env (.ref H.setitem.a) [.ref h, .str (st n), .str (st v)] [] σ Q X := by
  subst hy
  refine set_spec H (r := none) (rN := none) (rV := none) (ok := fun _ => True) (y := low n) hn hd hs hL (low_str (by omega)) (conv_t H true hyl hy1) (conv_t H true hnl hn1) (conv_t H false hvl hv1) (fun _ _ => trivial) (fun _ => rfl) (fun x hx => by have := (texts8_chk _ (hR x hx).n).1; omega) (by omega) (fun _ _ _ τ2 g2 e2 hL2 => ?_) nofun (fun _ => nofun) (fun _ _ => nofun)
  rw [hdr] at hL2
  refine hg τ2 g2 e2 (hL2.trans ?_)
  rw [List.map_append]; rfl
theorem law_spec (H : HF C cb) (F : FF C) {ns : List Int} {env : Env} (hlen : ns.length ≤ 63) (S : Sc env (namesOf (stmtAt prog 10))) (hF : FrameOk ⟨1, true, [env]⟩ env) :
    ASs C ⟨1, true, [env]⟩ env (bodyOf (stmtAt prog 10)) ⟨1, fun i => if i = 0 then some (.list (ns.map PV.int)) else none, locOf [("script", .ref 0)] fun _ => none⟩ (fun fl _ => fl = .ret (.bool true)) NoX := by
  have hbi := H.bi
  refine ss_next (s_as S (e_list (al_nil ⟨by decide, ?_⟩)))
  refine ⟨rfl, ss_next (s_as S (e_list (al_nil ⟨by decide, ?_⟩)))⟩
  refine ⟨rfl, ?_⟩
  refine ss_mid (fun τ => PJ ns 1 2 3 [] [] [] τ) (s_as S (e_list (al_nil ⟨by decide, ?_⟩))) ?_
  · exact ⟨rfl, rfl, rfl, ⟨[], rfl, .nil⟩, nofun, by show 1 < 4; decide, by show 2 < 4; decide, by show 3 < 4; decide, by decide, by decide, by decide, by decide, by decide, by decide, rfl, rfl, rfl, rfl, rfl⟩
  intro τ0 j0
  refine ss_mid (fun τ => ∃ l, l.length = ns.length ∧ PJ ns 1 2 3 l (l.filter okP) (rsF l) τ) ?_ ?_
  · exact loop1 (lv := ⟨1, true, [env]⟩) (X := NoX) H F hlen rfl (show 1 < 15 by decide) S hF j0
  clear j0 τ0
  rintro τ0 ⟨l, hll, j0⟩
  refine law1 (lv := ⟨1, true, [env]⟩) (X := NoX) H F (l := l) (by omega) rfl (show 1 < 15 by decide) S hF j0 ?_
  clear j0 τ0
  intro τ0 j0
  obtain ⟨R, hRe, hR, hRl⟩ := good_hds j0.ts
  have eT : Str.ofString "By table" = st ByT := by decide +kernel
  have eH : Str.ofString "By hand" = st ByH := by decide +kernel
  have e1 : Str.ofString "1" = st [49] := by decide +kernel
  have e2 : Str.ofString "2" = st [50] := by decide +kernel
  have hG0 : τ0.hp 2 = some (.list (R.map hdPV)) := by have := j0.hG; rw [hRe, pairs_hd] at this; exact this
  have lg0 := j0.lg
  have hGn := j0.Gn
  clear j0
  -- due
  refine ss_mid (fun τ => 2 < τ.n ∧ τ.hp 2 = some (.list (R.map hdPV)) ∧ τ.loc "good" = some (.ref 2) ∧ ∃ Du, τ.loc "due" = some (.ref Du) ∧ Du < τ.n ∧ 2 < Du ∧ τ.hp Du = some (.list ((R ++ [(ByT, [49]), (ByH, [50])]).map hdPV))) (s_as S (e_bin (e_nm (v := .ref 2) S (e_list ?_)))) ?_
  · refine al_cons ?_
    refine e_tuple ?_
    refine al_cons ?_
    refine e_str ?_
    refine al_cons ?_
    refine e_str ?_
    with_reducible refine al_nil ?_
    refine ⟨Nat.le_of_ble_eq_true rfl, ?_⟩
    refine al_cons ?_
    refine e_tuple ?_
    refine al_cons ?_
    refine e_str ?_
    refine al_cons ?_
    refine e_str ?_
    with_reducible refine al_nil ?_
    refine ⟨Nat.le_of_ble_eq_true rfl, ?_⟩
    with_reducible refine al_nil ?_
    refine ⟨Nat.le_of_ble_eq_true rfl, ?_⟩
    have g1 : ∀ {o}, Grow τ0 (τ0.alloc o) := fun {o} => .alloc
    refine o_add_list (g1.get hGn hG0) (if_pos rfl) (by rw [List.length_map]; show _ + 2 ≤ _; omega) ?_
    refine ⟨rfl, Nat.lt_succ_of_lt (Nat.lt_succ_of_lt hGn), (Grow.alloc.al).get hGn hG0, lg0, τ0.n + 1, rfl, Nat.lt_succ_self _, by omega, (if_pos rfl).trans ?_⟩
    rw [eT, eH, e1, e2, List.map_append]; rfl
  clear hG0 lg0 hGn τ0
  rintro τ0 ⟨hGn, hG, lg, Du, ld, hDn, hD2, hD⟩
  -- h
  refine ss_mid (fun τ => ∃ h d, HS H.K τ h d 2 1 ∧ τ.hp 2 = some (.list (R.map hdPV)) ∧ τ.loc "good" = some (.ref 2) ∧ τ.loc "h" = some (.ref h) ∧ τ.loc "due" = some (.ref Du) ∧ Du < τ.n ∧ τ.hp Du = some (.list ((R ++ [(ByT, [49]), (ByH, [50])]).map hdPV))) (s_as S (e_call ?_)) ?_
  · refine e_gl S H.glob ⟨_, rfl, .ref H.keep, ?_⟩
    refine al_cons (e_nm (v := .ref 2) S ?_)
    with_reducible refine al_nil ?_
    with_reducible refine ak_nil ?_
    with_reducible refine ac0 ?_
    refine make_spec H (l := R.map hdP) (flt := flt) (ok := fun _ => True) rfl (show 1 < 23 by decide) (by rw [pairs_hd]; exact hG) hGn (by decide) ?_ ?_ ?_ ?_
    · intro y hy
      obtain ⟨x, hx, rfl⟩ := List.mem_map.mp hy
      have hx' := hR x hx
      have hcv : ∀ nm (z : List Nat), z ∈ texts8 → Conv C H nm (.str (st z)) (flt nm (.str (st z))) (fun _ => True) := fun nm z hz => by rw [flt_st]; exact conv_strC H (by have := (texts8_chk _ hz).2.2.1; omega) _
      exact ⟨hcv true _ hx'.n, hcv false _ hx'.v⟩
    · intro _ _ _; trivial
    · intro _ σ2 gn gh hs2 e2
      have g : Grow τ0 σ2 := ⟨by have : τ0.n + 2 ≤ σ2.n := gn; omega, gh⟩
      refine ⟨rfl, _, _, hs2.set', g.get hGn hG, ?_, rfl, ?_, Nat.lt_of_lt_of_le hDn g.n, g.get hDn hD⟩
      · show σ2.loc "good" = _; rw [e2]; exact lg
      · show σ2.loc "due" = _; rw [e2]; exact ld
    · intro c as e; rw [R_none hR] at e; cases e
  clear hGn hG lg ld hDn hD τ0
  rintro τ0 ⟨h, d, hs, hG, lg, lh, ld, hDn, hD⟩
  -- h['By table'] = '1'
  refine ss_mid (fun τ => HS H.K τ h d 2 1 ∧ τ.hp 2 = some (.list ((R ++ [(ByT, [49])]).map hdPV)) ∧ τ.loc "good" = some (.ref 2) ∧ τ.loc "h" = some (.ref h) ∧ τ.loc "due" = some (.ref Du) ∧ Du < τ.n ∧ τ.hp Du = some (.list ((R ++ [(ByT, [49]), (ByH, [50])]).map hdPV))) (s_sub ?_) ?_
  · refine e_str (e_nm (v := .ref h) S (e_str ?_))
    refine set_inst hs.inst hs.dict H.seq H.setitem.m.spec ?_
    rw [eT, e1]
    refine put_spec (lv := ⟨1, true, [env]⟩) H (y := byT) rfl (show 1 < 22 by decide) hs hG hR (by omega) low_byT (by decide) (by decide) (by decide) (by decide +kernel) (by decide +kernel) (by decide +kernel) (drop_R hR) fun τ2 g2 e2 hL2 => ?_
    refine ⟨rfl, g2.hs hs, hL2, ?_, ?_, ?_, Nat.lt_of_lt_of_le hDn g2.n, (g2.hp _ hDn (by omega)).trans hD⟩
    · rw [e2]; exact lg
    · rw [e2]; exact lh
    · rw [e2]; exact ld
  clear hs hG lg lh ld hDn hD τ0
  rintro τ0 ⟨hs, hG, lg, lh, ld, hDn, hD⟩
  -- good.append
  refine ss_mid (fun τ => HS H.K τ h d 2 1 ∧ τ.hp 2 = some (.list ((R ++ [(ByT, [49]), (ByH, [50])]).map hdPV)) ∧ τ.loc "good" = some (.ref 2) ∧ τ.loc "h" = some (.ref h) ∧ τ.loc "due" = some (.ref Du) ∧ Du < τ.n ∧ τ.hp Du = some (.list ((R ++ [(ByT, [49]), (ByH, [50])]).map hdPV))) (s_expr S.ok (e_mcall ?_)) ?_
  · refine e_nm (v := .ref 2) S ⟨_, m_append hG, .builtin, ?_⟩
    refine al_cons ?_
    refine e_tuple ?_
    refine al_cons ?_
    refine e_str ?_
    refine al_cons ?_
    refine e_str ?_
    with_reducible refine al_nil ?_
    refine ⟨Nat.le_of_ble_eq_true rfl, ?_⟩
    with_reducible refine al_nil ?_
    with_reducible refine ak_nil ?_
    with_reducible refine ac0 ?_
    have gX : GrowX 2 τ0 (τ0.upd 2 (.list ((R ++ [(ByT, [49])]).map hdPV ++ [.tup [.str (Str.ofString "By hand"), .str (Str.ofString "2")]]))) := ⟨Nat.le_refl _, fun i hi hne => if_neg hne⟩
    have hg2 : (τ0.upd 2 (.list ((R ++ [(ByT, [49])]).map hdPV ++ [.tup [.str (Str.ofString "By hand"), .str (Str.ofString "2")]]))).hp 2 = some (.list ((R ++ [(ByT, [49])]).map hdPV ++ [.tup [.str (Str.ofString "By hand"), .str (Str.ofString "2")]])) := rfl
    refine c_append hG (by decide) (by rw [List.length_map, List.length_append]; show _ + 1 ≤ _; omega) ⟨rfl, gX.hs hs, hg2.trans ?_, lg, lh, ld, hDn, (if_neg (by omega)).trans hD⟩
    rw [eH, e2, show R ++ [(ByT, [49]), (ByH, [50])] = (R ++ [(ByT, [49])]) ++ [(ByH, [50])] from by simp, List.map_append (l₁ := R ++ [(ByT, [49])])]; rfl
  clear hs hG lg lh ld hDn hD τ0
  rintro τ0 ⟨hs, hG, lg, lh, ld, hDn, hD⟩
  have hcp := R_cp hR
  generalize hR2 : R ++ [(ByT, [49]), (ByH, [50])] = R2 at hG hD hcp
  have hR2l : R2.length ≤ 100 := by rw [← hR2, List.length_append]; show _ + 2 ≤ _; omega
  refine ss_mid (fun τ => 0 < τ.n) (s_if (t_or (t_cmp (e_nm (v := .ref 2) S (e_nm (v := .ref Du) S (o_neP (pd_R hcp hG) (pd_R hcp hD) (fun _ => tr_bool ⟨nofun, fun _ => ?_⟩) (fun q => absurd rfl q))))))) ?_
  · refine t_or (t_cmp (e_mcall ?_))
    refine e_nm (v := .ref h) S ⟨_, m_hs hs H.cls H.items.m, .ref H.items.m.keep, ?_⟩
    with_reducible refine al_nil ?_
    with_reducible refine ak_nil ?_
    with_reducible refine ac0 ?_
    refine items_spec H (show 1 < 29 by decide) hs hG (by rw [List.length_map]; omega) ?_
    have ld2 : (τ0.alloc (.list (R2.map hdPV))).loc "due" = some (.ref Du) := ld
    refine e_nm (v := .ref Du) S ?_
    refine o_neP (pd_R hcp (if_pos rfl)) (pd_R hcp ((Grow.alloc).get hDn hD)) (fun _ => tr_bool ⟨nofun, fun _ => ?_⟩) (fun q => absurd rfl q)
    exact t_or_nil ⟨nofun, fun _ => ss_nil ⟨rfl, Nat.succ_pos _⟩⟩
  clear hs hG lg lh ld hDn hD hD2 hcp hR2 hR2l hRe hRl hR τ0 h d Du R2 R
  -- one, two
  intro τ0 h0
  refine ss_mid (fun τ => ∃ h d L, HS H.K τ h d L 1 ∧ τ.hp L = some (.list []) ∧ τ.loc "one" = some (.ref h)) (s_as S (e_call ?_)) ?_
  · refine e_gl S H.glob ⟨_, rfl, .ref H.keep, ?_⟩
    with_reducible refine al_nil ?_
    with_reducible refine ak_nil ?_
    with_reducible refine ac0 ?_
    refine make0_spec H rfl (show 1 < 23 by decide) h0 (.inl rfl) fun τ gn gh hs hL e => ?_
    exact ⟨rfl, _, _, _, hs.set', hL, rfl⟩
  clear h0 τ0
  rintro τ0 ⟨h, d, L, hs, hL, lo⟩
  refine ss_mid (fun τ => (HS H.K τ h d L 1 ∧ τ.hp L = some (.list []) ∧ τ.loc "one" = some (.ref h)) ∧ ∃ h' d' L', HS H.K τ h' d' L' 1 ∧ τ.hp L' = some (.list []) ∧ τ.loc "two" = some (.ref h') ∧ h < d' ∧ d < d' ∧ L < d' ∧ d' < h' ∧ h' < L') (s_as S (e_call ?_)) ?_
  · refine e_gl S H.glob ⟨_, rfl, .ref H.keep, ?_⟩
    refine al_cons ?_
    refine e_none ?_
    with_reducible refine al_nil ?_
    with_reducible refine ak_nil ?_
    with_reducible refine ac0 ?_
    refine make0_spec H rfl (show 1 < 23 by decide) (Nat.lt_of_le_of_lt (Nat.zero_le _) hs.Ln) (.inr rfl) fun τ gn gh hs2 hL2 e => ?_
    have g : Grow τ0 τ := ⟨by omega, gh⟩
    refine ⟨rfl, ⟨(hs.grow g).set', g.get hs.Ln hL, ?_⟩, _, _, _, hs2.set', hL2, rfl, hs.hn, hs.dn, hs.Ln, Nat.lt_succ_self _, Nat.lt_succ_self _⟩
    show τ.loc "one" = _; rw [e]; exact lo
  clear hs hL lo τ0
  rintro τ0 ⟨⟨hs, hL, lo⟩, h', d', L', hs', hL', lt, q1, q2, q3, q4, q5⟩
  have ea : Str.ofString "a" = st [97] := by decide +kernel
  have eb : Str.ofString "b" = st [98] := by decide +kernel
  have hs1 : ∀ {σ2 : St}, GrowX L τ0 σ2 → HS H.K σ2 h' d' L' 1 := fun g => ⟨(g.hp _ hs'.hn (by omega)).trans hs'.inst, (g.hp _ hs'.dn (by omega)).trans hs'.dict, hs'.h0, hs'.L0, Nat.lt_of_lt_of_le hs'.hn g.n, Nat.lt_of_lt_of_le hs'.dn g.n, Nat.lt_of_lt_of_le hs'.Ln g.n, hs'.hL, hs'.dL, hs'.hd⟩
  refine ss_mid (fun τ => (HS H.K τ h d L 1 ∧ τ.hp L = some (.list ([(([97], [49]) : Hd)].map hdPV)) ∧ τ.loc "one" = some (.ref h)) ∧ HS H.K τ h' d' L' 1 ∧ τ.hp L' = some (.list []) ∧ τ.loc "two" = some (.ref h')) (s_sub ?_) ?_
  · refine e_str (e_nm (v := .ref h) S (e_str ?_))
    refine set_inst hs.inst hs.dict H.seq H.setitem.m.spec ?_
    rw [ea, e1]
    refine put_spec (lv := ⟨1, true, [env]⟩) H (R := []) (y := [97]) rfl (show 1 < 22 by decide) hs hL nofun (by decide) (by decide +kernel) (by decide) (by decide) (by decide) (by decide +kernel) (by decide +kernel) (by decide +kernel) rfl fun τ2 g2 e2 hL2 => ?_
    refine ⟨rfl, ⟨g2.hs hs, hL2, ?_⟩, hs1 g2, (g2.hp _ hs'.Ln (by omega)).trans hL', ?_⟩
    · rw [e2]; exact lo
    · rw [e2]; exact lt
  clear hs1 hs hL lo hs' hL' lt τ0
  rintro τ0 ⟨⟨hs, hL, lo⟩, hs', hL', lt⟩
  refine ss_mid (fun τ => (HS H.K τ h d L 1 ∧ τ.hp L = some (.list ([(([97], [49]) : Hd)].map hdPV)) ∧ τ.loc "one" = some (.ref h)) ∧ HS H.K τ h' d' L' 1 ∧ τ.hp L' = some (.list ([(([98], [50]) : Hd)].map hdPV)) ∧ τ.loc "two" = some (.ref h')) (s_sub ?_) ?_
  · refine e_str (e_nm (v := .ref h') S (e_str ?_))
    refine set_inst hs'.inst hs'.dict H.seq H.setitem.m.spec ?_
    rw [eb, e2]
    refine put_spec (lv := ⟨1, true, [env]⟩) H (R := []) (y := [98]) rfl (show 1 < 22 by decide) hs' hL' nofun (by decide) (by decide +kernel) (by decide) (by decide) (by decide) (by decide +kernel) (by decide +kernel) (by decide +kernel) rfl fun τ2 g2 e2 hL2 => ?_
    refine ⟨rfl, ⟨⟨(g2.hp _ hs.hn (by omega)).trans hs.inst, (g2.hp _ hs.dn (by omega)).trans hs.dict, hs.h0, hs.L0, Nat.lt_of_lt_of_le hs.hn g2.n, Nat.lt_of_lt_of_le hs.dn g2.n, Nat.lt_of_lt_of_le hs.Ln g2.n, hs.hL, hs.dL, hs.hd⟩, (g2.hp _ hs.Ln (by omega)).trans hL, ?_⟩, g2.hs hs', hL2, ?_⟩
    · rw [e2]; exact lo
    · rw [e2]; exact lt
  clear hs hL lo hs' hL' lt τ0
  rintro τ0 ⟨⟨hs, hL, lo⟩, hs', hL', lt⟩
  have cp1 : ∀ {a b : List Nat}, (∀ c ∈ a, c < 128) → (∀ c ∈ b, c < 128) → ∀ x ∈ [((a, b) : Hd)], (∀ c ∈ x.1, c < 0x110000) ∧ ∀ c ∈ x.2, c < 0x110000 := by
    intro a b ha hb x hx
    rw [List.mem_singleton.mp hx]
    exact ⟨fun c hc => by have := ha c hc; omega, fun c hc => by have := hb c hc; omega⟩
  have cpa := cp1 (a := [97]) (b := [49]) (by decide) (by decide)
  have cpb := cp1 (a := [98]) (b := [50]) (by decide) (by decide)
  refine ss_ret (e_and (e_cmp (e_mcall ?_)))
  refine e_nm (v := .ref h) S ⟨_, m_hs hs H.cls H.items.m, .ref H.items.m.keep, ?_⟩
  with_reducible refine al_nil ?_
  with_reducible refine ak_nil ?_
  with_reducible refine ac0 ?_
  refine items_spec H (show 1 < 29 by decide) hs hL (by decide) ?_
  have g1 : Grow τ0 (τ0.alloc (.list ([(([97], [49]) : Hd)].map hdPV))) := .alloc
  have hs'1 := hs'.grow g1
  have hL'1 := g1.get hs'.Ln hL'
  have lt1 : (τ0.alloc (.list ([(([97], [49]) : Hd)].map hdPV))).loc "two" = some (.ref h') := lt
  have hn1 : (τ0.alloc (.list ([(([97], [49]) : Hd)].map hdPV))).hp τ0.n = some (.list ([(([97], [49]) : Hd)].map hdPV)) := if_pos rfl
  have hnn1 : τ0.n < (τ0.alloc (.list ([(([97], [49]) : Hd)].map hdPV))).n := Nat.lt_succ_self _
  generalize τ0.alloc (.list ([(([97], [49]) : Hd)].map hdPV)) = τ1 at hs'1 hL'1 lt1 hn1 hnn1 ⊢
  refine e_list ?_
  refine al_cons ?_
  refine e_tuple ?_
  refine al_cons ?_
  refine e_str ?_
  refine al_cons ?_
  refine e_str ?_
  with_reducible refine al_nil ?_
  refine ⟨Nat.le_of_ble_eq_true rfl, ?_⟩
  with_reducible refine al_nil ?_
  refine ⟨Nat.le_of_ble_eq_true rfl, ?_⟩
  rw [ea, e1]
  have g2 : Grow τ1 (τ1.alloc (.list [.tup [.str (st [97]), .str (st [49])]])) := .alloc
  have hs'2 := hs'1.grow g2
  have hL'2 := g2.get hs'1.Ln hL'1
  have lt2 : (τ1.alloc (.list [.tup [.str (st [97]), .str (st [49])]])).loc "two" = some (.ref h') := lt1
  refine o_eqP (pd_R cpa (g2.get hnn1 hn1)) (pd_R (R := [([97], [49])]) cpa (if_pos rfl)) (fun _ => tr_bool ⟨fun _ => ?_, nofun⟩) (fun q => absurd rfl q)
  generalize τ1.alloc (.list [.tup [.str (st [97]), .str (st [49])]]) = τ2 at hs'2 hL'2 lt2 ⊢
  refine e_and (e_cmp (e_mcall ?_))
  refine e_nm (v := .ref h') S ⟨_, m_hs hs'2 H.cls H.items.m, .ref H.items.m.keep, ?_⟩
  with_reducible refine al_nil ?_
  with_reducible refine ak_nil ?_
  with_reducible refine ac0 ?_
  refine items_spec H (show 1 < 29 by decide) hs'2 hL'2 (by decide) ?_
  have hn3 : (τ2.alloc (.list ([(([98], [50]) : Hd)].map hdPV))).hp τ2.n = some (.list ([(([98], [50]) : Hd)].map hdPV)) := if_pos rfl
  have hnn3 : τ2.n < (τ2.alloc (.list ([(([98], [50]) : Hd)].map hdPV))).n := Nat.lt_succ_self _
  generalize τ2.alloc (.list ([(([98], [50]) : Hd)].map hdPV)) = τ3 at hn3 hnn3 ⊢
  refine e_list ?_
  refine al_cons ?_
  refine e_tuple ?_
  refine al_cons ?_
  refine e_str ?_
  refine al_cons ?_
  refine e_str ?_
  with_reducible refine al_nil ?_
  refine ⟨Nat.le_of_ble_eq_true rfl, ?_⟩
  with_reducible refine al_nil ?_
  refine ⟨Nat.le_of_ble_eq_true rfl, ?_⟩
  rw [eb, e2]
  refine o_eqP (pd_R cpb ((Grow.alloc).get hnn3 hn3)) (pd_R (R := [([98], [50])]) cpb (if_pos rfl)) (fun _ => tr_bool ⟨fun _ => ?_, nofun⟩) (fun q => absurd rfl q)
  have h04 : 0 < (τ3.alloc (.list [.tup [.str (st [98]), .str (st [50])]])).n := Nat.succ_pos _
  generalize τ3.alloc (.list [.tup [.str (st [98]), .str (st [50])]]) = τ4 at h04 ⊢
  refine e_bool_one (e_cmp2 (e_mcall (e_call ?_)))
  refine e_gl S H.glob ⟨_, rfl, .ref H.keep, ?_⟩
  with_reducible refine al_nil ?_
  with_reducible refine ak_nil ?_
  with_reducible refine ac0 ?_
  refine make0_spec H rfl (show 1 < 23 by decide) h04 (.inl rfl) fun τ5 gn5 gh5 hs5 hL5 _ => ?_
  refine ⟨_, m_hs hs5 H.cls H.items.m, .ref H.items.m.keep, ?_⟩
  with_reducible refine al_nil ?_
  with_reducible refine ak_nil ?_
  with_reducible refine ac0 ?_
  refine items_spec H (show 1 < 29 by decide) hs5 hL5 (by decide) ?_
  refine e_mcall (e_call ?_)
  refine e_gl S H.glob ⟨_, rfl, .ref H.keep, ?_⟩
  refine al_cons ?_
  refine e_none ?_
  with_reducible refine al_nil ?_
  with_reducible refine ak_nil ?_
  with_reducible refine ac0 ?_
  have hn6 : (τ5.alloc (.list [])).hp τ5.n = some (.list []) := if_pos rfl
  have hnn6 : τ5.n < (τ5.alloc (.list [])).n := Nat.lt_succ_self _
  generalize τ5.alloc (.list []) = τ6 at hn6 hnn6 ⊢
  refine make0_spec H rfl (show 1 < 23 by decide) (Nat.lt_of_le_of_lt (Nat.zero_le _) hnn6) (.inr rfl) fun τ7 gn7 gh7 hs7 hL7 _ => ?_
  refine ⟨_, m_hs hs7 H.cls H.items.m, .ref H.items.m.keep, ?_⟩
  with_reducible refine al_nil ?_
  with_reducible refine ak_nil ?_
  with_reducible refine ac0 ?_
  refine items_spec H (show 1 < 29 by decide) hs7 hL7 (by decide) ?_
  have g7 : Grow τ6 τ7 := ⟨by omega, gh7⟩
  have pe : ∀ {hp : Nat → Option AO} {i : Nat}, hp i = some (.list []) → PD hp 1 (.ref i) (.list []) := fun h => .list (n := 0) h .nil
  refine o_eqP (pe ((Grow.alloc).get (Nat.lt_of_lt_of_le hnn6 g7.n) (g7.get hnn6 hn6))) (pe (if_pos rfl)) (fun _ => tr_bool ⟨fun _ => ?_, nofun⟩) (fun q => absurd rfl q)
  refine e_list (al_nil ⟨by decide, ?_⟩)
  exact o_eqP (pe ((Grow.alloc).get (Nat.lt_succ_self _) (if_pos rfl))) (pe (if_pos rfl)) (fun _ => rfl) (fun q => absurd rfl q)
end
end L08
end Mine

open PySem.W.X PySem.W.ZRun
set_option maxHeartbeats 0
theorem PySem.Challenge.cw_dn0260_08_holds : PySem.Challenge.rw_dn0260_08.Holds := by
  w_on; o_law; z_head; (case hw => w_witness2)
  k_fill
  intro w s₀ s₁ mg mb G y fa o pm cd doc dV kV ho hd hcd hD hmg hg args vals as L hpre hlay hrd hwl hlo
  z_open y L KX ZH ZN ZT
  refine Ground.open G ?_
  intro T B D TE TW
  clear ZH D TE TW B hD hcd hd
  wrow_args hpre hlay hrd hwl hlo
  obtain ⟨hat, hsz⟩ := script_at L
  have htk := script_toks L ZT
  rw [ZN] at hat hsz
  subst hat
  x_fa T KX hmg
  all_lens
  z_lists L
  clear ho hmg y G
  rename_i ns _ _ _ _ _ _ vs _ _ _ hlen _ hL _ _ hi hb hol _
  let H : Mine.HF ⟨PySem.Challenge.rw_dn0260_08.row.prog, w, s₁.heap, _, KX, mg, mb, T.g, T.b, T.nolimit, T.nodigits, T.builtins, s₁.os, s₁.gens⟩ Mine.L08.cb := by
    refine { K := _, glob := rfl, keep := ?_, cls := ⟨?_, ?_, ?_, ?_, ?_, ?_⟩, seq := ?_, hh := ?_, taker := ?_, own := ?_, bi := ?bi0, patN := _, gN := rfl, pN := ?pN, patV := _, gV := rfl, pV := ?pV, init := ⟨_, _, Mine.FnM.of rfl ?_ ?_ rfl rfl ?_ ?_ ?_ ?_ ?_ ?_ ?_ ?_ ?_ ?_⟩, initB := ?initB, init0 := ?init0, conv := ⟨_, _, Mine.FnM.of rfl ?_ ?_ rfl rfl ?_ ?_ ?_ ?_ ?_ ?_ ?_ ?_ ?_ ?_⟩, convB := ?convB, setitem := ⟨_, _, Mine.FnM.of rfl ?_ ?_ rfl rfl ?_ ?_ ?_ ?_ ?_ ?_ ?_ ?_ ?_ ?_⟩, setB := ?setB, delitem := ⟨_, _, Mine.FnM.of rfl ?_ ?_ rfl rfl ?_ ?_ ?_ ?_ ?_ ?_ ?_ ?_ ?_ ?_⟩, delB := ?delB, items := ⟨_, _, Mine.FnM.of rfl ?_ ?_ rfl rfl ?_ ?_ ?_ ?_ ?_ ?_ ?_ ?_ ?_ ?_⟩, itemsB := ?itemsB }
    case bi0 => (unfold Mine.BiOk; kernel_rfl)
    case pN => exact ⟨⟨_, rfl, rfl, rfl⟩, fun x t => by kernel_rfl⟩
    case pV => exact ⟨⟨_, rfl, rfl, rfl⟩, fun x t => by kernel_rfl⟩
    case initB =>
      intro lv env σ p0 p1
      refine Mine.Binds.of fun f n hp vs ks hv hk => ?_
      cases hk
      cases hv with | cons h0 hv =>
      cases hv with | cons h1 hv =>
      cases hv
      exact ⟨_, fun S => rfl, .cons h0 (.cons h1 .nil)⟩
    case init0 =>
      intro lv env σ p0
      refine Mine.Binds.of fun f n hp vs ks hv hk => ?_
      cases hk
      cases hv with | cons h0 hv =>
      cases hv
      exact ⟨_, fun S => rfl, .cons h0 (.cons .none .nil)⟩
    case convB =>
      intro lv env σ p0 p1 p2
      refine Mine.Binds.of fun f n hp vs ks hv hk => ?_
      cases hk with | cons g0 hk =>
      cases hk
      cases hv with | cons h0 hv =>
      cases hv with | cons h1 hv =>
      cases hv
      exact ⟨_, fun S => rfl, .cons h0 (.cons h1 (.cons g0 .nil))⟩
    case setB =>
      intro lv env σ p0 p1 p2
      refine Mine.Binds.of fun f n hp vs ks hv hk => ?_
      cases hk
      cases hv with | cons h0 hv =>
      cases hv with | cons h1 hv =>
      cases hv with | cons h2 hv =>
      cases hv
      exact ⟨_, fun S => rfl, .cons h0 (.cons h1 (.cons h2 .nil))⟩
    case delB =>
      intro lv env σ p0 p1
      refine Mine.Binds.of fun f n hp vs ks hv hk => ?_
      cases hk
      cases hv with | cons h0 hv =>
      cases hv with | cons h1 hv =>
      cases hv
      exact ⟨_, fun S => rfl, .cons h0 (.cons h1 .nil)⟩
    case itemsB =>
      intro lv env σ p0
      refine Mine.Binds.of fun f n hp vs ks hv hk => ?_
      cases hk
      cases hv with | cons h0 hv =>
      cases hv
      exact ⟨_, fun S => rfl, .cons h0 .nil⟩
    all_goals kernel_rfl
  have F : Mine.L08.FF ⟨PySem.Challenge.rw_dn0260_08.row.prog, w, s₁.heap, _, KX, mg, mb, T.g, T.b, T.nolimit, T.nodigits, T.builtins, s₁.os, s₁.gens⟩ := by
    refine { thingA := _, thingF := _, thing := Mine.FnG.ofC rfl ?_ rfl rfl ?_ ?_ ?_ ?_ ?_ ?_ ?_ ?_ ?_ ?_, thingB := ?thingB, faultA := _, faultF := _, fault := Mine.FnG.ofC rfl ?_ rfl rfl ?_ ?_ ?_ ?_ ?_ ?_ ?_ ?_ ?_ ?_, faultB := ?faultB, toldA := _, toldF := _, told := Mine.FnG.ofC rfl ?_ rfl rfl ?_ ?_ ?_ ?_ ?_ ?_ ?_ ?_ ?_ ?_, toldB := ?toldB }
    case thingB =>
      intro lv env σ p0 p1 p2
      refine Mine.Binds.of fun f n hp vs ks hv hk => ?_
      cases hk
      cases hv with | cons h0 hv =>
      cases hv with | cons h1 hv =>
      cases hv with | cons h2 hv =>
      cases hv
      exact ⟨_, fun S => rfl, .cons h0 (.cons h1 (.cons h2 .nil))⟩
    case faultB =>
      intro lv env σ p0 p1
      refine Mine.Binds.of fun f n hp vs ks hv hk => ?_
      cases hk
      cases hv with | cons h0 hv =>
      cases hv with | cons h1 hv =>
      cases hv
      exact ⟨_, fun S => rfl, .cons h0 (.cons h1 .nil)⟩
    case toldB =>
      intro lv env σ p0
      refine Mine.Binds.of fun f n hp vs ks hv hk => ?_
      cases hk
      cases hv with | cons h0 hv =>
      cases hv
      exact ⟨_, fun S => rfl, .cons h0 .nil⟩
    all_goals kernel_rfl
  refine Mine.top_fn (C := ⟨PySem.Challenge.rw_dn0260_08.row.prog, w, s₁.heap, _, KX, mg, mb, T.g, T.b, T.nolimit, T.nodigits, T.builtins, s₁.os, s₁.gens⟩) (x := "script") (Mine.FnAt.ofC (body := Mine.bodyOf (Mine.stmtAt Mine.L08.prog 10)) rfl rfl ?_ ?_ ?_ ?_ ?_ ?_ ?_ ?_ ?_) rfl rfl rfl (Nat.lt_of_lt_of_le (by decide) htk) hol (Mine.ints_rep hi) ?bi ?hx ?main ?fin
  case fin =>
    intro s' hk hos hgs
    refine Mine.good_true hk hos (hgs.trans hg) (fun _ => rfl) ?_
    first | rfl | wrow_post
  case bi => exact .of_eq rfl
  case hx => first | (left; kernel_rfl) | (right; kernel_rfl)
  case main =>
    intro env' hsc hok hfr
    exact Mine.L08.law_spec H  F (by omega) (Mine.Sc.of hsc hok) ⟨hfr, _, rfl⟩
  all_goals kernel_rfl

