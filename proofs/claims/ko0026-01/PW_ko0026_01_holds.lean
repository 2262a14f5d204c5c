import PyProof.Rows.All
import Wide.All
import OpenK.AllK
import Wide.FinOn
import PySem.Challenge.RW_ko0026_01
set_option maxRecDepth 100000
set_option Elab.async false

/-! part C3Base -/
namespace C3P
open PySem PySem.W PyProof.Rows PySem.Calls

/-! relation over two lists -/
inductive All2 {α β : Type} (R : α → β → Prop) : List α → List β → Prop
  | nil : All2 R [] []
  | cons {a b as bs} : R a b → All2 R as bs → All2 R (a :: as) (b :: bs)

theorem All2.len {α β : Type} {R : α → β → Prop} : ∀ {as : List α} {bs : List β}, All2 R as bs → as.length = bs.length
  | _, _, .nil => rfl
  | _, _, .cons _ h => by simp [h.len]
theorem All2.mono {α β : Type} {R S : α → β → Prop} (k : ∀ a b, R a b → S a b) : ∀ {as : List α} {bs : List β}, All2 R as bs → All2 S as bs
  | _, _, .nil => .nil
  | _, _, .cons x h => .cons (k _ _ x) (h.mono k)
theorem All2.append {α β : Type} {R : α → β → Prop} : ∀ {as : List α} {bs : List β} {as' : List α} {bs' : List β}, All2 R as bs → All2 R as' bs' → All2 R (as ++ as') (bs ++ bs')
  | _, _, _, _, .nil, h => h
  | _, _, _, _, .cons x h, h' => .cons x (h.append h')
theorem All2.snoc {α β : Type} {R : α → β → Prop} {as : List α} {bs : List β} {a : α} {b : β} (h : All2 R as bs) (x : R a b) : All2 R (as ++ [a]) (bs ++ [b]) := h.append (.cons x .nil)
theorem All2.get {α β : Type} {R : α → β → Prop} : ∀ {as : List α} {bs : List β}, All2 R as bs → ∀ (i : Nat) (b : β), bs[i]? = some b → ∃ a, as[i]? = some a ∧ R a b
  | _, _, .nil, i, b, h => by simp at h
  | _, _, .cons x h, 0, b, e => by simp at e; subst e; exact ⟨_, by simp, x⟩
  | _, _, .cons x h, i + 1, b, e => by simp at e ⊢; exact h.get i b e
theorem All2.getL {α β : Type} {R : α → β → Prop} : ∀ {as : List α} {bs : List β}, All2 R as bs → ∀ (i : Nat) (a : α), as[i]? = some a → ∃ b, bs[i]? = some b ∧ R a b
  | _, _, .nil, i, b, h => by simp at h
  | _, _, .cons x h, 0, b, e => by simp at e; subst e; exact ⟨_, by simp, x⟩
  | _, _, .cons x h, i + 1, b, e => by simp at e ⊢; exact h.getL i b e
theorem All2.drop {α β : Type} {R : α → β → Prop} : ∀ {as : List α} {bs : List β} (n : Nat), All2 R as bs → All2 R (as.drop n) (bs.drop n)
  | _, _, 0, h => by simpa using h
  | _, _, _ + 1, .nil => by simpa using All2.nil
  | _, _, n + 1, .cons _ h => by simpa using h.drop n
theorem All2.mem {α β : Type} {R : α → β → Prop} : ∀ {as : List α} {bs : List β}, All2 R as bs → ∀ b ∈ bs, ∃ a ∈ as, R a b
  | _, _, .cons x h, b, e => by
    rcases List.mem_cons.mp e with rfl | e
    · exact ⟨_, List.mem_cons_self, x⟩
    · obtain ⟨a, h1, h2⟩ := h.mem b e
      exact ⟨a, List.mem_cons_of_mem _ h1, h2⟩

/-! what a value stands for, in a heap -/
abbrev Rep (δ : Type) := δ → Value → Heap → Prop
def RInt : Rep Int := fun n v _ => ∃ t, v = .int n t
def RBool : Rep Bool := fun b v _ => v = .bool b
def RL {δ : Type} (R : Rep δ) : Rep (List δ) := fun ds v h => ∃ a ys, v = .ref a ∧ h.IsList a (List.toArray ys) ∧ All2 (fun d y => R d y h) ds ys
def Mono {δ : Type} (R : Rep δ) : Prop := ∀ d v h h', R d v h → h.StaysIn h' → R d v h'
theorem RInt.mono : Mono RInt := fun _ _ _ _ x _ => x
theorem RBool.mono : Mono RBool := fun _ _ _ _ x _ => x
theorem isList_stays {h h' : Heap} {a : Addr} {its : Array Value} (x : h.IsList a its) (k : h.StaysIn h') : h'.IsList a its :=
  let ⟨o, e, r⟩ := x; ⟨o, k _ _ e, r⟩
theorem RL.mono {δ : Type} {R : Rep δ} (m : Mono R) : Mono (RL R) := fun _ _ _ _ x k =>
  let ⟨a, ys, e, hl, hA⟩ := x; ⟨a, ys, e, isList_stays hl k, hA.mono fun _ _ r => m _ _ _ _ r k⟩

/-- all but S stands as it stood -/
def Mod (S : List Addr) (h h' : Heap) : Prop := ∀ b o, b ∉ S → h.get? b = some o → h'.get? b = some o
theorem Mod.refl (S : List Addr) (h : Heap) : Mod S h h := fun _ _ _ e => e
theorem Mod.of_stays {S : List Addr} {h h' : Heap} (k : h.StaysIn h') : Mod S h h' := fun b o _ e => k b o e
theorem Mod.trans {S : List Addr} {h h' h'' : Heap} (x : Mod S h h') (y : Mod S h' h'') : Mod S h h'' := fun b o n e => y b o n (x b o n e)
theorem Mod.stays {S : List Addr} {b h h' : Heap} (x : Mod S h h') (k : b.StaysIn h) (n : ∀ a ∈ S, b.get? a = none) : b.StaysIn h' := fun a o e =>
  x a o (fun q => by rw [n a q] at e; cases e) (k a o e)
theorem Mod.of_same {S : List Addr} {a : Addr} {h h' : Heap} (x : Heap.SameBut a h h') (ha : a ∈ S) : Mod S h h' := fun b o n e =>
  (x.2 b (fun q => n (q ▸ ha))).trans e
theorem stays_refl (h : Heap) : h.StaysIn h := fun _ _ e => e
theorem stays_trans {a b c : Heap} (x : a.StaysIn b) (y : b.StaysIn c) : a.StaysIn c := fun d o e => y d o (x d o e)
theorem stays_push (h : Heap) (o : Obj) : h.StaysIn (h.push o) := fun _ _ e => Heap.get?_push_of_some _ e
theorem stays_same {b h h' : Heap} {a : Addr} (k : b.StaysIn h) (x : Heap.SameBut a h h') (n : b.get? a = none) : b.StaysIn h' := fun c o e =>
  (x.2 c (fun q => by rw [q, n] at e; cases e)).trans (k c o e)
theorem fresh_stays {b h : Heap} {a : Addr} (k : b.StaysIn h) (n : h.get? a = none) : b.get? a = none := by
  cases q : b.get? a with
  | none => rfl
  | some o => rw [k a o q] at n; cases n
theorem fresh_size (h : Heap) : h.get? h.objs.size = none := by
  cases q : h.get? h.objs.size with
  | none => rfl
  | some o => exact absurd (Heap.lt_size q) (Nat.lt_irrefl _)
theorem fresh_ge (h : Heap) {a : Addr} (ha : h.objs.size ≤ a) : h.get? a = none := by
  cases q : h.get? a with
  | none => rfl
  | some o => exact absurd (Heap.lt_size q) (Nat.not_lt.mpr ha)

/-! what is handled while a loop runs: nothing, or an exception without a context -/
def HOk (A : Around) (h : Heap) : Prop := A.handled = none ∨ ∃ e o vs, A.handled = some (.ref e) ∧ h.get? e = some o ∧ o.data = .fields vs ∧ vs[2]? = some .none
theorem HOk.stays {A : Around} {h h' : Heap} (x : HOk A h) (k : h.StaysIn h') : HOk A h' := x.imp id fun ⟨e, o, vs, a, b, c⟩ => ⟨e, o, vs, a, k _ _ b, c⟩

/-- runs to a value, making objects alone -/
def Pu (prog : Program) (w : World) (A : Around) {α : Type} (s : Shared) (t : Sem α) (P : α → Heap → Prop) : Prop :=
  ∀ (Q : α → Shared → Prop) (E : Value → Shared → Prop), (∀ a h' tk, s.heap.StaysIn h' → P a h' → Q a { s with heap := h', toks := tk }) → wpAny (model prog w) A t Q E s
/-- runs to a value, changing S alone -/
def Ru (prog : Program) (w : World) (A : Around) (S : List Addr) {α : Type} (s : Shared) (t : Sem α) (P : α → Heap → Prop) : Prop :=
  ∀ (Q : α → Shared → Prop) (E : Value → Shared → Prop), (∀ a h' tk, Mod S s.heap h' → P a h' → Q a { s with heap := h', toks := tk }) → wpAny (model prog w) A t Q E s

section
variable {prog : Program} {w : World} {A : Around} {E : Value → Shared → Prop} {s : Shared} {env : Env}

/-! names -/
theorem nmL {x : Str} {pos : Pos} {m : Str → Option Value} {v : Value} {Q : Value → Shared → Prop} (hn : s.heap.Ns env.locals m) (hv : m x = some v) (h : Q v s)
    (hk : env.scope.kind = .function := by rfl) (hl : env.kindOf x = some .local := by rfl) (hd : (x == ("__debug__" : Str)) = false := by decide) :
    wpAny (model prog w) A (eval (.Name x pos) env) Q E s := wpAny_Name (wpAny_loadName_local hk hl hn hv h) hd
theorem nmC {x : Str} {pos : Pos} {c : Addr} {v : Value} {Q : Value → Shared → Prop} (hn : s.heap.IsCell c (some v)) (h : Q v s) (hc : env.cells.lookup x = some c := by rfl)
    (hk : env.scope.kind = .function := by rfl) (hl : env.kindOf x = some .cell := by rfl) (hd : (x == ("__debug__" : Str)) = false := by decide) :
    wpAny (model prog w) A (eval (.Name x pos) env) Q E s := wpAny_Name (wpAny_loadName_cell hk hl hc hn h) hd
theorem nmG {x : Str} {pos : Pos} {mg : Str → Option Value} {v : Value} {Q : Value → Shared → Prop} (hn : s.heap.Ns env.globals mg) (hv : mg x = some v) (h : Q v s)
    (hk : env.scope.kind = .function := by rfl) (hl : env.kindOf x = some .globalImplicit := by rfl) (hd : (x == ("__debug__" : Str)) = false := by decide) :
    wpAny (model prog w) A (eval (.Name x pos) env) Q E s := Name_function_global hk hl (loadGlobal_global hn hv h) hd
theorem nmB {x : Str} {pos : Pos} {mg mb : Str → Option Value} {v : Value} {Q : Value → Shared → Prop} (hn : s.heap.Ns env.globals mg) (hv : mg x = none) (hb : s.heap.Ns env.builtins mb) (hv' : mb x = some v) (h : Q v s)
    (hk : env.scope.kind = .function := by rfl) (hl : env.kindOf x = some .globalImplicit := by rfl) (hd : (x == ("__debug__" : Str)) = false := by decide) :
    wpAny (model prog w) A (eval (.Name x pos) env) Q E s := Name_function_global hk hl (loadGlobal_builtin hn hv hb hv' h) hd

/-! ints in lists of ints, comparisons -/
def intIs (n : Int) : Value → Bool
  | .int k _ => k == n
  | _ => false
def boolIs (b : Bool) : Value → Bool
  | .bool c => c == b
  | _ => false
theorem any_intIs {n : Int} {h : Heap} : ∀ {ns : List Int} {vs : List Value}, All2 (fun d y => RInt d y h) ns vs → vs.any (intIs n) = ns.contains n
  | _, _, .nil => rfl
  | k :: ns, _, .cons ⟨t, e⟩ r => by
    subst e
    rw [List.any_cons, any_intIs r, List.contains_cons]
    show (k == n || _) = (n == k || _)
    rw [Bool.beq_comm]
theorem any_boolIs {b : Bool} {h : Heap} : ∀ {bs : List Bool} {vs : List Value}, All2 (fun d y => RBool d y h) bs vs → vs.any (boolIs b) = bs.contains b
  | _, _, .nil => rfl
  | k :: ns, _, .cons e r => by
    cases e
    rw [List.any_cons, any_boolIs r, List.contains_cons]
    show (k == b || _) = (b == k || _)
    rw [Bool.beq_comm]
theorem eqAt_int {n : Int} {t : Tok} {h : Heap} {s : Shared} {A : Around} {ns : List Int} {vs : List Value} (r : All2 (fun d y => RInt d y h) ns vs) : ∀ y ∈ vs.toArray, PySem.SeqAt.EqAt A s y (.int n t) (intIs n y) := fun y hy => by
  obtain ⟨k, _, t', rfl⟩ := r.mem y (by simpa using hy)
  exact PySem.SeqAt.EqAt.int_int k t' n t
theorem eqAt_bool {b : Bool} {h : Heap} {s : Shared} {A : Around} {bs : List Bool} {vs : List Value} (r : All2 (fun d y => RBool d y h) bs vs) : ∀ y ∈ vs.toArray, PySem.SeqAt.EqAt A s y (.bool b) (boolIs b y) := fun y hy => by
  obtain ⟨k, _, e⟩ := r.mem y (by simpa using hy)
  cases e
  exact PySem.SeqAt.EqAt.bool_bool k b

theorem inI {n : Int} {t : Tok} {l : Value} {ns : List Int} {Q : Value → Shared → Prop} (r : RL RInt ns l s.heap) (h : Q (.bool (ns.contains n)) s) : wpAny (model prog w) A (compareOp .In (.int n t) l) Q E s := by
  obtain ⟨a, ys, rfl, hl, hA⟩ := r
  refine PySem.SeqAt.in_listAt (intIs n) hl (eqAt_int hA) ?_
  rw [List.any_toArray, any_intIs hA]; exact h
theorem notInI {n : Int} {t : Tok} {l : Value} {ns : List Int} {Q : Value → Shared → Prop} (r : RL RInt ns l s.heap) (h : Q (.bool (!ns.contains n)) s) : wpAny (model prog w) A (compareOp .NotIn (.int n t) l) Q E s := by
  obtain ⟨a, ys, rfl, hl, hA⟩ := r
  refine PySem.SeqAt.notIn_listAt (intIs n) hl (eqAt_int hA) ?_
  rw [List.any_toArray, any_intIs hA]; exact h
theorem inB {b : Bool} {l : Value} {bs : List Bool} {Q : Value → Shared → Prop} (r : RL RBool bs l s.heap) (h : Q (.bool (bs.contains b)) s) : wpAny (model prog w) A (compareOp .In (.bool b) l) Q E s := by
  obtain ⟨a, ys, rfl, hl, hA⟩ := r
  refine PySem.SeqAt.in_listAt (boolIs b) hl (eqAt_bool hA) ?_
  rw [List.any_toArray, any_boolIs hA]; exact h

theorem all_range_eq (ns ms : List Int) (hl : ns.length = ms.length) : (List.range ns.length).all (fun j => ns.getD j 0 == ms.getD j 0) = decide (ns = ms) := by
  rw [Bool.eq_iff_iff, List.all_eq_true, decide_eq_true_iff]
  constructor
  · intro h
    refine List.ext_getElem hl fun i h1 h2 => ?_
    have := h i (List.mem_range.mpr h1)
    simpa [List.getD_eq_getElem?_getD, h1, h2] using this
  · rintro rfl j _
    simp
theorem eq_items {h : Heap} {A : Around} {s : Shared} {ns ms : List Int} {vs us : List Value} (r : All2 (fun d y => RInt d y h) ns vs) (r' : All2 (fun d y => RInt d y h) ms us) :
    ∀ j (h1 : j < vs.toArray.size) (h2 : j < us.toArray.size), PySem.SeqAt.EqAt A s vs.toArray[j] us.toArray[j] (ns.getD j 0 == ms.getD j 0) := fun j h1 h2 => by
  have h1' : j < vs.length := by simpa using h1
  have h2' : j < us.length := by simpa using h2
  obtain ⟨k, e, t, e'⟩ := r.get j vs[j] (by simp [h1'])
  obtain ⟨k', f, t', f'⟩ := r'.get j us[j] (by simp [h2'])
  have g1 : vs.toArray[j] = .int k t := by simpa using e'
  have g2 : us.toArray[j] = .int k' t' := by simpa using f'
  rw [g1, g2, List.getD_eq_getElem?_getD, List.getD_eq_getElem?_getD, e, f]
  exact PySem.SeqAt.EqAt.int_int k t k' t'
theorem eqI {a b : Value} {ns ms : List Int} {Q : Value → Shared → Prop} (r : RL RInt ns a s.heap) (r' : RL RInt ms b s.heap) (hu : A.units < cLine) (h : Q (.bool (decide (ns = ms))) s) :
    wpAny (model prog w) A (compareOp .Eq a b) Q E s := by
  obtain ⟨l, ys, rfl, hl, hA⟩ := r
  obtain ⟨l', us, rfl, hl', hA'⟩ := r'
  by_cases hsz : ns.length = ms.length
  · have hz : ys.toArray.size = us.toArray.size := by simp [← hA.len, ← hA'.len, hsz]
    refine PySem.SeqAt.eq_listAt hl hl' hz hu (eq_items hA hA') ?_
    rw [show ys.toArray.size = ns.length by simp [hA.len], all_range_eq _ _ hsz]; exact h
  · have hz : (ys.toArray.size != us.toArray.size) = true := by simp [← hA.len, ← hA'.len, hsz]
    refine PySem.SeqAt.eq_list_lengthsAt hl hl' hz hu ?_
    rw [decide_eq_false (fun q => hsz (by rw [q]))] at h; exact h
theorem neI {a b : Value} {ns ms : List Int} {Q : Value → Shared → Prop} (r : RL RInt ns a s.heap) (r' : RL RInt ms b s.heap) (hu : A.units < cLine) (h : Q (.bool (!decide (ns = ms))) s) :
    wpAny (model prog w) A (compareOp .NotEq a b) Q E s := by
  obtain ⟨l, ys, rfl, hl, hA⟩ := r
  obtain ⟨l', us, rfl, hl', hA'⟩ := r'
  by_cases hsz : ns.length = ms.length
  · have hz : ys.toArray.size = us.toArray.size := by simp [← hA.len, ← hA'.len, hsz]
    refine PySem.SeqAt.RcNeAt.lists hl hl' hz hu (eq_items hA hA') prog w E Q ?_
    rw [show ys.toArray.size = ns.length by simp [hA.len], all_range_eq _ _ hsz]; exact h
  · have hz : (ys.toArray.size != us.toArray.size) = true := by simp [← hA.len, ← hA'.len, hsz]
    refine PySem.SeqAt.RcNeAt.lists_lengths hl hl' hz hu prog w E Q ?_
    rw [decide_eq_false (fun q => hsz (by rw [q]))] at h; exact h
theorem eqNil {δ δ' : Type} {R : Rep δ} {R' : Rep δ'} {a b : Value} {ds : List δ} {Q : Value → Shared → Prop} (r : RL R ds a s.heap) (r' : RL R' [] b s.heap) (hu : A.units < cLine) (h : Q (.bool ds.isEmpty) s) :
    wpAny (model prog w) A (compareOp .Eq a b) Q E s := by
  obtain ⟨l, ys, rfl, hl, hA⟩ := r
  obtain ⟨l', us, rfl, hl', hA'⟩ := r'
  cases hA'
  cases hA with
  | nil =>
    refine PySem.SeqAt.eq_listAt (e := fun _ => true) hl hl' rfl hu (fun j h1 => by simp at h1) ?_
    exact h
  | cons x r => exact PySem.SeqAt.eq_list_lengthsAt hl hl' (by simp) hu h
theorem neNil {δ δ' : Type} {R : Rep δ} {R' : Rep δ'} {a b : Value} {ds : List δ} {Q : Value → Shared → Prop} (r : RL R ds a s.heap) (r' : RL R' [] b s.heap) (hu : A.units < cLine) (h : Q (.bool (!ds.isEmpty)) s) :
    wpAny (model prog w) A (compareOp .NotEq a b) Q E s := by
  obtain ⟨l, ys, rfl, hl, hA⟩ := r
  obtain ⟨l', us, rfl, hl', hA'⟩ := r'
  cases hA'
  cases hA with
  | nil =>
    refine PySem.SeqAt.RcNeAt.lists (e := fun _ => true) hl hl' rfl hu (fun j h1 => by simp at h1) prog w E Q ?_
    exact h
  | cons x r => exact PySem.SeqAt.RcNeAt.lists_lengths hl hl' (by simp) hu prog w E Q h

/-! items, slices, displays -/
theorem getI {δ : Type} {R : Rep δ} {l : Value} {ds : List δ} {k : Int} {t : Tok} {d : δ} {Q : Value → Shared → Prop} (r : RL R ds l s.heap) (h0 : 0 ≤ k) (hk : k < 2 ^ 63) (hd : ds[k.toNat]? = some d)
    (h : ∀ v, R d v s.heap → Q v s) : wpAny (model prog w) A (getItem l (.int k t)) Q E s := by
  obtain ⟨a, ys, rfl, hl, hA⟩ := r
  obtain ⟨v, e, hv⟩ := hA.getL _ _ hd
  exact wpAny_getItem_list hl h0 hk (by simpa using e) (h v hv)
theorem RL.typeIs {δ : Type} {R : Rep δ} {l : Value} {ds : List δ} (r : RL R ds l s.heap) : s.TypeIs l "list" := by
  obtain ⟨a, ys, rfl, hl, hA⟩ := r
  exact hl.typeIs
/-- value[slice] where the slice is no Slice and the base's list needs no letting go -/
theorem subI {δ : Type} {R : Rep δ} {value slice : Expr} {pos : Pos} {Q : Value → Shared → Prop}
    (h : wpAny (model prog w) A (eval value env) (fun o s₁ => wpAny (model prog w) A (eval slice env) (fun i s₂ => ∃ ds d k t, RL R ds o s₂.heap ∧ i = .int k t ∧ 0 ≤ k ∧ k < 2 ^ 63 ∧ ds[k.toNat]? = some d ∧ ∀ v, R d v s₂.heap → Q v s₂) E s₁) E s)
    (hs : ∀ o i, subscripted slice false o i = operate [o, i] (getItem o i) := by intro _ _; with_unfolding_all rfl) :
    wpAny (model prog w) A (eval (.Subscript value slice pos) env) Q E s := by
  refine Subscript_ (wpAny_mono h (fun o s₁ h₁ => wpAny_mono h₁ (fun i s₂ h₂ => ?_) fun _ _ e => e) fun _ _ e => e)
  obtain ⟨ds, d, k, t, r, rfl, h0, hk, hd, hQ⟩ := h₂
  unfold subscriptTail
  refine wpAny_bind ?_
  rw [getitemInPython_of_ne r.typeIs.not_modules]
  refine wpAny_bind (wpAny_specialOf r.typeIs slot_list_getitem.lookup ?_)
  have fin : wpAny (model prog w) A (subscripted slice false o (.int k t)) (fun r s₃ => wpAny (model prog w) A (letTemporaryGo value o r >>= fun _ => pure r) Q E s₃) E s₂ := by
    rw [hs]
    exact wpAny_operating (getI r h0 hk hd fun v hv => wpAny_bind (wpAny_letTemporaryGo (wpAny_pure (hQ v hv))))
  first
    | exact wpAny_pure (wpAny_bind fin)
    | exact wpAny_bind (wpAny_pure (wpAny_bind fin))
    | exact wpAny_bind fin
/-- value[k:] -/
theorem sliceI {δ : Type} {R : Rep δ} (hm : Mono R) {value lower : Expr} {p pos : Pos} {Q : Value → Shared → Prop}
    (h : wpAny (model prog w) A (eval value env) (fun o s₁ => wpAny (model prog w) A (eval lower env) (fun i s₂ => ∃ (ds : List δ) (k : Nat) (t : Tok), RL R ds o s₂.heap ∧ i = .int (k : Int) t ∧ k ≤ ds.length ∧ ds.length ≤ sizeLine ∧
      ∀ v h', s₂.heap.StaysIn h' → RL R (ds.drop k) v h' → Q v { s₂ with heap := h' }) E s₁) E s)
    (hg : ∀ o r, letTemporaryGo value o r = pure () := by intro _ _; rfl) :
    wpAny (model prog w) A (eval (.Subscript value (.Slice (some lower) none none p) pos) env) Q E s := by
  refine wpAny_Subscript_list_slice (wpAny_mono h (fun o s₁ h₁ => ?_) fun _ _ e => e) hg
  refine wpAny_mono h₁ (fun i s₂ h₂ => ?_) fun _ _ e => e
  refine wpAny_pure ?_
  obtain ⟨ds, k, t, ⟨a, ys, rfl, hl, hA⟩, rfl, hk, hsz, hQ⟩ := h₂
  have hlen : ys.length = ds.length := hA.len.symm
  refine ⟨a, _, some (k : Int), none, rfl, hl, by simpa [hlen] using hsz, .int _ _, .none, ?_⟩
  have st := stays_trans (stays_push s₂.heap { cls := .type "slice", data := .fields #[.int (k : Int) t, .none, .none] }) (stays_push _ { cls := .type "list", data := .seq (slicePick ys.toArray (some (k : Int)) none none) })
  refine hQ _ _ st ⟨_, ys.drop k, rfl, ?_, (hA.drop k).mono fun _ _ r => hm _ _ _ _ r st⟩
  rw [slicePick_from _ _ (by simp [hlen, hk])]
  refine ⟨{ cls := .type "list", data := .seq (ys.toArray.toList.drop k).toArray }, ?_, rfl, 0, by simp⟩
  rw [show s₂.heap.objs.size + 1 = (s₂.heap.push { cls := .type "slice", data := .fields #[.int (k : Int) t, .none, .none] }).objs.size by rw [Heap.size_push]]
  exact Heap.get?_push_size _ rfl
/-- [] -/
theorem dispNil {pos : Pos} {δ : Type} (R : Rep δ) {Q : Value → Shared → Prop} (h : ∀ a h', s.heap.StaysIn h' → s.heap.get? a = none → h'.PlainList a #[] → RL R [] (.ref a) h' → Q (.ref a) { s with heap := h' }) :
    wpAny (model prog w) A (eval (.List [] pos) env) Q E s := by
  refine wpAny_List (spliced_nil ⟨by decide, h _ _ (stays_push _ _) (fresh_size _) ⟨0, ?_⟩ ⟨_, [], rfl, ⟨_, Heap.get?_push_size _ rfl, rfl, 0, rfl⟩, .nil⟩⟩)
  exact Heap.get?_push_size _ rfl
theorem truthyL {δ : Type} {R : Rep δ} {l : Value} {ds : List δ} {Q : Bool → Shared → Prop} (r : RL R ds l s.heap) (hsz : ds.length < 2 ^ 63) (h : Q (!ds.isEmpty) { s with toks := s.toks + 1 + 1 }) :
    wpAny (model prog w) A (truthy l) Q E s := by
  obtain ⟨a, ys, rfl, hl, hA⟩ := r
  have hlen : ys.length = ds.length := hA.len.symm
  refine wpAny_truthy_list hl (by simp only [List.size_toArray]; omega) ?_
  rw [show ys.toArray.isEmpty = ds.isEmpty by cases hA <;> rfl]; exact h
theorem lenL {δ : Type} {R : Rep δ} {l : Value} {ds : List δ} {Q : Value → Shared → Prop} (r : RL R ds l s.heap) (hsz : ds.length < 2 ^ 63) (h : Q (.int ds.length (s.toks + 1)) { s with toks := s.toks + 1 + 1 }) :
    wpAny (model prog w) A (call (.builtin "len") [l]) Q E s := by
  obtain ⟨a, ys, rfl, hl, hA⟩ := r
  have hlen : ys.length = ds.length := hA.len.symm
  refine len_list hl (by simp only [List.size_toArray]; omega) ?_
  rw [show ys.toArray.size = ds.length by simp [hlen]]; exact h
end
end C3P

/-! part C3Iter -/
namespace C3P
open PySem PySem.W PyProof.Rows PySem.Calls

theorem entry_unchain : entryFor table "proto.unchain" = some Builtin.«proto.unchain» := entryFor_of_fast (by kernel_rfl)

section
variable {prog : Program} {w : World} {A : Around} {E : Value → Shared → Prop} {s : Shared}

theorem update_keeps {h b : Heap} {a : Addr} {f : Obj → Obj} (k : b.StaysIn h) (n : b.get? a = none) : b.StaysIn (h.update a f) := fun c o e => by
  rw [Heap.get?_update_other _ _ (fun q : a = c => by rw [← q, n] at e; cases e)]; exact k c o e

theorem stop_new {α : Type} {Q : α → Shared → Prop} (hh : HOk A s.heap) (k : ∀ h' e o, s.heap.StaysIn h' → h'.get? e = some o → o.cls = .type "StopIteration" → E (.ref e) { s with heap := h' }) :
    wpAny (model prog w) A (newExc (.type "StopIteration") [] >>= fun e => raiseNew e) Q E s := by
  refine wpAny_bind ?_
  simp only [newExc, newTuple]
  refine wpAny_bind (wpAny_newObj_type ?_ (by size_fits))
  refine wpAny_bind (m := firstArgMember _ _) (wpAny_of_eq (a := Value.none) (by first | rfl | (simp only [firstArgMember]; rfl)) ?_)
  refine wpAny_newObj_type ?_ (by size_fits)
  simp only [raiseNew]
  refine wpAny_bind (wpAny_handled ?_)
  have st := stays_trans (stays_push s.heap { cls := .type "tuple", dict := none, data := .seq ([] : List Value).toArray })
    (stays_push _ { cls := .type "StopIteration", dict := none, data := .fields (#[.ref s.heap.objs.size, .none, .none, .none, .bool false, .none] ++ ownMembersOf (.type "StopIteration") []) })
  rcases hh with hh | ⟨x, ox, vs, hh, hx, hd, h2⟩
  · rw [hh]
    exact wpAny_bind (wpAny_pure (wpAny_throw (k _ _ _ st (Heap.get?_push_size _ rfl) rfl)))
  · rw [hh]
    have hne : (Value.ref x != Value.ref (s.heap.push { cls := .type "tuple", dict := none, data := .seq ([] : List Value).toArray }).objs.size) = true := by
      refine bne_iff_ne.mpr fun q => ?_
      have q' : x = (s.heap.push { cls := .type "tuple", dict := none, data := .seq ([] : List Value).toArray }).objs.size := by injection q
      have := Heap.lt_size hx
      rw [q', Heap.size_push] at this
      exact absurd this (Nat.not_lt.mpr (Nat.le_succ _))
    show wpAny _ _ (if (Value.ref x != Value.ref (s.heap.push { cls := .type "tuple", dict := none, data := .seq ([] : List Value).toArray }).objs.size) = true then _ else _) _ _ _
    rw [if_pos hne]
    refine wpAny_bind (wpAny_holding (wpAny_runValue (codeAny_builtin entry_unchain ?_)))
    show wpAny _ _ (field (.ref x) 2 >>= _) _ _ _
    refine wpAny_bind (wpAny_field (st _ _ hx) hd h2 ?_)
    show wpAny _ _ (ret .none >>= fun y => pure y) _ _ _
    refine wpAny_bind (wpAny_pure (wpAny_pure ?_))
    refine wpAny_bind (m := updateField _ 2 (.ref x)) ?_
    refine wpAny_setField (a := (s.heap.push { cls := .type "tuple", dict := none, data := .seq ([] : List Value).toArray }).objs.size) (Heap.get?_push_size _ rfl) rfl (by show 2 < 6; decide) ?_
    refine wpAny_throw (k _ _ _ (update_keeps st ?_) (Heap.get?_update_self _ (Heap.get?_push_size _ rfl) rfl) rfl)
    exact fresh_ge _ (by rw [Heap.size_push]; exact Nat.le_succ _)

theorem HOk.update {h : Heap} {a : Addr} {f : Obj → Obj} (x : HOk A h) (n : ∀ o vs, h.get? a = some o → o.data = .fields vs → vs[2]? ≠ some .none) : HOk A (h.update a f) := by
  rcases x with x | ⟨e, o, vs, hh, ho, hd, h2⟩
  · exact .inl x
  · refine .inr ⟨e, o, vs, hh, ?_, hd, h2⟩
    rw [Heap.get?_update_other _ _ (fun q : a = e => n o vs (q ▸ ho) hd h2)]; exact ho

theorem next_list_end {it l : Addr} {i : Nat} {items : Array Value} {Q : Option Value → Shared → Prop} (hh : HOk A s.heap)
    (hit : s.heap.IsListIter it l i) (hl : s.heap.IsList l items) (hx : items[i]? = none)
    (hQ : ∀ h', Mod [it] s.heap h' → Q none { s with heap := h' }) : wpAny (model prog w) A (pyNext (.ref it)) Q E s := by
  obtain ⟨o, ho, hc, hd⟩ := id hit
  obtain ⟨ol, hol, _, nl, hdl⟩ := hl
  unfold pyNext
  refine wpAny_bind (wpAny_attempt (wpAny_callSpecial?_slot (name := Str.ofString "__next__") hit.typeIs slot_listiter_next
    (wpAny_call_entry slot_listiter_next hit.typeIs entry_listiter_next ?_ (args_listiter_next _))))
  show wpAny _ _ (field (.ref it) 0 >>= _) _ _ s
  refine wpAny_bind (wpAny_field ho hd (x := .ref l) rfl ?_)
  show wpAny _ _ (if (Value.ref l == Value.none) = true then _ else _) _ _ s
  rw [if_neg (show ¬ ((Value.ref l == Value.none) = true) from Bool.false_ne_true)]
  show wpAny _ _ (field (.ref it) 1 >>= _) _ _ s
  refine wpAny_bind (wpAny_field ho hd (x := .int i 0) rfl ?_)
  show wpAny _ _ (seqItems? (.ref l) >>= _) _ _ s
  refine wpAny_bind (wpAny_seqItems hol hdl ?_)
  simp only [Int.toNat_natCast, hx]
  refine wpAny_bind (wpAny_rule (wpAny_bind (wpAny_setField ho hd (by simp) ?_)))
  refine stop_new (HOk.update (A := A.in1) hh fun o' vs e q => ?_) fun h' e o' st he hcls => ?_
  · rw [ho] at e; cases e
    rw [hd] at q; cases q
    simp
  · refine wpAny_bind (wpAny_isInstance (T := "StopIteration") (b := true) ⟨_, he, hcls⟩ isSubtype_stop ?_)
    exact wpAny_pure (hQ _ fun b o n e => st _ _ (by rw [Heap.get?_update_other _ _ (fun q : it = b => n (by simp [q]))]; exact e))

theorem next_range_end {it : Addr} {x left step : Int} {Q : Option Value → Shared → Prop} (hh : HOk A s.heap) (hit : IsRangeIter s.heap it x left step) (hleft : left ≤ 0)
    (hQ : ∀ h', s.heap.StaysIn h' → Q none { s with heap := h' }) : wpAny (model prog w) A (pyNext (.ref it)) Q E s := by
  have hT : s.TypeIs (.ref it) "range_iterator" := ⟨_, hit, rfl⟩
  unfold pyNext
  refine wpAny_bind (wpAny_attempt (wpAny_callSpecial?_slot (name := Str.ofString "__next__") hT F.slot_range_iterator_next
    (wpAny_call_entry F.slot_range_iterator_next hT F.entry_range_iterator_next ?_ (F.args_range_iterator_next_1 _))))
  show wpAny _ _ (field (.ref it) 0 >>= _) _ _ s
  refine wpAny_bind (wpAny_field hit rfl (x := rawInt x) rfl ?_)
  show wpAny _ _ (field (.ref it) 1 >>= _) _ _ s
  refine wpAny_bind (wpAny_field hit rfl (x := rawInt left) rfl ?_)
  show wpAny _ _ (field (.ref it) 2 >>= _) _ _ s
  refine wpAny_bind (wpAny_field hit rfl (x := rawInt step) rfl ?_)
  show wpAny _ _ (if left ≤ 0 then _ else _) _ _ s
  rw [if_pos hleft]
  refine wpAny_bind (wpAny_rule ?_)
  refine wpAny_bind ?_
  refine stop_new (A := A.in1) hh fun h' e o' st he hcls => ?_
  refine wpAny_bind (wpAny_isInstance (T := "StopIteration") (b := true) ⟨_, he, hcls⟩ isSubtype_stop ?_)
  exact wpAny_pure (hQ _ st)

/-- a list's iterator, whatever is handled -/
theorem walksList (I ax : Addr) (hne : ax ≠ I) (items : Array Value) (x : Addr) (hx : A.handled = none ∨ A.handled = some (.ref x)) :
    Walks prog w A I [I, ax, x] [I] items.size (fun i v => items[i]? = some v) (fun i h => h.IsListIter I ax i ∧ h.IsList ax items ∧ HOk A h) where
  sub := fun b hb => by simp at hb; simp [hb]
  frame := fun _ _ _ st hk => ⟨st.1.at fun o e => hk I (by simp) o e, st.2.1.at fun o e => hk ax (by simp) o e, st.2.2.imp id fun ⟨e, o, vs, a, b, c⟩ => by
    have : e = x := by
      rcases hx with hx | hx
      · rw [hx] at a; cases a
      · rw [hx] at a; cases a; rfl
    exact ⟨e, o, vs, a, hk e (by simp [this]) o b, c⟩⟩
  item := fun i s Q E hi st hQ => by
    refine wpAny_pyNext_list_item st.1 st.2.1 (x := items[i]) (by simp [hi]) fun h' hit' hs' => ?_
    refine hQ _ h' s.toks (by simp [hi]) ⟨hit', st.2.1.extBut hs'.extBut hne, st.2.2.imp id fun ⟨e, o, vs, a, b, c⟩ => ⟨e, o, vs, a, hs'.extBut e o ?_ b, c⟩⟩ fun b o hb e => hs'.extBut b o (fun h => hb (by simp [h])) e
    rintro rfl
    obtain ⟨o', ho', _, hd'⟩ := st.1
    rw [b] at ho'; cases ho'
    rw [c.1] at hd'; cases hd'
    exact absurd c.2 (by simp)
  done := fun s Q E st hQ => next_list_end st.2.2 st.1 st.2.1 (by simp) fun h' he' => hQ h' s.toks fun b o hb e => he' b o hb e
  self := fun _ _ _ _ st hQ => wpAny_pyIter_listiter st.1 hQ

theorem walksRange (I : Addr) (a : Int) (n : Nat) (x : Addr) (hx : A.handled = none ∨ A.handled = some (.ref x)) :
    Walks prog w A I [I, x] [I] n (fun i v => ∃ t, v = .int (a + i) t) (fun i h => IsRangeIter h I (a + (i : Nat)) ((n : Int) - (i : Nat)) 1 ∧ HOk A h) where
  sub := fun b hb => by simp at hb; simp [hb]
  frame := fun _ _ _ st hk => ⟨hk I (by simp) _ st.1, st.2.imp id fun ⟨e, o, vs, a, b, c⟩ => by
    have : e = x := by
      rcases hx with hx | hx
      · rw [hx] at a; cases a
      · rw [hx] at a; cases a; rfl
    exact ⟨e, o, vs, a, hk e (by simp [this]) o b, c⟩⟩
  item := fun i s Q E hi st hQ => by
    refine wpAny_pyNext_range_item st.1 (by omega) fun h' hit' hs' => ?_
    refine hQ _ h' _ ⟨_, rfl⟩ ⟨?_, st.2.imp id fun ⟨e, o, vs, a, b, c⟩ => ⟨e, o, vs, a, hs'.extBut e o ?_ b, c⟩⟩ fun b o hb e => hs'.extBut b o (fun h => hb (by simp [h])) e
    · have e1 : a + ((i + 1 : Nat) : Int) = a + (i : Int) + 1 := by push_cast; omega
      have e2 : (n : Int) - ((i + 1 : Nat) : Int) = (n : Int) - (i : Int) - 1 := by push_cast; omega
      rw [e1, e2]; exact hit'
    · rintro rfl
      have st1 : s.heap.get? e = some _ := st.1
      rw [b] at st1; cases st1
      cases c.1
      exact absurd c.2 (by simp [rawInt])
  done := fun s Q E st hQ => next_range_end st.2 st.1 (by omega) fun h' he' => hQ h' s.toks fun b o _ e => he' b o e
  self := fun _ _ _ _ st hQ => wpAny_pyIter_rangeiter st.1 hQ
end
end C3P

/-! part C3Loop -/
namespace C3P
open PySem PySem.W PyProof.Rows PySem.Calls

/-- all objects that are no records stand as they stood -/
def NF (h h' : Heap) : Prop := ∀ a o, h.get? a = some o → (∀ vs, o.data ≠ .fields vs) → h'.get? a = some o
theorem NF.of_stays {h h' : Heap} (k : h.StaysIn h') : NF h h' := fun a o e _ => k a o e
theorem NF.list {h h' : Heap} {a : Addr} {its : Array Value} (x : h.IsList a its) (k : NF h h') : h'.IsList a its :=
  let ⟨o, e, c, n, d⟩ := x; ⟨o, k _ _ e (fun vs q => by rw [d] at q; cases q), c, n, d⟩
theorem NF.plain {h h' : Heap} {a : Addr} {its : Array Value} (x : h.PlainList a its) (k : NF h h') : h'.PlainList a its :=
  let ⟨n, e⟩ := x; ⟨n, k _ _ e (fun vs q => by cases q)⟩
theorem NF.ns {h h' : Heap} {a : Addr} {m : Str → Option Value} (x : h.Ns a m) (k : NF h h') : h'.Ns a m :=
  let ⟨o, es, ep, e, d, r⟩ := x; ⟨o, es, ep, k _ _ e (fun vs q => by rw [d] at q; cases q), d, r⟩
theorem NF.cell {h h' : Heap} {a : Addr} {v : Option Value} (x : h.IsCell a v) (k : NF h h') : h'.IsCell a v :=
  let ⟨o, e, d⟩ := x; ⟨o, k _ _ e (fun vs q => by rw [d] at q; cases q), d⟩
def MonoN {δ : Type} (R : Rep δ) : Prop := ∀ d v h h', R d v h → NF h h' → R d v h'
theorem MonoN.mono {δ : Type} {R : Rep δ} (m : MonoN R) : Mono R := fun _ _ _ _ x k => m _ _ _ _ x (.of_stays k)
theorem RInt.monoN : MonoN RInt := fun _ _ _ _ x _ => x
theorem RBool.monoN : MonoN RBool := fun _ _ _ _ x _ => x
theorem RL.monoN {δ : Type} {R : Rep δ} (m : MonoN R) : MonoN (RL R) := fun _ _ _ _ x k =>
  let ⟨a, ys, e, hl, hA⟩ := x; ⟨a, ys, e, k.list hl, hA.mono fun _ _ r => m _ _ _ _ r k⟩

/-- what stood at h₀ stands, and so do g's records -/
structure Ok (h₀ g h : Heap) : Prop where
  k : h₀.StaysIn h
  f : ∀ a o vs, g.get? a = some o → o.data = .fields vs → h.get? a = some o
theorem Ok.refl {h₀ g : Heap} (k : h₀.StaysIn g) : Ok h₀ g g := ⟨k, fun _ _ _ e _ => e⟩
theorem Ok.stays {h₀ g h h' : Heap} (x : Ok h₀ g h) (k : h.StaysIn h') : Ok h₀ g h' := ⟨stays_trans x.k k, fun a o vs e d => k _ _ (x.f a o vs e d)⟩
theorem Ok.same {h₀ g h h' : Heap} {a : Addr} (x : Ok h₀ g h) (hs : Heap.SameBut a h h') (n : h₀.get? a = none) (nf : ∀ o, h.get? a = some o → ∀ vs, o.data ≠ .fields vs) : Ok h₀ g h' :=
  ⟨stays_same x.k hs n, fun b o vs e d => (hs.2 b (fun q => nf o (q ▸ x.f b o vs e d) vs d)).trans (x.f b o vs e d)⟩
theorem Ok.trans {h₀ g g' h : Heap} (x : Ok h₀ g g') (y : Ok h₀ g' h) : Ok h₀ g h := ⟨y.k, fun a o vs e d => y.f a o vs (x.f a o vs e d) d⟩
theorem Ok.hok {A : Around} {h₀ g h : Heap} (x : Ok h₀ g h) (hh : HOk A h₀) : HOk A h := hh.stays x.k

section
variable {prog : Program} {w : World} {A : Around} {s : Shared} {env : Env}

abbrev never : Value → Shared → Prop := fun _ _ => False

/-- what a turn of a loop must leave -/
def TurnTo (s : Shared) (h₀ g : Heap) (J : Heap → Prop) (Q : Flow → Shared → Prop) : Flow → Shared → Prop := fun f s₃ => match f with
  | .next => ∃ h' tk', s₃ = { s with heap := h', toks := tk' } ∧ Ok h₀ g h' ∧ J h'
  | .cont => ∃ h' tk', s₃ = { s with heap := h', toks := tk' } ∧ Ok h₀ g h' ∧ J h'
  | .brk => Q .next s₃
  | .ret v => Q (.ret v) s₃

theorem for_core {h₀ g : Heap} {I : Addr} {fp : List Addr} {n : Nat} {P : Nat → Value → Prop} {St : Nat → Heap → Prop} {x : Str} {px : Pos} {body orelse : List Stmt} {Q : Flow → Shared → Prop} {R : Result → Shared → Prop}
    (W : Walks prog w A I fp [I] n P St) (J : Nat → Heap → Prop)
    (hI : ∀ i h, St i h → ∃ o vs, h.get? I = some o ∧ o.data = .fields vs)
    (hSt : ∀ i h h', St i h → J i h' → Ok h₀ h h' → St i h')
    (hSt' : ∀ i h h', St (i + 1) h → J (i + 1) h' → Ok h₀ h h' → St (i + 1) h')
    (hn : h₀.get? I = none) (hng : ∀ o vs, g.get? I = some o → o.data ≠ .fields vs)
    (hJ : ∀ i h h', J i h → NF h h' → J i h') (hok : Ok h₀ g s.heap) (hst : St 0 s.heap) (h0 : J 0 s.heap)
    (turn : ∀ i v h tk, i < n → P i v → Ok h₀ g h → J i h →
      wpAny (model prog w) A (assign (.Name x px) env v) (fun _ s₂ => wpAny (model prog w) A (execs body env) (TurnTo s h₀ h (J (i + 1)) (fun f s' => R (.ok f) s')) never s₂) never { s with heap := h, toks := tk })
    (done : ∀ h tk, Ok h₀ g h → J n h → wpAny (model prog w) A (execs orelse env) (fun f s' => R (.ok f) s') never { s with heap := h, toks := tk }) :
    codeAny (model prog w) A (.forLoop (.Name x px) (.ref I) body orelse env) R s := by
  have nf : ∀ i h h', St i h → (∀ b o, b ∉ [I] → h.get? b = some o → h'.get? b = some o) → NF h h' := fun i h h' st k a o e d => k a o (fun hm => by
    obtain ⟨o', vs, e', d'⟩ := hI i h st
    rw [List.mem_singleton.mp hm, e'] at e; cases e; exact d vs d') e
  have ok : ∀ i h h', St i h → Ok h₀ g h → (∀ b o, b ∉ [I] → h.get? b = some o → h'.get? b = some o) → Ok h₀ g h' := fun i h h' st k m =>
    ⟨fun b o e => m b o (fun hm => by rw [List.mem_singleton.mp hm, hn] at e; cases e) (k.k b o e), fun b o vs e d => m b o (fun hm => by
      rw [List.mem_singleton.mp hm] at e; exact hng o vs e d) (k.f b o vs e d)⟩
  refine codeAny_forLoop (fun k s' => ∃ h' tk i, s' = { s with heap := h', toks := tk } ∧ St i h' ∧ Ok h₀ g h' ∧ J i h' ∧ i ≤ n ∧ k = n + 1 - i) ?_ (n + 1) ⟨s.heap, s.toks, 0, rfl, hst, hok, h0, Nat.zero_le _, rfl⟩
  rintro k s' ⟨h', tk, i, rfl, st, hk, hj, hi, rfl⟩
  by_cases hlt : i < n
  · refine W.item i _ _ _ hlt st fun v h₁ tk₁ hP st₁ m₁ => ?_
    have k₁ := ok i h' h₁ st hk m₁
    have j₁ := hJ i h' h₁ hj (nf i h' h₁ st m₁)
    refine wpAny_noRaise (wpAny_mono (turn i v h₁ tk₁ hlt hP k₁ j₁) (fun _ s₂ h₂ => wpAny_noRaise (wpAny_mono h₂ (fun f s₃ h₃ => ?_) fun _ _ e => e)) fun _ _ e => e)
    have fin : (∃ h' tk', s₃ = { s with heap := h', toks := tk' } ∧ Ok h₀ h₁ h' ∧ J (i + 1) h') → ∃ m, m < n + 1 - i ∧ ∃ h' tk i, s₃ = { s with heap := h', toks := tk } ∧ St i h' ∧ Ok h₀ g h' ∧ J i h' ∧ i ≤ n ∧ m = n + 1 - i := by
      rintro ⟨g₃, tk₃, e₃, k₃, j₃⟩
      exact ⟨n + 1 - (i + 1), by omega, g₃, tk₃, i + 1, e₃, hSt' i h₁ g₃ st₁ j₃ k₃, k₁.trans k₃, j₃, hlt, rfl⟩
    cases f with
    | next => exact fin h₃
    | cont => exact fin h₃
    | brk => exact h₃
    | ret v => exact h₃
  · obtain rfl : i = n := Nat.le_antisymm hi (Nat.not_lt.mp hlt)
    refine W.done _ _ _ st fun h₁ tk₁ m₁ => ?_
    exact wpAny_noRaise (done h₁ tk₁ (ok i h' h₁ st hk m₁) (hJ i h' h₁ hj (nf i h' h₁ st m₁)))

/-- for x in a list that stands -/
theorem for_list {h₀ g : Heap} {l : Addr} {items : Array Value} {x : Str} {px pos : Pos} {iter : Expr} {body orelse : List Stmt} {Q : Flow → Shared → Prop} {E : Value → Shared → Prop}
    (J : Nat → Heap → Prop) (hh : HOk A h₀) (hok : Ok h₀ g s.heap) (hl : ∀ i h, J i h → h.IsList l items) (hJ : ∀ i h h', J i h → NF h h' → J i h') (h0 : J 0 s.heap)
    (hi : ∀ Q' : Value → Shared → Prop, Q' (.ref l) s → wpAny (model prog w) A (eval iter env) Q' never s)
    (turn : ∀ i v h tk, items[i]? = some v → Ok h₀ g h → J i h →
      wpAny (model prog w) A (assign (.Name x px) env v) (fun _ s₂ => wpAny (model prog w) A (execs body env) (TurnTo s h₀ h (J (i + 1)) Q) never s₂) never { s with heap := h, toks := tk })
    (done : ∀ h tk, Ok h₀ g h → J items.size h → wpAny (model prog w) A (execs orelse env) Q never { s with heap := h, toks := tk })
    (hs : ∀ x, foldedSetIterable iter env x = pure x := by intro _; rfl) :
    wpAny (model prog w) A (exec (.For (.Name x px) iter body orelse pos) env) Q E s := by
  refine wpAny_noRaise (wpAny_For (hi _ ?_) hs)
  have hls := hl 0 _ h0
  refine wpAny_pyIter_list hls ?_
  have st := stays_push s.heap { cls := .type "list_iterator", data := .fields #[.ref l, .int 0 0] }
  obtain ⟨x', hx'⟩ : ∃ x', A.handled = none ∨ A.handled = some (.ref x') := by
    rcases hh with e | ⟨e, _, _, a, _⟩
    · exact ⟨0, .inl e⟩
    · exact ⟨e, .inr a⟩
  have hlt : l ≠ s.heap.objs.size := by obtain ⟨o, e, _⟩ := hls; exact Nat.ne_of_lt (Heap.lt_size e)
  refine for_core (s := { s with heap := s.heap.push { cls := .type "list_iterator", data := .fields #[.ref l, .int 0 0] } }) (h₀ := h₀) (g := g) (Q := Q) (n := items.size) (walksList s.heap.objs.size l hlt items x' hx') J
    (fun i h st => ?_) (fun i h h' st j k => ⟨?_, hl _ _ j, k.hok hh⟩) (fun i h h' st j k => ⟨?_, hl _ _ j, k.hok hh⟩) (fresh_stays hok.k (fresh_size _)) (fun o vs e d => ?_) hJ (hok.stays st) ⟨⟨_, Heap.get?_push_size _ rfl, rfl, rfl⟩, isList_stays hls st, (hok.stays st).hok hh⟩
    (hJ _ _ _ h0 (.of_stays st)) (fun i v h tk hi hP k j => turn i v h tk hP k j) done
  · obtain ⟨o, e, _, d⟩ := st.1; exact ⟨o, _, e, d⟩
  · obtain ⟨o, e, c, d⟩ := st.1; exact ⟨o, k.f _ _ _ e d, c, d⟩
  · obtain ⟨o, e, c, d⟩ := st.1; exact ⟨o, k.f _ _ _ e d, c, d⟩
  · have := hok.f _ o vs e d
    rw [fresh_size] at this; cases this

/-- for x in range(a, b) -/
theorem for_range {h₀ g : Heap} {a b : Int} {x : Str} {px pos : Pos} {iter : Expr} {body orelse : List Stmt} {Q : Flow → Shared → Prop} {E : Value → Shared → Prop}
    (J : Nat → Heap → Prop) (hh : HOk A h₀) (hok : Ok h₀ g s.heap) (hJ : ∀ i h h', J i h → NF h h' → J i h') (h0 : J 0 s.heap) (hab : 0 ≤ a ∧ a < 2 ^ 62 ∧ 0 ≤ b ∧ b < 2 ^ 62)
    (hi : ∀ Q' : Value → Shared → Prop, (∀ r t u v h tk, s.heap.StaysIn h → IsRange h r a b 1 t u v → Q' (.ref r) { s with heap := h, toks := tk }) → wpAny (model prog w) A (eval iter env) Q' never s)
    (turn : ∀ i t h tk, i < (b - a).toNat → Ok h₀ g h → J i h →
      wpAny (model prog w) A (assign (.Name x px) env (.int (a + i) t)) (fun _ s₂ => wpAny (model prog w) A (execs body env) (TurnTo s h₀ h (J (i + 1)) Q) never s₂) never { s with heap := h, toks := tk })
    (done : ∀ h tk, Ok h₀ g h → J (b - a).toNat h → wpAny (model prog w) A (execs orelse env) Q never { s with heap := h, toks := tk })
    (hs : ∀ x, foldedSetIterable iter env x = pure x := by intro _; rfl) :
    wpAny (model prog w) A (exec (.For (.Name x px) iter body orelse pos) env) Q E s := by
  refine wpAny_noRaise (wpAny_For (hi _ fun r t u v h tk sth hr => ?_) hs)
  have hsz : Builtin.Range.rangeSize a b 1 = ((b - a).toNat : Int) := by rw [rangeSize_one]; split <;> omega
  refine wpAny_pyIter_range hr (small_one (by omega) hab.2.1 (by omega) hab.2.2.2) ?_
  have st := stays_push h { cls := .type "range_iterator", data := .fields #[rawInt a, rawInt (Builtin.Range.rangeSize a b 1), rawInt 1] }
  have okh := hok.stays sth
  obtain ⟨x', hx'⟩ : ∃ x', A.handled = none ∨ A.handled = some (.ref x') := by
    rcases hh with e | ⟨e, _, _, a, _⟩
    · exact ⟨0, .inl e⟩
    · exact ⟨e, .inr a⟩
  refine for_core (s := { s with heap := h.push { cls := .type "range_iterator", data := .fields #[rawInt a, rawInt (Builtin.Range.rangeSize a b 1), rawInt 1] }, toks := tk }) (h₀ := h₀) (g := g) (Q := Q) (n := (b - a).toNat) (walksRange h.objs.size a _ x' hx') J
    (fun i h st => ⟨_, _, st.1, rfl⟩) (fun i h h' st j k => ⟨k.f _ _ _ st.1 rfl, k.hok hh⟩) (fun i h h' st j k => ⟨k.f _ _ _ st.1 rfl, k.hok hh⟩) (fresh_stays okh.k (fresh_size _)) (fun o vs e d => ?_) hJ (okh.stays st) ⟨?_, (okh.stays st).hok hh⟩
    (hJ _ _ _ h0 (.of_stays (stays_trans sth st))) (fun i v h tk hi hP k j => ?_) done
  · have := okh.f _ o vs e d
    rw [fresh_size] at this; cases this
  · rw [hsz]; simpa using Heap.get?_push_size _ rfl
  · obtain ⟨t', rfl⟩ := hP
    exact turn i t' h tk hi k j
end
end C3P

/-! part C3Comp -/
namespace C3P
open PySem PySem.W PyProof.Rows PySem.Calls

/-- all sequences but D stand as they stood -/
def SK (D : Addr) (h h' : Heap) : Prop := ∀ a o its n, h.get? a = some o → o.data = .seq its n → a ≠ D → h'.get? a = some o
theorem SK.of_stays {D : Addr} {h h' : Heap} (k : h.StaysIn h') : SK D h h' := fun a o _ _ e _ _ => k a o e
theorem SK.plain {D a : Addr} {h h' : Heap} {its : Array Value} (x : h.PlainList a its) (k : SK D h h') (hne : a ≠ D) : h'.PlainList a its := let ⟨n, e⟩ := x; ⟨n, k _ _ its n e rfl hne⟩

section
variable {prog : Program} {w : World} {A : Around} {s : Shared} {env : Env}

/-- the comprehension's own environment: its names, and a cell of its own for x if x is captured -/
theorem newCompEnv {scope : Scope} {globals builtins : Addr} {cl cells : List (Str × Addr)} {qual : Str} {Q : Env → Shared → Prop}
    {E : Value → Shared → Prop} (hcs : cellsFrom (s.heap.objs.size + 1) scope.names cl = cells)
    (h : Q (newEnv scope s.heap.objs.size globals cells qual none .none (some env) builtins) { s with heap := pushCells (s.heap.push { cls := .type "dict", data := .dict #[] }) scope.names }) :
    wpAny (model prog w) A (newFunctionEnv scope globals cl [] qual none .none (some env) builtins) Q E s := by
  simp only [newFunctionEnv, Option.isSome_some, if_true]
  refine wpAny_bind (wpAny_alloc (wpAny_bind ?_))
  refine wpAny_layCells _ (fun _ _ _ => rfl) _ _ _ _ ?_
  rw [show ({ s with heap := s.heap.push { cls := .type "dict", data := .dict #[] } } : Shared).heap.objs.size = s.heap.objs.size + 1 from Heap.size_push .., hcs]
  exact wpAny_bind (by rw [List.forIn_nil]; exact wpAny_pure (wpAny_pure h))

/-- the loop's name: a plain one (c = C), or a cell -/
structure VarOf (prog : Program) (w : World) (A : Around) (cenv : Env) (C : Addr) (x : Str) (c : Addr) (LV : Value → Heap → Prop) (Slot : Heap → Prop) : Prop where
  store : ∀ (s : Shared) (v : Value) (px : Pos) (Q : Unit → Shared → Prop) (E : Value → Shared → Prop), Slot s.heap → (∀ h' tk, Heap.SameBut c s.heap h' → LV v h' → Slot h' → Q () { s with heap := h', toks := tk }) →
    wpAny (model prog w) A (assign (.Name x px) cenv v) Q E s
  slot : ∀ h h', Slot h → NF h h' → Slot h'
  slotD : ∀ h h' a, Slot h → Heap.SameBut a h h' → a ≠ c → a ≠ C → Slot h'
  lv : ∀ v h h', LV v h → h.StaysIn h' → LV v h'
  kind : ∀ h, Slot h → ∃ o, h.get? c = some o ∧ (∀ vs, o.data ≠ .fields vs) ∧ ∀ its n, o.data ≠ .seq its n
  ns : ∀ h, Slot h → ∃ m, h.Ns C m

theorem comp_core {B : Heap} {I : Addr} {fp : List Addr} {n : Nat} {P : Nat → Value → Prop} {St : Nat → Heap → Prop} {x : Str} {px : Pos} {elt iter : Expr} {ifs : List Expr} {scope : Scope} {pos : Pos}
    {cl : List (Str × Addr)} {cells : Addr → List (Str × Addr)} {cOf : Addr → Addr} {LV : Addr → Value → Heap → Prop} {Slot : Addr → Heap → Prop} {RR : Value → Addr → Result → Shared → Prop} {E : Value → Shared → Prop}
    (W : Walks prog w A I fp [I] n P St) (hsz : n ≤ sizeLine) (hfp : ∀ b ∈ fp, b < s.heap.objs.size) (hst : St 0 s.heap) (hI : ∀ i h, St i h → ∃ o vs, h.get? I = some o ∧ o.data = .fields vs)
    (hB : B.StaysIn s.heap) (hBI : B.get? I = none)
    (hcells : ∀ n, cellsFrom (n + 1) scope.names cl = cells n) (hc : ∀ C, C ≤ cOf C)
    (V : ∀ C, VarOf prog w A (compEnvC scope (cells C) C env) C x (cOf C) (LV C) (Slot C)) (hslot : ∀ h : Heap, Slot h.objs.size (pushCells (h.push { cls := .type "dict", data := .dict #[] }) scope.names))
    (J : Addr → Nat → List Value → Heap → Prop) (p : Nat → Bool)
    (hJ : ∀ D i ys h h', J D i ys h → SK D h h' → J D i ys h') (h0 : ∀ D h, B.StaysIn h → J D 0 [] h)
    (hskip : ∀ D i ys h, i < n → p i = false → J D i ys h → J D (i + 1) ys h)
    (htest : ∀ C i v (s₃ : Shared) (Q : Bool → Shared → Prop), i < n → P i v → B.StaysIn s₃.heap → LV C v s₃.heap → (∀ h' tk, s₃.heap.StaysIn h' → Q (p i) { s₃ with heap := h', toks := tk }) →
      wpAny (model prog w) A (forIn ifs true fun c r => if r = true then do let ok ← PySem.isTrue c (compEnvC scope (cells C) C env) (eval c (compEnvC scope (cells C) C env)); pure (ForInStep.yield ok) else pure (ForInStep.yield r)) Q never s₃)
    (helt : ∀ C D i v ys (s₃ : Shared) (Q : Value → Shared → Prop), i < n → P i v → p i = true → B.StaysIn s₃.heap → LV C v s₃.heap → B.get? D = none → (∃ o, s₃.heap.get? D = some o) → J D i ys s₃.heap →
      (∀ y h' tk, s₃.heap.StaysIn h' → J D (i + 1) (ys ++ [y]) h' → Q y { s₃ with heap := h', toks := tk }) → wpAny (model prog w) A (eval elt (compEnvC scope (cells C) C env)) Q never s₃)
    (hfin : ∀ D C ys h tk m, B.StaysIn h → B.get? D = none → B.get? C = none → C ≠ D → h.Ns C m → h.PlainList D (List.toArray ys) → J D n ys h → RR (.ref D) C (.ok .next) { s with heap := h, toks := tk }) :
    wpAny (model prog w) A (newList []) (fun acc s₃ => wpAny (model prog w) A (newFunctionEnv scope env.globals cl [] env.qual none .none (some env)) (fun cenv s₄ =>
      codeAny (model prog w) A (.compStart (.ListComp elt [⟨.Name x px, iter, ifs, 0⟩] scope pos) 0 (.ref I) acc { cenv with scope := relabel scope env }) (RR acc cenv.locals) s₄) E s₃) E s := by
  refine wpAny_newObj_type (newCompEnv (hcells _) ?_)
  dsimp only
  generalize hH2 : s.heap.push { cls := .type "list", dict := none, data := .seq ([] : List Value).toArray } = H2
  have hC : H2.objs.size = s.heap.objs.size + 1 := by rw [← hH2, Heap.size_push]
  have hDC : s.heap.objs.size ≠ H2.objs.size := by rw [hC]; exact Nat.ne_of_lt (Nat.lt_succ_self _)
  generalize hDe : s.heap.objs.size = D at hC hDC
  generalize hCe : H2.objs.size = C at hC hDC
  have hlc : D < cOf C := Nat.lt_of_lt_of_le (by rw [hC]; exact Nat.lt_succ_self _) (hc C)
  have hDc : D ≠ cOf C := Nat.ne_of_lt hlc
  have hfp' : ∀ b ∈ fp, b < D := fun b hb => by rw [← hDe]; exact hfp b hb
  have hDf : D ∉ fp := fun hm => Nat.lt_irrefl _ (hfp' _ hm)
  have hcf : cOf C ∉ fp := fun hm => Nat.lt_irrefl _ (Nat.lt_trans hlc (hfp' _ hm))
  have hCf : C ∉ fp := fun hm => by have := hfp' _ hm; rw [hC] at this; exact absurd this (Nat.not_lt.mpr (Nat.le_succ _))
  have hIf : I ∈ fp := W.sub I (List.mem_singleton.mpr rfl)
  have hID : I ≠ D := Nat.ne_of_lt (hfp' I hIf)
  have hIc : I ≠ cOf C := fun q => hcf (q ▸ hIf)
  have fresh : ∀ a, D ≤ a → B.get? a = none := fun a ha => fresh_stays hB (fresh_ge _ (by rw [hDe]; exact ha))
  have hBD := fresh D (Nat.le_refl _)
  have hBC := fresh C (by rw [hC]; exact Nat.le_succ _)
  have hBc := fresh (cOf C) (Nat.le_of_lt hlc)
  have st1 : s.heap.StaysIn H2 := hH2 ▸ stays_push _ _
  have st2 : H2.StaysIn (pushCells (H2.push { cls := .type "dict", data := .dict #[] }) scope.names) := fun b o e => pushCells_keeps _ _ _ _ (Heap.get?_push_of_some _ e)
  have hacc : (pushCells (H2.push { cls := .type "dict", data := .dict #[] }) scope.names).PlainList D #[] := by
    refine ⟨0, st2 _ _ ?_⟩
    rw [← hH2, ← hDe]; exact Heap.get?_push_size _ rfl
  have hsl := hslot H2
  rw [hCe] at hsl
  generalize hH3 : pushCells (H2.push { cls := .type "dict", data := .dict #[] }) scope.names = H3 at st2 hacc hsl
  have st3 := stays_trans st1 st2
  have hst₃ : St 0 H3 := W.frame _ _ _ hst fun b _ o e => st3 b o e
  have skc : ∀ h h', Slot C h → Heap.SameBut (cOf C) h h' → SK D h h' := fun h h' sl hs a o its m e d hne => by
    refine (hs.2 a fun q => ?_).trans e
    obtain ⟨o', e', _, d'⟩ := (V C).kind h sl
    rw [q, e'] at e; cases e; exact d' _ _ d
  have skI : ∀ i h h', St i h → Mod [I] h h' → SK D h h' := fun i h h' st m a o its m' e d hne => m a o (fun hm => by
    obtain ⟨o', vs, e', d'⟩ := hI i h st
    rw [List.mem_singleton.mp hm, e'] at e; cases e; rw [d'] at d; cases d) e
  have nfI : ∀ i h h', St i h → Mod [I] h h' → NF h h' := fun i h h' st m a o e d => m a o (fun hm => by
    obtain ⟨o', vs, e', d'⟩ := hI i h st
    rw [List.mem_singleton.mp hm, e'] at e; cases e; exact d vs d') e
  have bI : ∀ h h', B.StaysIn h → Mod [I] h h' → B.StaysIn h' := fun h h' k m => m.stays k (by intro a ha; rw [List.mem_singleton.mp ha]; exact hBI)
  have loop : ∀ s₃ : Shared, s₃ = { s with heap := H3 } →
      codeAny (model prog w) A (.compLoop (.ListComp elt [⟨.Name x px, iter, ifs, 0⟩] scope pos) 0 (.ref I) (.ref D) (compEnvC scope (cells C) C env)) (RR (.ref D) C) s₃ := by
    rintro s₃ rfl
    refine codeAny_compLoop_tests
      (fun k s' => ∃ h' tk i ys, s' = { s with heap := h', toks := tk } ∧ i ≤ n ∧ k = n + 1 - i ∧ St i h' ∧ B.StaysIn h' ∧ h'.PlainList D (List.toArray ys) ∧ ys.length ≤ i ∧ Slot C h' ∧ J D i ys h') ?_ (n + 1)
      ⟨H3, s.toks, 0, [], rfl, Nat.zero_le _, rfl, hst₃, stays_trans hB st3, hacc, Nat.le_refl _, hsl, h0 D _ (stays_trans hB st3)⟩
    rintro k s' ⟨h', tk, i, ys, rfl, hi, rfl, st', kb, hl, hyl, sl, j⟩
    by_cases hlt : i < n
    · refine W.item i _ _ _ hlt st' fun v h₁ tk₁ hP st₁ m₁ => ?_
      have sl₁ := (V C).slot _ _ sl (nfI i _ _ st' m₁)
      have j₁ := hJ _ _ _ _ _ j (skI i _ _ st' m₁)
      have kb₁ := bI _ _ kb m₁
      have hl₁ : h₁.PlainList D (List.toArray ys) := hl.at fun o e => m₁ D o (by simpa using Ne.symm hID) e
      refine (V C).store _ _ _ _ _ sl₁ fun h₂ tk₂ hs₂ lv₂ sl₂ => ?_
      have st₂ : St (i + 1) h₂ := W.frame _ _ _ st₁ fun b hb o e => hs₂.extBut b o (fun q => hcf (q ▸ hb)) e
      have j₂ := hJ _ _ _ _ _ j₁ (skc _ _ sl₁ hs₂)
      have kb₂ := stays_same kb₁ hs₂ hBc
      have hl₂ : h₂.PlainList D (List.toArray ys) := hl₁.at fun o e => hs₂.extBut D o hDc e
      refine wpAny_noRaise (wpAny_mono (htest C i v _ (fun ok s₃ => ∃ h₃ tk₃, h₂.StaysIn h₃ ∧ ok = p i ∧ s₃ = { s with heap := h₃, toks := tk₃ }) hlt hP kb₂ lv₂ fun h₃ tk₃ k₃ => ⟨h₃, tk₃, k₃, rfl, rfl⟩) (fun ok s₃ h₃ => ?_) fun _ _ e => e)
      obtain ⟨h₃, tk₃, k₃, rfl, rfl⟩ := h₃
      have st₃ : St (i + 1) h₃ := W.frame _ _ _ st₂ fun b _ o e => k₃ b o e
      have sl₃ := (V C).slot _ _ sl₂ (.of_stays k₃)
      have j₃ := hJ _ _ _ _ _ j₂ (.of_stays k₃)
      have kb₃ := stays_trans kb₂ k₃
      have hl₃ : h₃.PlainList D (List.toArray ys) := hl₂.at fun o e => k₃ D o e
      cases hp : p i with
      | false =>
        simp only [Bool.false_eq_true, if_false]
        exact ⟨n + 1 - (i + 1), by omega, h₃, tk₃, i + 1, ys, rfl, hlt, rfl, st₃, kb₃, hl₃, by omega, sl₃, hskip _ _ _ _ hlt hp j₃⟩
      | true =>
        simp only [if_true]
        refine wpAny_noRaise (wpAny_mono (helt C D i v ys _ (fun y s₄ => ∃ h₄ tk₄, h₃.StaysIn h₄ ∧ J D (i + 1) (ys ++ [y]) h₄ ∧ s₄ = { s with heap := h₄, toks := tk₄ }) hlt hP hp kb₃ ((V C).lv _ _ _ lv₂ k₃) hBD
          (by obtain ⟨q, e⟩ := hl₃; exact ⟨_, e⟩) j₃ fun y h₄ tk₄ k₄ j₄ => ⟨h₄, tk₄, k₄, j₄, rfl⟩) (fun y s₄ h₄ => ?_) fun _ _ e => e)
        obtain ⟨h₄, tk₄, k₄, j₄, rfl⟩ := h₄
        have hl₄ : h₄.PlainList D (List.toArray ys) := hl₃.at fun o e => k₄ D o e
        refine wpAny_list_append_plain (hsz := by simp only [List.size_toArray]; omega) hl₄ fun h₅ hl₅ hs₅ => ?_
        refine ⟨n + 1 - (i + 1), by omega, h₅, tk₄, i + 1, ys ++ [y], rfl, hlt, rfl, W.frame _ _ _ st₃ fun b hb o e => hs₅.extBut b o (fun q => hDf (q ▸ hb)) (k₄ b o e), stays_same (stays_trans kb₃ k₄) hs₅ hBD, ?_, ?_,
          (V C).slotD _ _ D ((V C).slot _ _ sl₃ (.of_stays k₄)) hs₅ hDc hDC, hJ _ _ _ _ _ j₄ fun a o its m e d hne => (hs₅.2 a hne).trans e⟩
        · rw [List.push_toArray] at hl₅; exact hl₅
        · rw [List.length_append, List.length_singleton]; omega
    · obtain rfl : i = n := Nat.le_antisymm hi (Nat.not_lt.mp hlt)
      refine W.done _ _ _ st' fun h₁ tk₁ m₁ => ?_
      obtain ⟨m, hm⟩ := (V C).ns _ ((V C).slot _ _ sl (nfI i _ _ st' m₁))
      exact hfin D C ys h₁ tk₁ m (bI _ _ kb m₁) hBD hBC (Ne.symm hDC) hm (hl.at fun o e => m₁ D o (by simpa using Ne.symm hID) e) (hJ _ _ _ _ _ j (skI i _ _ st' m₁))
  exact codeAny_compStart_list (loop _ rfl) (W.self 0 _ _ _ hst₃ (loop _ rfl))
end
end C3P

/-! part C3Comp2 -/
namespace C3P
open PySem PySem.W PyProof.Rows PySem.Calls

section
variable {prog : Program} {w : World} {A : Around} {s : Shared} {env : Env}

theorem ns_kind {h : Heap} {C : Addr} {m : Str → Option Value} (x : h.Ns C m) : ∃ o, h.get? C = some o ∧ (∀ vs, o.data ≠ .fields vs) ∧ ∀ its n, o.data ≠ .seq its n :=
  let ⟨o, es, ep, e, d, _⟩ := x; ⟨o, e, (fun vs q => by rw [d] at q; cases q), (fun its n q => by rw [d] at q; cases q)⟩
theorem cell_kind {h : Heap} {C : Addr} {v : Option Value} (x : h.IsCell C v) : ∃ o, h.get? C = some o ∧ (∀ vs, o.data ≠ .fields vs) ∧ ∀ its n, o.data ≠ .seq its n :=
  let ⟨o, e, d⟩ := x; ⟨o, e, (fun vs q => by rw [d] at q; cases q), (fun its n q => by rw [d] at q; cases q)⟩

def LVl (x : Str) (C : Addr) (v : Value) (h : Heap) : Prop := ∃ m, h.Ns C m ∧ m x = some v
def LVc (C : Addr) (v : Value) (h : Heap) : Prop := h.IsCell (C + 1) (some v)

theorem varLocal {scope : Scope} {cl : List (Str × Addr)} {x : Str} (hkind : scope.kind = .function) (hx : scope.names.lookup x = some .local) (C : Addr) :
    VarOf prog w A (compEnvC scope cl C env) C x C (LVl x C) (fun h => ∃ m, h.Ns C m) where
  store := fun s v px Q E sl k => by
    obtain ⟨m, hm⟩ := sl
    refine wpAny_assign_Name (wpAny_storeName_local (lookup_relabel_local hx) hm (fun h' hn hs => k h' _ hs ⟨_, hn, by simp⟩ ⟨_, hn⟩) (by simp [compEnvC, relabel, hkind]))
  slot := fun h h' ⟨m, hm⟩ k => ⟨m, k.ns hm⟩
  slotD := fun h h' a ⟨m, hm⟩ hs h1 h2 => ⟨m, hm.sameBut hs (Ne.symm h2)⟩
  lv := fun v h h' ⟨m, hm, e⟩ k => ⟨m, hm.keeps k, e⟩
  kind := fun h ⟨m, hm⟩ => ns_kind hm
  ns := fun h x => x

theorem varCell {scope : Scope} {cl : List (Str × Addr)} {x : Str} (hkind : scope.kind = .function) (hx : (relabel scope env).names.lookup x = some .cell) (C : Addr) :
    VarOf prog w A (compEnvC scope ((x, C + 1) :: cl) C env) C x (C + 1) (LVc C) (fun h => (∃ m, h.Ns C m) ∧ ∃ v, h.IsCell (C + 1) v) where
  store := fun s v px Q E sl k => by
    obtain ⟨⟨m, hm⟩, v₀, hv⟩ := sl
    refine wpAny_assign_Name (wpAny_storeName_cell (by simp [compEnvC, relabel, hkind]) hx (by simp [compEnvC]) hv fun h' hn hs => k h' _ hs hn ⟨⟨m, hm.sameBut hs (Nat.ne_of_lt (Nat.lt_succ_self _))⟩, _, hn⟩)
  slot := fun h h' ⟨⟨m, hm⟩, v, hv⟩ k => ⟨⟨m, k.ns hm⟩, v, k.cell hv⟩
  slotD := fun h h' a ⟨⟨m, hm⟩, v, hv⟩ hs h1 h2 => ⟨⟨m, hm.sameBut hs (Ne.symm h2)⟩, v, hv.sameBut hs (Ne.symm h1)⟩
  lv := fun v h h' hv k => hv.keeps k
  kind := fun h ⟨_, v, hv⟩ => cell_kind hv
  ns := fun h x => x.1

/-- what a comprehension goes over: n items, the i-th with P i -/
def Src (prog : Program) (w : World) (A : Around) (s : Shared) (env : Env) (iter : Expr) (n : Nat) (P : Nat → Value → Prop) : Prop :=
  wpAny (model prog w) A (eval iter env) (fun xv s₁ => wpAny (model prog w) A (pyIter xv) (fun it s₂ => ∃ I fp St h tk, it = .ref I ∧ Walks prog w A I fp [I] n P St ∧ (∀ b ∈ fp, b < s₂.heap.objs.size) ∧ St 0 s₂.heap ∧
    (∀ i h, St i h → ∃ o vs, h.get? I = some o ∧ o.data = .fields vs) ∧ s₂ = { s with heap := h, toks := tk } ∧ s.heap.StaysIn h ∧ s.heap.get? I = none) never s₁) never s

theorem srcList {iter : Expr} {l : Addr} {items : Array Value} (hh : HOk A s.heap) (hl : s.heap.IsList l items)
    (hi : ∀ Q' : Value → Shared → Prop, Q' (.ref l) s → wpAny (model prog w) A (eval iter env) Q' never s) : Src prog w A s env iter items.size (fun i v => items[i]? = some v) := by
  refine hi _ (wpAny_pyIter_list hl ?_)
  have st := stays_push s.heap { cls := .type "list_iterator", data := .fields #[.ref l, .int 0 0] }
  have hlt : l < s.heap.objs.size := by obtain ⟨o, e, _⟩ := hl; exact Heap.lt_size e
  obtain ⟨x', hx', hxs⟩ : ∃ x', (A.handled = none ∨ A.handled = some (.ref x')) ∧ x' < s.heap.objs.size + 1 := by
    rcases hh with e | ⟨e, _, _, a, b, _⟩
    · exact ⟨0, .inl e, Nat.succ_pos _⟩
    · exact ⟨e, .inr a, Nat.lt_succ_of_lt (Heap.lt_size b)⟩
  refine ⟨_, _, _, _, _, rfl, walksList s.heap.objs.size l (Nat.ne_of_lt hlt) items x' hx', ?_, ⟨⟨_, Heap.get?_push_size _ rfl, rfl, rfl⟩, isList_stays hl st, hh.stays st⟩, fun i h x => ?_, rfl, st, fresh_size _⟩
  · intro b hb
    show b < (s.heap.push _).objs.size
    rw [Heap.size_push]
    simp only [List.mem_cons, List.not_mem_nil, or_false] at hb
    rcases hb with rfl | rfl | rfl
    · exact Nat.lt_succ_self _
    · exact Nat.lt_succ_of_lt hlt
    · exact hxs
  · obtain ⟨o, e, _, d⟩ := x.1; exact ⟨o, _, e, d⟩

theorem srcRange {iter : Expr} {a b : Int} (hh : HOk A s.heap) (hab : 0 ≤ a ∧ a < 2 ^ 62 ∧ 0 ≤ b ∧ b < 2 ^ 62)
    (hi : ∀ Q' : Value → Shared → Prop, (∀ r t u v h tk, s.heap.StaysIn h → IsRange h r a b 1 t u v → Q' (.ref r) { s with heap := h, toks := tk }) → wpAny (model prog w) A (eval iter env) Q' never s) :
    Src prog w A s env iter (b - a).toNat (fun i v => ∃ t, v = .int (a + i) t) := by
  refine hi _ fun r t u v h tk sth hr => ?_
  have hsz : Builtin.Range.rangeSize a b 1 = ((b - a).toNat : Int) := by rw [rangeSize_one]; split <;> omega
  refine wpAny_pyIter_range hr (small_one (by omega) hab.2.1 (by omega) hab.2.2.2) ?_
  have st := stays_push h { cls := .type "range_iterator", data := .fields #[rawInt a, rawInt (Builtin.Range.rangeSize a b 1), rawInt 1] }
  obtain ⟨x', hx', hxs⟩ : ∃ x', (A.handled = none ∨ A.handled = some (.ref x')) ∧ x' < h.objs.size + 1 := by
    rcases hh with e | ⟨e, o, _, a, b, _⟩
    · exact ⟨0, .inl e, Nat.succ_pos _⟩
    · exact ⟨e, .inr a, Nat.lt_succ_of_lt (Heap.lt_size (sth e o b))⟩
  refine ⟨_, _, _, _, _, rfl, walksRange h.objs.size a _ x' hx', ?_, ⟨?_, hh.stays (stays_trans sth st)⟩, fun i h x => ⟨_, _, x.1, rfl⟩, rfl, stays_trans sth st, fresh_stays sth (fresh_size _)⟩
  · intro b hb
    show b < (h.push _).objs.size
    rw [Heap.size_push]
    simp only [List.mem_cons, List.not_mem_nil, or_false] at hb
    rcases hb with rfl | rfl
    · exact Nat.lt_succ_self _
    · exact hxs
  · rw [hsz]; simpa using Heap.get?_push_size _ rfl

/-- a list comprehension as a value -/
theorem comp_eval {n : Nat} {P : Nat → Value → Prop} {x : Str} {px : Pos} {elt iter : Expr} {ifs : List Expr} {scope : Scope} {pos : Pos} {cl : List (Str × Addr)} {cells : Addr → List (Str × Addr)} {cOf : Addr → Addr}
    {LV : Addr → Value → Heap → Prop} {Slot : Addr → Heap → Prop} {Q : Value → Shared → Prop} {E : Value → Shared → Prop}
    (hsrc : Src prog w A s env iter n P) (hsz : n ≤ sizeLine) (hclos : closureFor scope env = pure cl) (hkind : scope.kind = .function) (hnames : ∀ y ∈ scope.names, y.2 = .local → scope.names.lookup y.1 = some .local)
    (hcells : ∀ n, cellsFrom (n + 1) scope.names cl = cells n) (hc : ∀ C, C ≤ cOf C) (V : ∀ C, VarOf prog w A (compEnvC scope (cells C) C env) C x (cOf C) (LV C) (Slot C))
    (hslot : ∀ h : Heap, Slot h.objs.size (pushCells (h.push { cls := .type "dict", data := .dict #[] }) scope.names))
    (J : Addr → Nat → List Value → Heap → Prop) (p : Nat → Bool)
    (hJ : ∀ D i ys h h', J D i ys h → SK D h h' → J D i ys h') (h0 : ∀ D h, s.heap.StaysIn h → J D 0 [] h)
    (hskip : ∀ D i ys h, i < n → p i = false → J D i ys h → J D (i + 1) ys h)
    (htest : ∀ C i v (s₃ : Shared) (Q : Bool → Shared → Prop), i < n → P i v → s.heap.StaysIn s₃.heap → LV C v s₃.heap → (∀ h' tk, s₃.heap.StaysIn h' → Q (p i) { s₃ with heap := h', toks := tk }) →
      wpAny (model prog w) A (forIn ifs true fun c r => if r = true then do let ok ← PySem.isTrue c (compEnvC scope (cells C) C env) (eval c (compEnvC scope (cells C) C env)); pure (ForInStep.yield ok) else pure (ForInStep.yield r)) Q never s₃)
    (helt : ∀ C D i v ys (s₃ : Shared) (Q : Value → Shared → Prop), i < n → P i v → p i = true → s.heap.StaysIn s₃.heap → LV C v s₃.heap → s.heap.get? D = none → (∃ o, s₃.heap.get? D = some o) → J D i ys s₃.heap →
      (∀ y h' tk, s₃.heap.StaysIn h' → J D (i + 1) (ys ++ [y]) h' → Q y { s₃ with heap := h', toks := tk }) → wpAny (model prog w) A (eval elt (compEnvC scope (cells C) C env)) Q never s₃)
    (hfin : ∀ D ys h tk, s.heap.StaysIn h → s.heap.get? D = none → h.PlainList D (List.toArray ys) → J D n ys h → Q (.ref D) { s with heap := h, toks := tk })
    (hs : ∀ x, foldedSetIterable iter env x = pure x := by intro _; rfl) :
    wpAny (model prog w) A (eval (.ListComp elt [⟨.Name x px, iter, ifs, 0⟩] scope pos) env) Q E s := by
  refine wpAny_noRaise ?_
  rw [eval_ListComp]
  refine wpAny_comprehension_free (use := none) rfl hs hclos hkind hnames (wpAny_mono hsrc (fun xv s₁ h₁ => wpAny_mono h₁ (fun it s₂ h₂ => ?_) fun _ _ e => e) fun _ _ e => e)
  obtain ⟨I, fp, St, h, tk, rfl, W, hfp, hst, hI, rfl, st, hn⟩ := h₂
  refine comp_core (s := { s with heap := h, toks := tk }) (RR := fun acc C => compPost (model prog w) A never none Q acc C) W hsz hfp hst hI st hn hcells hc V hslot J p hJ h0 hskip htest helt ?_
  intro D C ys h' tk' m kb hD hC hCD hm hl j
  refine ⟨m, hm, fun h'' hs'' => hfin D ys h'' tk' (stays_same kb hs'' hC) hD (hl.extBut hs''.extBut (Ne.symm hCD)) (hJ _ _ _ _ _ j fun a o its q e d hne => (hs''.2 a fun z => ?_).trans e)⟩
  obtain ⟨o', e', _, d'⟩ := ns_kind hm
  rw [z, e'] at e; cases e; exact d' _ _ d

/-- a list comprehension stored under a plain name -/
theorem comp_assign {n : Nat} {P : Nat → Value → Prop} {x y : Str} {px py : Pos} {elt iter : Expr} {ifs : List Expr} {scope : Scope} {pos spos : Pos} {cl : List (Str × Addr)} {cells : Addr → List (Str × Addr)} {cOf : Addr → Addr}
    {LV : Addr → Value → Heap → Prop} {Slot : Addr → Heap → Prop} {Q : Flow → Shared → Prop} {E : Value → Shared → Prop} {mL : Str → Option Value}
    (hsw : swapsWith (.ListComp elt [⟨.Name x px, iter, ifs, 0⟩] scope pos) (some (.Name y py)) spos.line env = pure true)
    (hL : s.heap.Ns env.locals mL) (hy : env.kindOf y = some .local) (hyp : (env.scope.kind == .class || (env.scope.kind == .module && env.locals != env.globals)) = false)
    (hsrc : Src prog w A s env iter n P) (hsz : n ≤ sizeLine) (hclos : closureFor scope env = pure cl) (hkind : scope.kind = .function) (hnames : ∀ y ∈ scope.names, y.2 = .local → scope.names.lookup y.1 = some .local)
    (hcells : ∀ n, cellsFrom (n + 1) scope.names cl = cells n) (hc : ∀ C, C ≤ cOf C) (V : ∀ C, VarOf prog w A (compEnvC scope (cells C) C env) C x (cOf C) (LV C) (Slot C))
    (hslot : ∀ h : Heap, Slot h.objs.size (pushCells (h.push { cls := .type "dict", data := .dict #[] }) scope.names))
    (J : Addr → Nat → List Value → Heap → Prop) (p : Nat → Bool)
    (hJ : ∀ D i ys h h', J D i ys h → SK D h h' → J D i ys h') (h0 : ∀ D h, s.heap.StaysIn h → J D 0 [] h)
    (hskip : ∀ D i ys h, i < n → p i = false → J D i ys h → J D (i + 1) ys h)
    (htest : ∀ C i v (s₃ : Shared) (Q : Bool → Shared → Prop), i < n → P i v → s.heap.StaysIn s₃.heap → LV C v s₃.heap → (∀ h' tk, s₃.heap.StaysIn h' → Q (p i) { s₃ with heap := h', toks := tk }) →
      wpAny (model prog w) A (forIn ifs true fun c r => if r = true then do let ok ← PySem.isTrue c (compEnvC scope (cells C) C env) (eval c (compEnvC scope (cells C) C env)); pure (ForInStep.yield ok) else pure (ForInStep.yield r)) Q never s₃)
    (helt : ∀ C D i v ys (s₃ : Shared) (Q : Value → Shared → Prop), i < n → P i v → p i = true → s.heap.StaysIn s₃.heap → LV C v s₃.heap → s.heap.get? D = none → (∃ o, s₃.heap.get? D = some o) → J D i ys s₃.heap →
      (∀ y h' tk, s₃.heap.StaysIn h' → J D (i + 1) (ys ++ [y]) h' → Q y { s₃ with heap := h', toks := tk }) → wpAny (model prog w) A (eval elt (compEnvC scope (cells C) C env)) Q never s₃)
    (hfin : ∀ D ys h tk, Mod [env.locals] s.heap h → s.heap.get? D = none → h.PlainList D (List.toArray ys) → J D n ys h → (h.Ns env.locals fun z => if z = y then some (.ref D) else mL z) → Q .next { s with heap := h, toks := tk })
    (hs : ∀ x, foldedSetIterable iter env x = pure x := by intro _; rfl) :
    wpAny (model prog w) A (exec (.Assign [.Name y py] (.ListComp elt [⟨.Name x px, iter, ifs, 0⟩] scope pos) spos) env) Q E s := by
  refine wpAny_noRaise ?_
  rw [exec_Assign_Name_used _ _ _ _ hsw]
  refine wpAny_bind (wpAny_standAt (wpAny_bind ?_))
  show wpAny _ A (do let _ ← comprehension (.ListComp elt [⟨.Name x px, iter, ifs, 0⟩] scope pos) scope env _ (newList []) false (eval iter env) (some (assign (.Name y py) env))) _ _ s
  refine wpAny_bind (wpAny_mono (wpAny_comprehension_free (use := some (assign (.Name y py) env)) (Q := fun _ s' => Q .next s') rfl hs hclos hkind hnames
    (wpAny_mono hsrc (fun xv s₁ h₁ => wpAny_mono h₁ (fun it s₂ h₂ => ?_) fun _ _ e => e) fun _ _ e => e)) (fun _ s' hq => wpAny_pure (wpAny_pure hq)) fun _ _ e => e)
  obtain ⟨I, fp, St, h, tk, rfl, W, hfp, hst, hI, rfl, st, hn⟩ := h₂
  refine comp_core (s := { s with heap := h, toks := tk }) (RR := fun acc C => compPost (model prog w) A never (some (assign (.Name y py) env)) (fun _ s' => Q .next s') acc C) W hsz hfp hst hI st hn hcells hc V hslot J p hJ h0 hskip htest helt ?_
  intro D C ys h' tk' m kb hD hC hCD hm hl j
  have hLC : env.locals ≠ C := fun q => by obtain ⟨o, _, _, e, _⟩ := hL; rw [q, hC] at e; cases e
  show wpAny _ A (assign (.Name y py) env (.ref D)) _ _ _
  refine wpAny_assign_Name (wpAny_storeName_local hy (hL.keeps kb) (fun h₂ hn₂ hs₂ => ?_) hyp)
  have hDL : D ≠ env.locals := fun q => by obtain ⟨o, _, _, e, _⟩ := hL; rw [← q, hD] at e; cases e
  refine ⟨m, hm.sameBut hs₂ (Ne.symm hLC), fun h₃ hs₃ => hfin D ys h₃ _ (fun b o n e => ?_) hD ((hl.extBut hs₂.extBut hDL).extBut hs₃.extBut (Ne.symm hCD)) (hJ _ _ _ _ _ j fun a o its q e d hne => ?_) (hn₂.sameBut hs₃ hLC)⟩
  · exact (hs₃.2 b (fun q => by rw [q, hC] at e; cases e)).trans ((hs₂.2 b (fun q => n (by simp [q]))).trans (kb b o e))
  · refine (hs₃.2 a (fun z => ?_)).trans ((hs₂.2 a (fun z => ?_)).trans e)
    · obtain ⟨o', e', _, d'⟩ := ns_kind hm
      rw [z, e'] at e; cases e; exact d' _ _ d
    · obtain ⟨o', e', _, d'⟩ := ns_kind (hL.keeps kb)
      rw [z, e'] at e; cases e; exact d' _ _ d
end
end C3P

/-! part C3Comp3 -/
namespace C3P
open PySem PySem.W PyProof.Rows PySem.Calls

section
variable {prog : Program} {w : World} {A : Around} {s : Shared} {env : Env}

/-- how a comprehension's own name is laid -/
def CVar (prog : Program) (w : World) (A : Around) (env : Env) (scope : Scope) (cl : List (Str × Addr)) (x : Str) (cells : Addr → List (Str × Addr)) (LV : Addr → Value → Heap → Prop) : Prop :=
  ∃ (cOf : Addr → Addr) (Slot : Addr → Heap → Prop), (∀ n, cellsFrom (n + 1) scope.names cl = cells n) ∧ (∀ C, C ≤ cOf C) ∧ (∀ C, VarOf prog w A (compEnvC scope (cells C) C env) C x (cOf C) (LV C) (Slot C)) ∧
    ∀ h : Heap, Slot h.objs.size (pushCells (h.push { cls := .type "dict", data := .dict #[] }) scope.names)
theorem cvarL {scope : Scope} {cl : List (Str × Addr)} {x : Str} (hkind : scope.kind = .function) (hx : scope.names.lookup x = some .local)
    (h1 : ∀ n, cellsFrom n scope.names cl = cl := by intro _; rfl) (h2 : ∀ h : Heap, pushCells h scope.names = h := by intro _; rfl) : CVar prog w A env scope cl x (fun _ => cl) (LVl x) :=
  ⟨id, fun C h => ∃ m, h.Ns C m, fun _ => h1 _, fun _ => Nat.le_refl _, fun C => varLocal hkind hx C, fun h => ⟨_, by rw [h2]; exact Heap.Ns.new _ _⟩⟩
theorem cvarC {scope : Scope} {cl : List (Str × Addr)} {x : Str} (hkind : scope.kind = .function) (hx : (relabel scope env).names.lookup x = some .cell)
    (h1 : ∀ n, cellsFrom n scope.names cl = (x, n) :: cl := by intro _; rfl) (h2 : ∀ h : Heap, pushCells h scope.names = h.push { cls := .type "cell", data := .cell none } := by intro _; rfl) :
    CVar prog w A env scope cl x (fun C => (x, C + 1) :: cl) LVc :=
  ⟨fun C => C + 1, fun C h => (∃ m, h.Ns C m) ∧ ∃ v, h.IsCell (C + 1) v, fun _ => h1 _, fun _ => Nat.le_succ _, fun C => varCell hkind hx C, fun h => by
    rw [h2]
    refine ⟨⟨_, (Heap.Ns.new h _).push _⟩, none, { cls := .type "cell", data := .cell none }, ?_, rfl⟩
    rw [show h.objs.size + 1 = (h.push { cls := .type "dict", data := .dict #[] }).objs.size by rw [Heap.size_push]]; exact Heap.get?_push_size _ rfl⟩

theorem take_snoc {δ : Type} {ds : List δ} {i : Nat} {d : δ} (h : ds[i]? = some d) : ds.take (i + 1) = ds.take i ++ [d] := by rw [List.take_add_one, h]; rfl

def hits {δ : Type} (ds : List δ) (q : δ → Bool) (i : Nat) : Bool := match ds[i]? with | some d => q d | none => false

theorem srcL {iter : Expr} {l : Addr} {ys : List Value} {n : Nat} (hh : HOk A s.heap) (hl : s.heap.IsList l (List.toArray ys)) (hn : ys.length = n)
    (hi : ∀ Q' : Value → Shared → Prop, Q' (.ref l) s → wpAny (model prog w) A (eval iter env) Q' never s) : Src prog w A s env iter n (fun i v => ys[i]? = some v) := by
  have := srcList hh hl hi
  subst hn
  simpa using this

/-- one test, elements told without the heap -/
theorem comp1 {δ : Type} {ds : List δ} {P : Nat → Value → Prop} {x : Str} {px : Pos} {elt iter t : Expr} {scope : Scope} {pos : Pos} {cl : List (Str × Addr)} {cells : Addr → List (Str × Addr)}
    {LV : Addr → Value → Heap → Prop} {Q : Value → Shared → Prop} {E : Value → Shared → Prop}
    (hsrc : Src prog w A s env iter ds.length P) (hsz : ds.length ≤ sizeLine) (hclos : closureFor scope env = pure cl) (hkind : scope.kind = .function) (hnames : ∀ y ∈ scope.names, y.2 = .local → scope.names.lookup y.1 = some .local)
    (cv : CVar prog w A env scope cl x cells LV) (q : δ → Bool) (Y : δ → Value → Prop)
    (htest : ∀ C i d v (s₃ : Shared) (Q : Bool → Shared → Prop), ds[i]? = some d → P i v → s.heap.StaysIn s₃.heap → LV C v s₃.heap → (∀ h' tk, s₃.heap.StaysIn h' → Q (q d) { s₃ with heap := h', toks := tk }) →
      wpAny (model prog w) A (PySem.isTrue t (compEnvC scope (cells C) C env) (eval t (compEnvC scope (cells C) C env))) Q never s₃)
    (helt : ∀ C i d v (s₃ : Shared) (Q : Value → Shared → Prop), ds[i]? = some d → P i v → q d = true → s.heap.StaysIn s₃.heap → LV C v s₃.heap → (∀ y h' tk, s₃.heap.StaysIn h' → Y d y → Q y { s₃ with heap := h', toks := tk }) →
      wpAny (model prog w) A (eval elt (compEnvC scope (cells C) C env)) Q never s₃)
    (hfin : ∀ D ys h tk, s.heap.StaysIn h → s.heap.get? D = none → h.PlainList D (List.toArray ys) → All2 Y (ds.filter q) ys → Q (.ref D) { s with heap := h, toks := tk })
    (hs : ∀ x, foldedSetIterable iter env x = pure x := by intro _; rfl) :
    wpAny (model prog w) A (eval (.ListComp elt [⟨.Name x px, iter, [t], 0⟩] scope pos) env) Q E s := by
  obtain ⟨cOf, Slot, h1, h2, h3, h4⟩ := cv
  have get : ∀ i, i < ds.length → ∃ d, ds[i]? = some d := fun i h => ⟨ds[i], by simp [h]⟩
  refine comp_eval hsrc hsz hclos hkind hnames h1 h2 h3 h4 (fun _ i ys _ => All2 Y ((ds.take i).filter q) ys) (hits ds q) (fun _ _ _ _ _ j _ => j) (fun _ _ _ => by simpa using All2.nil)
    (fun _ i ys h hi hp j => ?_) (fun C i v s₃ Q hi hP st lv k => ?_) (fun C D i v ys s₃ Q hi hP hp st lv _ _ j k => ?_) (fun D ys h tk st hD hl j => hfin D ys h tk st hD hl (by simpa using j)) hs
  · obtain ⟨d, hd⟩ := get i hi
    have hq : q d = false := by simpa [hits, hd] using hp
    rw [take_snoc hd, List.filter_append]; simpa [hq] using j
  · obtain ⟨d, hd⟩ := get i hi
    have hq : hits ds q i = q d := by simp [hits, hd]
    refine wpAny_tests_one ?_
    exact htest C i d v s₃ Q hd hP st lv fun h' tk k' => by rw [← hq]; exact k h' tk k'
  · obtain ⟨d, hd⟩ := get i hi
    have hq : q d = true := by simpa [hits, hd] using hp
    refine helt C i d v s₃ Q hd hP hq st lv fun y h' tk k' hy => k y h' tk k' ?_
    rw [take_snoc hd, List.filter_append]
    exact j.append (by simpa [hq] using All2.cons hy .nil)

/-- no test, elements told without the heap -/
theorem comp0 {δ : Type} {ds : List δ} {P : Nat → Value → Prop} {x : Str} {px : Pos} {elt iter : Expr} {scope : Scope} {pos : Pos} {cl : List (Str × Addr)} {cells : Addr → List (Str × Addr)}
    {LV : Addr → Value → Heap → Prop} {Q : Value → Shared → Prop} {E : Value → Shared → Prop}
    (hsrc : Src prog w A s env iter ds.length P) (hsz : ds.length ≤ sizeLine) (hclos : closureFor scope env = pure cl) (hkind : scope.kind = .function) (hnames : ∀ y ∈ scope.names, y.2 = .local → scope.names.lookup y.1 = some .local)
    (cv : CVar prog w A env scope cl x cells LV) (Y : δ → Value → Prop)
    (helt : ∀ C i d v (s₃ : Shared) (Q : Value → Shared → Prop), ds[i]? = some d → P i v → s.heap.StaysIn s₃.heap → LV C v s₃.heap → (∀ y h' tk, s₃.heap.StaysIn h' → Y d y → Q y { s₃ with heap := h', toks := tk }) →
      wpAny (model prog w) A (eval elt (compEnvC scope (cells C) C env)) Q never s₃)
    (hfin : ∀ D ys h tk, s.heap.StaysIn h → s.heap.get? D = none → h.PlainList D (List.toArray ys) → All2 Y ds ys → Q (.ref D) { s with heap := h, toks := tk })
    (hs : ∀ x, foldedSetIterable iter env x = pure x := by intro _; rfl) :
    wpAny (model prog w) A (eval (.ListComp elt [⟨.Name x px, iter, [], 0⟩] scope pos) env) Q E s := by
  obtain ⟨cOf, Slot, h1, h2, h3, h4⟩ := cv
  have get : ∀ i, i < ds.length → ∃ d, ds[i]? = some d := fun i h => ⟨ds[i], by simp [h]⟩
  refine comp_eval hsrc hsz hclos hkind hnames h1 h2 h3 h4 (fun _ i ys _ => All2 Y (ds.take i) ys) (fun _ => true) (fun _ _ _ _ _ j _ => j) (fun _ _ _ => by simpa using All2.nil)
    (fun _ i ys h hi hp j => by cases hp) (fun C i v s₃ Q hi hP st lv k => wpAny_tests_nil (k _ _ (stays_refl _))) (fun C D i v ys s₃ Q hi hP hp st lv _ _ j k => ?_) (fun D ys h tk st hD hl j => hfin D ys h tk st hD hl (by simpa using j)) hs
  obtain ⟨d, hd⟩ := get i hi
  refine helt C i d v s₃ Q hd hP st lv fun y h' tk k' hy => k y h' tk k' ?_
  rw [take_snoc hd]; exact j.snoc hy

/-- no test, each element a list made anew -/
theorem compF {δ : Type} {ds : List δ} {P : Nat → Value → Prop} {x : Str} {px : Pos} {elt iter : Expr} {scope : Scope} {pos : Pos} {cl : List (Str × Addr)} {cells : Addr → List (Str × Addr)}
    {LV : Addr → Value → Heap → Prop} {Q : Value → Shared → Prop} {E : Value → Shared → Prop}
    (hsrc : Src prog w A s env iter ds.length P) (hsz : ds.length ≤ sizeLine) (hclos : closureFor scope env = pure cl) (hkind : scope.kind = .function) (hnames : ∀ y ∈ scope.names, y.2 = .local → scope.names.lookup y.1 = some .local)
    (cv : CVar prog w A env scope cl x cells LV) (Y : δ → List Value → Prop)
    (helt : ∀ C i d v (s₃ : Shared) (Q : Value → Shared → Prop), ds[i]? = some d → P i v → s.heap.StaysIn s₃.heap → LV C v s₃.heap →
      (∀ a c h' tk, s₃.heap.StaysIn h' → s₃.heap.get? a = none → h'.PlainList a (List.toArray c) → Y d c → Q (.ref a) { s₃ with heap := h', toks := tk }) → wpAny (model prog w) A (eval elt (compEnvC scope (cells C) C env)) Q never s₃)
    (hfin : ∀ D as h tk, s.heap.StaysIn h → s.heap.get? D = none → h.PlainList D (List.toArray (as.map .ref)) → as.Nodup → (∀ a ∈ as, s.heap.get? a = none ∧ a ≠ D) → All2 (fun d a => ∃ c, h.PlainList a (List.toArray c) ∧ Y d c) ds as →
      Q (.ref D) { s with heap := h, toks := tk })
    (hs : ∀ x, foldedSetIterable iter env x = pure x := by intro _; rfl) :
    wpAny (model prog w) A (eval (.ListComp elt [⟨.Name x px, iter, [], 0⟩] scope pos) env) Q E s := by
  obtain ⟨cOf, Slot, h1, h2, h3, h4⟩ := cv
  have get : ∀ i, i < ds.length → ∃ d, ds[i]? = some d := fun i h => ⟨ds[i], by simp [h]⟩
  refine comp_eval hsrc hsz hclos hkind hnames h1 h2 h3 h4 (fun D i ys h => ∃ as : List Addr, ys = as.map .ref ∧ as.Nodup ∧ (∀ a ∈ as, s.heap.get? a = none ∧ a ≠ D) ∧ All2 (fun d a => a ≠ D ∧ ∃ c, h.PlainList a (List.toArray c) ∧ Y d c) (ds.take i) as) (fun _ => true)
    (fun D i ys h h' ⟨as, e, nd, fr, a2⟩ k => ⟨as, e, nd, fr, a2.mono fun d a ⟨hne, c, hp, hy⟩ => ⟨hne, c, k.plain hp hne, hy⟩⟩) (fun _ _ _ => ⟨[], rfl, .nil, by simp, by simpa using All2.nil⟩)
    (fun _ i ys h hi hp j => by cases hp) (fun C i v s₃ Q hi hP st lv k => wpAny_tests_nil (k _ _ (stays_refl _))) (fun C D i v ys s₃ Q hi hP hp st lv hD hDs j k => ?_) (fun D ys h tk st hD hl j => ?_) hs
  · obtain ⟨d, hd⟩ := get i hi
    obtain ⟨as, rfl, nd, fr, a2⟩ := j
    refine helt C i d v s₃ Q hd hP st lv fun a c h' tk k' ha hp hy => k _ h' tk k' ?_
    have hne : a ≠ D := fun q => by obtain ⟨o, e⟩ := hDs; rw [← q, ha] at e; cases e
    have hna : a ∉ as := fun hm => by
      obtain ⟨_, _, _, c', ⟨n', e'⟩, _⟩ := a2.mem a hm
      rw [ha] at e'; cases e'
    refine ⟨as ++ [a], by simp, ?_, fun b hb => ?_, ?_⟩
    · refine List.nodup_append.mpr ⟨nd, by simp, fun b hb b' hb' => ?_⟩
      rw [List.mem_singleton.mp hb']; rintro rfl; exact hna hb
    · rcases List.mem_append.mp hb with hb | hb
      · exact fr b hb
      · rw [List.mem_singleton.mp hb]; exact ⟨fresh_stays st ha, hne⟩
    · rw [take_snoc hd]
      exact (a2.mono fun d a ⟨hne, c, ⟨n, e⟩, hy⟩ => ⟨hne, c, ⟨n, k' _ _ e⟩, hy⟩).snoc ⟨hne, c, hp, hy⟩
  · obtain ⟨as, rfl, nd, fr, a2⟩ := j
    exact hfin D as h tk st hD hl nd fr (by simpa using a2.mono fun d a x => x.2)

/-- one test, elements told without the heap, stored under a plain name -/
theorem asg1 {δ : Type} {ds : List δ} {P : Nat → Value → Prop} {x y : Str} {px py : Pos} {elt iter t : Expr} {scope : Scope} {pos spos : Pos} {cl : List (Str × Addr)} {cells : Addr → List (Str × Addr)}
    {LV : Addr → Value → Heap → Prop} {Q : Flow → Shared → Prop} {E : Value → Shared → Prop} {mL : Str → Option Value}
    (hsw : swapsWith (.ListComp elt [⟨.Name x px, iter, [t], 0⟩] scope pos) (some (.Name y py)) spos.line env = pure true)
    (hL : s.heap.Ns env.locals mL) (hy : env.kindOf y = some .local) (hyp : (env.scope.kind == .class || (env.scope.kind == .module && env.locals != env.globals)) = false)
    (hsrc : Src prog w A s env iter ds.length P) (hsz : ds.length ≤ sizeLine) (hclos : closureFor scope env = pure cl) (hkind : scope.kind = .function) (hnames : ∀ y ∈ scope.names, y.2 = .local → scope.names.lookup y.1 = some .local)
    (cv : CVar prog w A env scope cl x cells LV) (q : δ → Bool) (Y : δ → Value → Prop)
    (htest : ∀ C i d v (s₃ : Shared) (Q : Bool → Shared → Prop), ds[i]? = some d → P i v → s.heap.StaysIn s₃.heap → LV C v s₃.heap → (∀ h' tk, s₃.heap.StaysIn h' → Q (q d) { s₃ with heap := h', toks := tk }) →
      wpAny (model prog w) A (PySem.isTrue t (compEnvC scope (cells C) C env) (eval t (compEnvC scope (cells C) C env))) Q never s₃)
    (helt : ∀ C i d v (s₃ : Shared) (Q : Value → Shared → Prop), ds[i]? = some d → P i v → q d = true → s.heap.StaysIn s₃.heap → LV C v s₃.heap → (∀ y h' tk, s₃.heap.StaysIn h' → Y d y → Q y { s₃ with heap := h', toks := tk }) →
      wpAny (model prog w) A (eval elt (compEnvC scope (cells C) C env)) Q never s₃)
    (hfin : ∀ D ys h tk, Mod [env.locals] s.heap h → s.heap.get? D = none → h.PlainList D (List.toArray ys) → All2 Y (ds.filter q) ys → (h.Ns env.locals fun z => if z = y then some (.ref D) else mL z) → Q .next { s with heap := h, toks := tk })
    (hs : ∀ x, foldedSetIterable iter env x = pure x := by intro _; rfl) :
    wpAny (model prog w) A (exec (.Assign [.Name y py] (.ListComp elt [⟨.Name x px, iter, [t], 0⟩] scope pos) spos) env) Q E s := by
  obtain ⟨cOf, Slot, h1, h2, h3, h4⟩ := cv
  have get : ∀ i, i < ds.length → ∃ d, ds[i]? = some d := fun i h => ⟨ds[i], by simp [h]⟩
  refine comp_assign hsw hL hy hyp hsrc hsz hclos hkind hnames h1 h2 h3 h4 (fun _ i ys _ => All2 Y ((ds.take i).filter q) ys) (hits ds q) (fun _ _ _ _ _ j _ => j) (fun _ _ _ => by simpa using All2.nil)
    (fun _ i ys h hi hp j => ?_) (fun C i v s₃ Q hi hP st lv k => ?_) (fun C D i v ys s₃ Q hi hP hp st lv _ _ j k => ?_) (fun D ys h tk st hD hl j hn => hfin D ys h tk st hD hl (by simpa using j) hn) hs
  · obtain ⟨d, hd⟩ := get i hi
    have hq : q d = false := by simpa [hits, hd] using hp
    rw [take_snoc hd, List.filter_append]; simpa [hq] using j
  · obtain ⟨d, hd⟩ := get i hi
    have hq : hits ds q i = q d := by simp [hits, hd]
    refine wpAny_tests_one ?_
    exact htest C i d v s₃ Q hd hP st lv fun h' tk k' => by rw [← hq]; exact k h' tk k'
  · obtain ⟨d, hd⟩ := get i hi
    have hq : q d = true := by simpa [hits, hd] using hp
    refine helt C i d v s₃ Q hd hP hq st lv fun y h' tk k' hy => k y h' tk k' ?_
    rw [take_snoc hd, List.filter_append]
    exact j.append (by simpa [hq] using All2.cons hy .nil)
end
end C3P

/-! part C3World -/
namespace C3P
open PySem PySem.W PyProof.Rows PySem.Calls

/-! the program's own statements, named by their place -/
def sNth (k : Nat) : Stmt := PySem.Challenge.pw_ko0026_01.main.body.getD k (.Pass ⟨0, 0, 0, 0⟩)
def fArgs : Stmt → Arguments
  | .FunctionDef _ a .. => a
  | _ => ⟨[], [], none, [], [], none, []⟩
def fBody : Stmt → List Stmt
  | .FunctionDef _ _ b .. => b
  | _ => []
def fScope : Stmt → Scope
  | .FunctionDef _ _ _ _ _ _ sc .. => sc
  | _ => { kind := .module, names := [], isGenerator := false, isCoroutine := false, more := [] }
def c3S : Stmt := sNth 1
def rowsS : Stmt := sNth 3
def ringS : Stmt := sNth 4
def lawS : Stmt := sNth 5

/-- a def of the text stands under its name -/
def DefAt (h : Heap) (mg : Str → Option Value) (n : Str) (st : Stmt) : Prop :=
  ∃ a o pm cd doc, mg n = some (.ref a) ∧ h.get? a = some o ∧ o.data = .func (docDef n (fArgs st) (fBody st) (fScope st) pm cd doc) ∧ h.CodeRec cd n
/-- what the walk asks of the world: the text's defs and five built-in names -/
structure Wd (h : Heap) : Prop where
  ex : ∃ mg mb, h.Ns mainGlobals mg ∧ h.Ns builtinsNs mb ∧ DefAt h mg "_law_rows" rowsS ∧ DefAt h mg "_c3_merge" c3S ∧ DefAt h mg "_law_has_ring" ringS ∧
    (mg "range" = none ∧ mg "len" = none ∧ mg "list" = none ∧ mg "sorted" = none ∧ mg "RuntimeError" = none) ∧
    (mb "range" = some (.type "range") ∧ mb "len" = some (.builtin "len") ∧ mb "list" = some (.type "list") ∧ mb "sorted" = some (.builtin "sorted") ∧ mb "RuntimeError" = some (.type "RuntimeError"))
  nl : h.NoLimit
theorem DefAt.keeps {h h' : Heap} {mg : Str → Option Value} {n : Str} {st : Stmt} (x : DefAt h mg n st) (k : h.StaysIn h') : DefAt h' mg n st :=
  let ⟨a, o, pm, cd, doc, e1, e2, e3, e4⟩ := x; ⟨a, o, pm, cd, doc, e1, k _ _ e2, e3, e4.keeps k⟩
theorem Wd.keeps {h h' : Heap} (x : Wd h) (k : h.StaysIn h') : Wd h' :=
  ⟨let ⟨mg, mb, a, b, c, d, e, f⟩ := x.ex; ⟨mg, mb, a.keeps k, b.keeps k, c.keeps k, d.keeps k, e.keeps k, f⟩, x.nl.keeps k⟩

/-- a frame of a def, seen from its names -/
abbrev frm (n : Str) (st : Stmt) (cd : Value) (a L : Addr) : Env := envOf n (fScope st) L a cd

theorem upd_ne {m : Str → Option Value} {x y : Str} {v u : Value} (h : m y = some u) (hne : y ≠ x := by decide) : (fun z => if z = x then some v else m z) y = some u := by
  show (if y = x then some v else m y) = some u
  rw [if_neg hne]; exact h
theorem upd_eq {m : Str → Option Value} {x : Str} {v : Value} : (fun z => if z = x then some v else m z) x = some v := by
  show (if x = x then some v else m x) = some v
  rw [if_pos rfl]

section
variable {prog : Program} {w : World} {A : Around} {s : Shared} {env : Env}

theorem ne_ns {h : Heap} {L a : Addr} {m : Str → Option Value} {its : Array Value} (x : h.Ns L m) (y : h.IsList a its) : a ≠ L := fun q => by
  obtain ⟨o, e, c, n, d⟩ := y
  obtain ⟨o', es, ep, e', d', _⟩ := x
  rw [q, e'] at e; cases e
  rw [d'] at d; cases d
theorem ne_cell {h : Heap} {c a : Addr} {v : Option Value} {its : Array Value} (x : h.IsCell c v) (y : h.IsList a its) : a ≠ c := fun q => by
  obtain ⟨o, e, _, n, d⟩ := y
  obtain ⟨o', e', d'⟩ := x
  rw [q, e'] at e; cases e
  rw [d'] at d; cases d
theorem ne_ns_cell {h : Heap} {L c : Addr} {m : Str → Option Value} {v : Option Value} (x : h.Ns L m) (y : h.IsCell c v) : c ≠ L := fun q => by
  obtain ⟨o, e, d⟩ := y
  obtain ⟨o', es, ep, e', d', _⟩ := x
  rw [q, e'] at e; cases e
  rw [d'] at d; cases d
theorem nf_ns {h : Heap} {L : Addr} {m : Str → Option Value} (x : h.Ns L m) : ∀ o, h.get? L = some o → ∀ vs, o.data ≠ .fields vs := fun o e vs q => by
  obtain ⟨o', _, _, e', d', _⟩ := x
  rw [e'] at e; cases e
  rw [d'] at q; cases q
theorem nf_list {h : Heap} {a : Addr} {its : Array Value} (x : h.IsList a its) : ∀ o, h.get? a = some o → ∀ vs, o.data ≠ .fields vs := fun o e vs q => by
  obtain ⟨o', e', _, _, d'⟩ := x
  rw [e'] at e; cases e
  rw [d'] at q; cases q
theorem nf_cell {h : Heap} {a : Addr} {v : Option Value} (x : h.IsCell a v) : ∀ o, h.get? a = some o → ∀ vs, o.data ≠ .fields vs := fun o e vs q => by
  obtain ⟨o', e', d'⟩ := x
  rw [e'] at e; cases e
  rw [d'] at q; cases q
theorem plain_same {h h' : Heap} {a b : Addr} {its : Array Value} (x : h.PlainList a its) (hs : Heap.SameBut b h h') (hne : a ≠ b) : h'.PlainList a its := x.extBut hs.extBut hne

theorem list_same {h h' : Heap} {a b : Addr} {its : Array Value} (x : h.IsList a its) (hs : Heap.SameBut b h h') (hne : a ≠ b) : h'.IsList a its := x.extBut hs.extBut hne
theorem All2.unsnoc {α β : Type} {R : α → β → Prop} : ∀ {as : List α} {bs : List β} {b : β}, All2 R as (bs ++ [b]) → ∃ as' a, as = as' ++ [a] ∧ All2 R as' bs ∧ R a b
  | _, [], _, .cons x .nil => ⟨[], _, rfl, .nil, x⟩
  | _, _ :: _, _, .cons x r => let ⟨as', a, e, r', y⟩ := r.unsnoc; ⟨_ :: as', a, by rw [e]; rfl, .cons x r', y⟩

/-- the state, written short -/
theorem nrm (s₀ : Shared) (h : Heap) {M : Model} {α : Type} {t : Sem α} {Q : α → Shared → Prop} {E : Value → Shared → Prop} {s' : Shared} (e1 : s'.heap = h) (e2 : s'.gens = s₀.gens) (e3 : s'.drawn = s₀.drawn) (e4 : s'.os = s₀.os)
    (k : ∀ tk, wpAny M A t Q E { s₀ with heap := h, toks := tk }) : wpAny M A t Q E s' := by
  obtain ⟨a, b, c, d, e⟩ := s'
  dsimp only at e1 e2 e3 e4
  subst e1 e2 e3 e4
  exact k d

/-- a def called by its name with one argument -/
theorem call_def1 {x : Str} {np pos : Pos} {arg : Expr} {st : Stmt} {Q : Value → Shared → Prop} {E : Value → Shared → Prop} (W0 : Wd s.heap)
    (hx : ∀ {mg : Str → Option Value} {mb : Str → Option Value}, s.heap.Ns mainGlobals mg → s.heap.Ns builtinsNs mb → DefAt s.heap mg "_law_rows" rowsS → DefAt s.heap mg "_c3_merge" c3S → DefAt s.heap mg "_law_has_ring" ringS → DefAt s.heap mg x st)
    (hg : env.globals = mainGlobals)
    (h : ∀ f o pm cd doc, s.heap.get? f = some o → o.data = .func (docDef x (fArgs st) (fBody st) (fScope st) pm cd doc) → s.heap.CodeRec cd x →
      wpAny (model prog w) A (eval arg env) (fun v s₁ => s₁.heap.get? f = some o ∧ wpAny (model prog w) A (call (.ref f) [v]) Q E s₁) E s)
    (hb : backTo pos (starEach [arg] env) = [(false, eval arg env)] := by rfl)
    (hk : env.scope.kind = .function := by rfl) (hl : env.kindOf x = some .globalImplicit := by rfl) (hd : (x == ("__debug__" : Str)) = false := by decide) :
    wpAny (model prog w) A (eval (.Call (.Name x np) [arg] [] pos) env) Q E s := by
  obtain ⟨mg, mb, n1, n2, d1, d2, d3, _⟩ := W0.ex
  obtain ⟨f, o, pm, cd, doc, e1, e2, e3, e4⟩ := hx n1 n2 d1 d2 d3
  refine wpAny_Call_NameR (nmG (hg ▸ n1) e1 ?_ hk hl hd)
  rw [hb]
  refine callWith_function (o := o) (fd := docDef x (fArgs st) (fBody st) (fScope st) pm cd doc) (evalArgs_plain (spliced_cons (wpAny_mono (h f o pm cd doc e2 e3 e4) (fun v s₁ h₁ => spliced_nil ⟨⟨h₁.1, e3⟩, h₁.2⟩) fun _ _ e => e)))

/-- [e] -/
theorem disp1 {e : Expr} {pos : Pos} {Q : Value → Shared → Prop} {E : Value → Shared → Prop}
    (h : wpAny (model prog w) A (eval e env) (fun v s₁ => Q (.ref s₁.heap.objs.size) { s₁ with heap := s₁.heap.push { cls := .type "list", data := .seq #[v] } }) E s)
    (hb : backTo pos (starEach [e] env) = [(false, eval e env)] := by rfl) : wpAny (model prog w) A (eval (.List [e] pos) env) Q E s := by
  refine wpAny_List ?_
  rw [hb]
  exact spliced_cons (wpAny_mono h (fun v s₁ h₁ => spliced_nil ⟨by show 1 ≤ sizeLine; decide, h₁⟩) fun _ _ e => e)
/-- o.append(elt), as a statement -/
theorem append_stmt {o elt : Expr} {apos pos spos : Pos} {Q : Flow → Shared → Prop} {E : Value → Shared → Prop}
    (h : wpAny (model prog w) A (eval o env) (fun ov s₁ => ∃ D its, ov = .ref D ∧ s₁.heap.PlainList D its ∧ wpAny (model prog w) A (eval elt env) (fun y s₂ => ∃ its', s₂.heap.PlainList D its' ∧ its'.size ≤ sizeLine ∧
      ∀ h', h'.PlainList D (its'.push y) → Heap.SameBut D s₂.heap h' → Q .next { s₂ with heap := h' }) E s₁) E s)
    (hbase : attributeBase o "append" env (eval o env) = eval o env := by rfl) (hp : (apos.endLine == pos.line) = true := by rfl) (hb : backTo pos (starEach [elt] env) = [(false, eval elt env)] := by rfl)
    (hi : interactive env = false := by rfl) (hs : swapsWith (.Call (.Attribute o "append" apos) [elt] [] pos) none spos.line env = pure false := by rfl) :
    wpAny (model prog w) A (exec (.Expr (.Call (.Attribute o "append" apos) [elt] [] pos) spos) env) Q E s := by
  refine wpAny_Expr_any ?_ hi hs
  refine wpAny_Call_append hbase (by rw [hb]; rfl) hp hb (wpAny_mono h (fun ov s₁ h₁ => ?_) fun _ _ e => e)
  obtain ⟨D, its, rfl, ⟨n, e⟩, h₂⟩ := h₁
  refine ⟨D, its, rfl, ⟨_, n, e, rfl, rfl, rfl⟩, wpAny_mono h₂ (fun y s₂ h₃ => ?_) fun _ _ e => e⟩
  obtain ⟨its', hp, hz, k⟩ := h₃
  exact wpAny_list_append_plain hp (fun h' hl hs => k h' hl hs) hz
/-- value[-1] -/
theorem subLast {value slice : Expr} {pos : Pos} {Q : Value → Shared → Prop} {E : Value → Shared → Prop}
    (h : wpAny (model prog w) A (eval value env) (fun o s₁ => wpAny (model prog w) A (eval slice env) (fun i s₂ => ∃ a its v t, o = .ref a ∧ s₂.heap.IsList a its ∧ i = .int (-1) t ∧ its[its.size - 1]? = some v ∧ Q v s₂) E s₁) E s)
    (hs : ∀ o i, subscripted slice false o i = operate [o, i] (getItem o i) := by intro _ _; with_unfolding_all rfl) (hg : ∀ o r, letTemporaryGo value o r = pure () := by intro _ _; rfl) :
    wpAny (model prog w) A (eval (.Subscript value slice pos) env) Q E s := by
  refine Subscript_ (wpAny_mono h (fun o s₁ h₁ => wpAny_mono h₁ (fun i s₂ h₂ => ?_) fun _ _ e => e) fun _ _ e => e)
  obtain ⟨a, its, v, t, rfl, hl, rfl, hv, hQ⟩ := h₂
  have hz : 0 < its.size := by
    rcases Nat.eq_zero_or_pos its.size with e | e
    · simp [Array.size_eq_zero_iff.mp e] at hv
    · exact e
  refine subscriptTail_builtin hl.typeIs slot_list_getitem.lookup (wpAny_getItem_list_neg hl (by decide) (by omega) (by decide) ?_ hQ) (hs _ _) (hg _)
  rw [show ((-1 : Int) + (its.size : Int)).toNat = its.size - 1 by omega]; exact hv
/-- a plain name stored -/
theorem stL {x : Str} {m : Str → Option Value} {v : Value} {Q : Unit → Shared → Prop} {E : Value → Shared → Prop} (hn : s.heap.Ns env.locals m)
    (k : ∀ h' tk, (h'.Ns env.locals fun z => if z = x then some v else m z) → Heap.SameBut env.locals s.heap h' → Q () { s with heap := h', toks := tk })
    (hl : env.kindOf x = some .local := by rfl) (hp : (env.scope.kind == .class || (env.scope.kind == .module && env.locals != env.globals)) = false := by rfl) :
    wpAny (model prog w) A (storeName env x v) Q E s := wpAny_storeName_local hl hn (fun h' hn hs => k h' _ hn hs) hp
theorem asL {x : Str} {pos : Pos} {m : Str → Option Value} {v : Value} {Q : Unit → Shared → Prop} {E : Value → Shared → Prop} (hn : s.heap.Ns env.locals m)
    (k : ∀ h' tk, (h'.Ns env.locals fun z => if z = x then some v else m z) → Heap.SameBut env.locals s.heap h' → Q () { s with heap := h', toks := tk })
    (hl : env.kindOf x = some .local := by rfl) (hp : (env.scope.kind == .class || (env.scope.kind == .module && env.locals != env.globals)) = false := by rfl) :
    wpAny (model prog w) A (assign (.Name x pos) env v) Q E s := wpAny_assign_Name (wpAny_storeName_local hl hn (fun h' hn hs => k h' _ hn hs) hp)
end
end C3P

/-! part C3Rows -/
namespace C3P
open PySem PySem.W PyProof.Rows PySem.Calls

/-! what _law_rows reckons -/
def rowStep (rows : List (List Int)) (x : Int) : List (List Int) :=
  if x.fmod 8 = 0 then rows ++ [[]] else if (rows.getLastD []).contains (x.fmod 8) then rows else rows.dropLast ++ [rows.getLastD [] ++ [x.fmod 8]]
def rowsOf (ns : List Int) : List (List Int) := ns.foldl rowStep [[]]

/-- a list of lists of ints, told with its addresses -/
def RowsAt (h : Heap) (r : Addr) (as : List Addr) (rows : List (List Int)) : Prop :=
  h.PlainList r (List.toArray (as.map Value.ref)) ∧ as.Nodup ∧ r ∉ as ∧ All2 (fun ds a => ∃ ys, h.PlainList a (List.toArray ys) ∧ All2 (fun d y => RInt d y h) ds ys) rows as
theorem RowsAt.nf {h h' : Heap} {r : Addr} {as : List Addr} {rows : List (List Int)} (x : RowsAt h r as rows) (k : NF h h') : RowsAt h' r as rows :=
  ⟨k.plain x.1, x.2.1, x.2.2.1, x.2.2.2.mono fun _ _ ⟨ys, p, q⟩ => ⟨ys, k.plain p, q⟩⟩
theorem RowsAt.rl {h : Heap} {r : Addr} {as : List Addr} {rows : List (List Int)} (x : RowsAt h r as rows) : RL (RL RInt) rows (.ref r) h := by
  refine ⟨r, as.map .ref, rfl, x.1.isList, ?_⟩
  have key : ∀ {rows : List (List Int)} {as : List Addr}, All2 (fun ds a => ∃ ys, h.PlainList a (List.toArray ys) ∧ All2 (fun d y => RInt d y h) ds ys) rows as → All2 (fun d y => RL RInt d y h) rows (as.map .ref) := by
    intro rows as q
    induction q with
    | nil => exact .nil
    | cons x _ ih => obtain ⟨ys, p, z⟩ := x; exact .cons ⟨_, ys, rfl, p.isList, z⟩ ih
  exact key x.2.2.2
theorem rows_same {h h' : Heap} {b : Addr} (hs : Heap.SameBut b h h') : ∀ {rows : List (List Int)} {as : List Addr}, All2 (fun ds a => ∃ ys, h.PlainList a (List.toArray ys) ∧ All2 (fun d y => RInt d y h) ds ys) rows as → b ∉ as →
    All2 (fun ds a => ∃ ys, h'.PlainList a (List.toArray ys) ∧ All2 (fun d y => RInt d y h') ds ys) rows as
  | _, _, .nil, _ => .nil
  | _, _, .cons ⟨ys, p, z⟩ r, n => .cons ⟨ys, plain_same p hs (fun q => n (by simp [q])), z⟩ (rows_same hs r fun q => n (by simp [q]))
theorem RowsAt.same {h h' : Heap} {r b : Addr} {as : List Addr} {rows : List (List Int)} (x : RowsAt h r as rows) (hs : Heap.SameBut b h h') (n1 : r ≠ b) (n2 : b ∉ as) : RowsAt h' r as rows :=
  ⟨plain_same x.1 hs n1, x.2.1, x.2.2.1, rows_same hs x.2.2.2 n2⟩
theorem RowsAt.ns {h h' : Heap} {r L : Addr} {m : Str → Option Value} {as : List Addr} {rows : List (List Int)} (x : RowsAt h r as rows) (n : h.Ns L m) (hs : Heap.SameBut L h h') : RowsAt h' r as rows :=
  x.same hs (ne_ns n x.1.isList) fun hm => by
    obtain ⟨ds, _, ys, p, _⟩ := x.2.2.2.mem L hm
    exact ne_ns n p.isList rfl
theorem RowsAt.mem {h : Heap} {r : Addr} {as : List Addr} {rows : List (List Int)} (x : RowsAt h r as rows) : ∀ a ∈ as, ∃ its, h.IsList a its := fun a ha => by
  obtain ⟨ds, _, ys, p, _⟩ := x.2.2.2.mem a ha
  exact ⟨_, p.isList⟩

section
variable {prog : Program} {w : World} {A : Around} {s : Shared}

set_option maxHeartbeats 4000000 in
theorem rows_body {L a : Addr} {cd : Value} {h₀ : Heap} {l : Addr} {vs : List Value} {ns : List Int} {m : Str → Option Value} {Q : Flow → Shared → Prop} {E : Value → Shared → Prop}
    (hok : h₀.StaysIn s.heap) (hh : HOk A h₀) (hL : s.heap.Ns L m) (hL₀ : h₀.get? L = none) (hm : m "script" = some (.ref l)) (hl : h₀.IsList l vs.toArray) (hi : All2 (fun d y => RInt d y h₀) ns vs) (hlen : ns.length ≤ 63)
    (k : ∀ r h tk, h₀.StaysIn h → RL (RL RInt) (rowsOf ns) r h → Q (.ret r) { s with heap := h, toks := tk }) :
    wpAny (model prog w) A (execs (fBody rowsS) (frm "_law_rows" rowsS cd a L)) Q E s := by
  refine wpAny_noRaise (wpAny_execs_cons ?_)
  -- rows = [[]]
  refine wpAny_Assign_Name (disp1 (dispNil RInt fun a₀ h₁ st₁ ha₀ hp₀ _ => ?_))
  have st₂ := stays_push h₁ { cls := .type "list", data := .seq #[.ref a₀] }
  have ok₂ := stays_trans hok (stays_trans st₁ st₂)
  have hr₂ : (h₁.push { cls := .type "list", data := .seq #[.ref a₀] }).PlainList h₁.objs.size #[.ref a₀] := ⟨0, Heap.get?_push_size _ rfl⟩
  have hp₂ : (h₁.push { cls := .type "list", data := .seq #[.ref a₀] }).PlainList a₀ #[] := hp₀.at fun o e => st₂ _ _ e
  have hra : h₁.objs.size ≠ a₀ := by obtain ⟨n, e⟩ := hp₀; exact (Nat.ne_of_lt (Heap.lt_size e)).symm
  have hr₀ : h₀.get? h₁.objs.size = none := fresh_stays (stays_trans hok st₁) (fresh_size _)
  have ha₀' : h₀.get? a₀ = none := fresh_stays hok ha₀
  generalize h₁.push { cls := .type "list", data := .seq #[.ref a₀] } = h₂ at st₂ ok₂ hr₂ hp₂
  generalize h₁.objs.size = r at hr₂ hra hr₀
  have hL₂ := hL.keeps (stays_trans st₁ st₂)
  refine stL hL₂ fun h₃ tk₃ hL₃ hs₃ => ?_
  have ok₃ := stays_same ok₂ hs₃ hL₀
  have R₃ : RowsAt h₃ r [a₀] [[]] := RowsAt.ns (m := m) (L := L) ⟨hr₂, by simp, by simpa using hra, .cons ⟨[], hp₂, .nil⟩ .nil⟩ hL₂ hs₃
  -- for x in script
  refine nrm s h₃ rfl rfl rfl rfl fun tk₄ => ?_
  refine wpAny_execs_cons ?_
  refine for_list (A := A) (h₀ := h₀) (g := h₃) (l := l) (items := vs.toArray)
    (fun i h => ∃ m as, h.Ns L m ∧ m "script" = some (.ref l) ∧ m "rows" = some (.ref r) ∧ RowsAt h r as ((ns.take i).foldl rowStep [[]]) ∧ h.IsList l vs.toArray ∧ (∀ a ∈ as, h₀.get? a = none) ∧
      (∀ row ∈ (ns.take i).foldl rowStep [[]], row.length ≤ i) ∧ as.length ≤ i + 1 ∧ as ≠ []) hh (Ok.refl ok₃) (fun i h ⟨_, _, _, _, _, _, x, _⟩ => x)
    (fun i h h' ⟨m, as, n, e1, e2, R, x, y⟩ k => ⟨m, as, k.ns n, e1, e2, R.nf k, k.list x, y⟩)
    ⟨_, [a₀], hL₃, upd_ne hm, upd_eq, R₃, isList_stays hl ok₃, by simpa using ha₀', by simp, by simp, by simp⟩
    (fun Q' hq => nmL hL₃ (upd_ne hm) hq) ?_ ?_
  · rintro i v h tk hv ok ⟨m, as, n, e1, e2, R, hls, fr, hrl, hal, hne⟩
    obtain ⟨n₀, hn₀, t₀, rfl⟩ := hi.get i v (by simpa using hv)
    have hin : i < ns.length := (List.getElem?_eq_some_iff.mp hn₀).1
    have hstep : (ns.take (i + 1)).foldl rowStep [[]] = rowStep ((ns.take i).foldl rowStep [[]]) n₀ := by rw [take_snoc hn₀, List.foldl_append]; rfl
    rw [hstep]
    generalize (ns.take i).foldl rowStep [[]] = rows at R hrl
    have hrlen : rows.length = as.length := R.2.2.2.len
    refine asL n fun h₁ tk₁ n₁ s₁ => ?_
    have ok₁ : Ok h₀ h h₁ := (Ok.refl ok.k).same s₁ hL₀ (nf_ns n)
    have R₁ := R.ns n s₁
    have ls₁ := list_same hls s₁ (ne_ns n hls)
    have e1₁ := upd_ne (x := "x") (v := .int n₀ t₀) e1
    have e2₁ := upd_ne (x := "x") (v := .int n₀ t₀) e2
    refine wpAny_execs_cons (wpAny_If (wpAny_isTrue_Compare1 (wpAny_BinOp (nmL n₁ upd_eq (wpAny_Constant_int (mod_int' (by decide) (wpAny_Constant_int (eq_int (wpAny_truthy_bool ?_)))))))))
    by_cases hz : n₀.fmod 8 = 0
    · rw [if_pos (by simpa using hz)]
      refine wpAny_execs_cons (append_stmt (nmL n₁ e2₁ ⟨r, _, rfl, R₁.1, dispNil RInt fun a₁ h₂ st₂ ha₁ hp₁ _ => ?_⟩))
      refine ⟨_, R₁.1.at fun o e => st₂ _ _ e, ?_, fun h₃ hp₃ hs₃ => ?_⟩
      · simp only [List.size_toArray, List.length_map]
        exact Nat.le_trans hal (by have : sizeLine = 2 ^ 24 := rfl; omega)
      have hr1 : r ≠ a₁ := fun q => by obtain ⟨_, e⟩ := R₁.1; rw [q, ha₁] at e; cases e
      have hna : a₁ ∉ as := fun hm => by obtain ⟨_, o, e, _⟩ := R₁.mem _ hm; rw [ha₁] at e; cases e
      refine wpAny_execs_nil (wpAny_execs_nil ⟨h₃, _, rfl, ((ok₁.stays st₂).same hs₃ hr₀ (nf_list (R₁.1.at fun o e => st₂ _ _ e).isList)), _, as ++ [a₁], (n₁.keeps st₂).sameBut hs₃ (Ne.symm (ne_ns n₁ R₁.1.isList)), e1₁, e2₁, ⟨?_, ?_, ?_, ?_⟩, ?_, ?_, ?_, ?_, ?_⟩)
      · rw [List.push_toArray] at hp₃; simpa using hp₃
      · refine List.nodup_append.mpr ⟨R₁.2.1, by simp, fun b hb b' hb' => ?_⟩
        rw [List.mem_singleton.mp hb']; rintro rfl; exact hna hb
      · intro hm
        rcases List.mem_append.mp hm with hm | hm
        · exact R₁.2.2.1 hm
        · exact hr1 (List.mem_singleton.mp hm)
      · rw [rowStep, if_pos hz]
        exact (rows_same hs₃ (R₁.nf (.of_stays st₂)).2.2.2 R₁.2.2.1).snoc ⟨[], plain_same hp₁ hs₃ (Ne.symm hr1), .nil⟩
      · exact list_same (isList_stays ls₁ st₂) hs₃ (fun q => by obtain ⟨o, e, _⟩ := hl; rw [q, hr₀] at e; cases e)
      · intro b hb
        rcases List.mem_append.mp hb with hb | hb
        · exact fr b hb
        · rw [List.mem_singleton.mp hb]; exact fresh_stays ok₁.k ha₁
      · rw [rowStep, if_pos hz]
        intro row hrow
        rcases List.mem_append.mp hrow with hrow | hrow
        · have := hrl row hrow; omega
        · rw [List.mem_singleton.mp hrow]; simp
      · simp; omega
      · simp
    · rw [if_neg (by simpa using hz)]
      obtain ⟨as', al, rfl⟩ : ∃ as' al, as = as' ++ [al] := ⟨_, _, (List.dropLast_concat_getLast hne).symm⟩
      obtain ⟨rows', rl, rfl, A2, ys, hal', hys⟩ := R₁.2.2.2.unsnoc
      have hlast : (List.toArray ((as' ++ [al]).map Value.ref))[(List.toArray ((as' ++ [al]).map Value.ref)).size - 1]? = some (.ref al) := by simp
      refine wpAny_execs_cons (wpAny_If (wpAny_isTrue_Compare1 (wpAny_BinOp (nmL n₁ upd_eq (wpAny_Constant_int (mod_int' (by decide)
        (subLast (nmL n₁ e2₁ (wpAny_UnaryOp (wpAny_Constant_int (neg_int ⟨r, _, _, _, rfl, R₁.1.isList, rfl, hlast, notInI (ns := rl) ⟨al, ys, rfl, hal'.isList, hys⟩ (wpAny_truthy_bool ?_)⟩)))))))))))
      have hst : rowStep (rows' ++ [rl]) n₀ = if rl.contains (n₀.fmod 8) then rows' ++ [rl] else rows' ++ [rl ++ [n₀.fmod 8]] := by
        rw [rowStep, if_neg hz]; simp
      have hrll : rl.length ≤ i := hrl rl (by simp)
      by_cases hc : rl.contains (n₀.fmod 8) = true
      · rw [if_neg (by simpa using hc)]
        rw [if_pos hc] at hst
        rw [hst]
        refine wpAny_execs_nil (wpAny_execs_nil (wpAny_execs_nil ⟨h₁, _, rfl, ok₁, _, as' ++ [al], n₁, e1₁, e2₁, R₁, ls₁, fr, fun row hr => Nat.le_succ_of_le (hrl row hr), by omega, hne⟩))
      · rw [if_pos (by simpa using hc)]
        rw [if_neg hc] at hst
        rw [hst]
        refine wpAny_execs_cons (append_stmt (subLast (nmL n₁ e2₁ (wpAny_UnaryOp (wpAny_Constant_int (neg_int ⟨r, _, _, _, rfl, R₁.1.isList, rfl, hlast, al, _, rfl, hal',
          wpAny_BinOp (nmL n₁ upd_eq (wpAny_Constant_int (mod_int' (by decide) ⟨_, hal', ?_, fun h₃ hp₃ hs₃ => ?_⟩)))⟩))))))
        · have := hys.len
          have hz' : sizeLine = 2 ^ 24 := rfl
          simp only [List.size_toArray]; omega
        have hral : r ≠ al := fun q => R₁.2.2.1 (by simp [q])
        have hna : al ∉ as' := fun hm => (List.nodup_append.mp R₁.2.1).2.2 al hm al (by simp) rfl
        have hal₀ : h₀.get? al = none := fr al (by simp)
        refine wpAny_execs_nil (wpAny_execs_nil (wpAny_execs_nil ⟨h₃, _, rfl, ok₁.same hs₃ hal₀ (nf_list hal'.isList), _, as' ++ [al], n₁.sameBut hs₃ (Ne.symm (ne_ns n₁ hal'.isList)), e1₁, e2₁, ⟨?_, R₁.2.1, R₁.2.2.1, ?_⟩, ?_, fr, ?_, by omega, hne⟩))
        · exact plain_same R₁.1 hs₃ hral
        · have hp₄ := hp₃
          rw [List.push_toArray] at hp₄
          exact (rows_same hs₃ A2 hna).snoc ⟨_, hp₄, hys.snoc ⟨_, rfl⟩⟩
        · exact list_same ls₁ hs₃ (fun q => by obtain ⟨o, e, _⟩ := hl; rw [q, hal₀] at e; cases e)
        · intro row hrow
          rcases List.mem_append.mp hrow with hrow | hrow
          · exact Nat.le_succ_of_le (hrl row (by simp [hrow]))
          · rw [List.mem_singleton.mp hrow]; simp; omega
  · rintro h tk ok ⟨m, as, n, e1, e2, R, hls, fr, hrl, hal, hne⟩
    refine wpAny_execs_nil (wpAny_execs_cons (wpAny_Return_some (nmL n e2 ?_)))
    refine k (.ref r) h tk ok.k ?_
    have hsz : vs.toArray.size = ns.length := by simp [hi.len]
    rw [hsz, List.take_length] at R
    exact R.rl
end
end C3P

/-! part C3RowsC -/
namespace C3P
open PySem PySem.W PyProof.Rows PySem.Calls
section
variable {prog : Program} {w : World} {A : Around} {s : Shared}

set_option maxHeartbeats 1000000 in
theorem rows_call {f : Addr} {o : Obj} {pm cd doc : Value} (ho : s.heap.get? f = some o) (hd : o.data = .func (docDef "_law_rows" (fArgs rowsS) (fBody rowsS) (fScope rowsS) pm cd doc)) (hcd : s.heap.CodeRec cd "_law_rows")
    (hlim : s.heap.NoLimit) (hroom : A.depth < recursionLimit) (hh : HOk A s.heap) {l : Addr} {vs : List Value} {ns : List Int} {Q : Value → Shared → Prop} {E : Value → Shared → Prop}
    (hl : s.heap.IsList l vs.toArray) (hi : All2 (fun d y => RInt d y s.heap) ns vs) (hlen : ns.length ≤ 63)
    (k : ∀ r h tk, s.heap.StaysIn h → RL (RL RInt) (rowsOf ns) r h → Q r { s with heap := h, toks := tk }) : wpAny (model prog w) A (call (.ref f) [.ref l]) Q E s := by
  refine wpAny_call (codeAny_call_def (binds := [("script", .ref l)]) hroom ho hd hlim hcd rfl (BindsTo.of_eq rfl) (show ∀ x ∈ (fScope rowsS).names, x.2 ≠ NameKind.cell by decide +kernel) (by intro x hx; rw [List.mem_singleton.mp hx]; rfl) (fun h₀ hns hk => ?_) rfl rfl rfl)
  refine rows_body (A := A.deeper (callEnv (docDef "_law_rows" (fArgs rowsS) (fBody rowsS) (fScope rowsS) pm cd doc) s.heap.objs.size f)) (h₀ := s.heap) hk hh hns (fresh_size _) rfl hl hi hlen fun r h tk st hr => ?_
  exact k r h tk st hr
end
end C3P

/-! part C3Calls -/
namespace C3P
open PySem PySem.W PyProof.Rows PySem.Calls

def RAdr : Rep Addr := fun a v _ => v = .ref a
theorem RAdr.monoN : MonoN RAdr := fun _ _ _ _ x _ => x
theorem all2_adr {h : Heap} : ∀ as : List Addr, All2 (fun d y => RAdr d y h) as (as.map Value.ref)
  | [] => .nil
  | a :: as => .cons rfl (all2_adr as)
theorem rl_adr {h : Heap} {B : Addr} {as : List Addr} (x : h.IsList B (List.toArray (as.map Value.ref))) : RL RAdr as (.ref B) h := ⟨B, _, rfl, x, all2_adr as⟩

section
variable {prog : Program} {w : World} {A : Around} {s : Shared} {env : Env}

theorem ev_range1 {np pos : Pos} {arg : Expr} {n : Int} {Q' : Value → Shared → Prop} {E : Value → Shared → Prop} (W0 : Wd s.heap) (hg : env.globals = mainGlobals) (hbi : env.builtins = builtinsNs)
    (harg : ∀ Q : Value → Shared → Prop, (∀ t tk, Q (.int n t) { s with toks := tk }) → wpAny (model prog w) A (eval arg env) Q E s)
    (k : ∀ r t u v h tk, s.heap.StaysIn h → IsRange h r 0 n 1 t u v → Q' (.ref r) { s with heap := h, toks := tk })
    (hb : backTo pos (starEach [arg] env) = [(false, eval arg env)] := by rfl)
    (hk : env.scope.kind = .function := by rfl) (hl : env.kindOf "range" = some .globalImplicit := by rfl) :
    wpAny (model prog w) A (eval (.Call (.Name "range" np) [arg] [] pos) env) Q' E s := by
  obtain ⟨mg, mb, n1, n2, _, _, _, f1, f2⟩ := W0.ex
  refine wpAny_Call_NameR (nmB (hg ▸ n1) f1.1 (hbi ▸ n2) f2.1 ?_ hk hl)
  rw [hb]
  refine PySem.callWith_type rfl (evalArgs_plain (spliced_cons (harg _ fun t tk => spliced_nil ?_)))
  refine call_range_1 (k _ _ _ _ _ _ (stays_push _ _) (IsRange.new _ _ _ _ _ _ _))

theorem ev_range2 {np pos : Pos} {a1 a2 : Expr} {n1 n2 : Int} {Q' : Value → Shared → Prop} {E : Value → Shared → Prop} (W0 : Wd s.heap) (hg : env.globals = mainGlobals) (hbi : env.builtins = builtinsNs)
    (h1 : ∀ (Q : Value → Shared → Prop), (∀ t tk, Q (.int n1 t) { s with toks := tk }) → wpAny (model prog w) A (eval a1 env) Q E s)
    (h2 : ∀ tk (Q : Value → Shared → Prop), (∀ t tk, Q (.int n2 t) { s with toks := tk }) → wpAny (model prog w) A (eval a2 env) Q E { s with toks := tk })
    (k : ∀ r t u v h tk, s.heap.StaysIn h → IsRange h r n1 n2 1 t u v → Q' (.ref r) { s with heap := h, toks := tk })
    (hb : backTo pos (starEach [a1, a2] env) = [(false, eval a1 env), (false, eval a2 env)] := by rfl)
    (hk : env.scope.kind = .function := by rfl) (hl : env.kindOf "range" = some .globalImplicit := by rfl) :
    wpAny (model prog w) A (eval (.Call (.Name "range" np) [a1, a2] [] pos) env) Q' E s := by
  obtain ⟨mg, mb, m1, m2, _, _, _, f1, f2⟩ := W0.ex
  refine wpAny_Call_NameR (nmB (hg ▸ m1) f1.1 (hbi ▸ m2) f2.1 ?_ hk hl)
  rw [hb]
  refine PySem.callWith_type rfl (evalArgs_plain (spliced_cons (h1 _ fun t tk => spliced_cons (h2 tk _ fun t' tk' => spliced_nil ?_))))
  refine call_range_2 (k _ _ _ _ _ _ (stays_push _ _) (IsRange.new _ _ _ _ _ _ _))

theorem ev_len {np pos : Pos} {arg : Expr} {δ : Type} {R : Rep δ} {ds : List δ} {v : Value} {Q : Value → Shared → Prop} {E : Value → Shared → Prop} (W0 : Wd s.heap) (hg : env.globals = mainGlobals) (hbi : env.builtins = builtinsNs)
    (hr : RL R ds v s.heap) (hsz : ds.length < 2 ^ 63) (harg : ∀ Q : Value → Shared → Prop, Q v s → wpAny (model prog w) A (eval arg env) Q E s)
    (k : ∀ t tk, Q (.int ds.length t) { s with toks := tk })
    (hb : backTo pos (starEach [arg] env) = [(false, eval arg env)] := by rfl)
    (hk : env.scope.kind = .function := by rfl) (hl : env.kindOf "len" = some .globalImplicit := by rfl) :
    wpAny (model prog w) A (eval (.Call (.Name "len" np) [arg] [] pos) env) Q E s := by
  obtain ⟨mg, mb, m1, m2, _, _, _, f1, f2⟩ := W0.ex
  refine wpAny_Call_NameR (nmB (hg ▸ m1) f1.2.1 (hbi ▸ m2) f2.2.1 ?_ hk hl)
  rw [hb]
  exact PySem.Calls.callWith_builtin rfl (evalArgs_plain (spliced_cons (harg _ (spliced_nil (lenL hr hsz (k _ _))))))

/-- list(v) -/
theorem ev_list {np pos : Pos} {arg : Expr} {δ : Type} {R : Rep δ} {ds : List δ} {v : Value} {Q : Value → Shared → Prop} {E : Value → Shared → Prop} (W0 : Wd s.heap) (hg : env.globals = mainGlobals) (hbi : env.builtins = builtinsNs)
    (hr : RL R ds v s.heap) (hsz : ds.length ≤ sizeLine) (harg : ∀ Q : Value → Shared → Prop, Q v s → wpAny (model prog w) A (eval arg env) Q E s)
    (k : ∀ a ys h tk, s.heap.StaysIn h → s.heap.get? a = none → h.PlainList a (List.toArray ys) → All2 (fun d y => R d y s.heap) ds ys → Q (.ref a) { s with heap := h, toks := tk })
    (hb : backTo pos (starEach [arg] env) = [(false, eval arg env)] := by rfl)
    (hk : env.scope.kind = .function := by rfl) (hl : env.kindOf "list" = some .globalImplicit := by rfl) :
    wpAny (model prog w) A (eval (.Call (.Name "list" np) [arg] [] pos) env) Q E s := by
  obtain ⟨mg, mb, m1, m2, _, _, _, f1, f2⟩ := W0.ex
  obtain ⟨a, ys, rfl, ⟨o, ho, hc, n, hd⟩, hA⟩ := hr
  refine wpAny_Call_NameR (nmB (hg ▸ m1) f1.2.2.1 (hbi ▸ m2) f2.2.2.1 ?_ hk hl)
  rw [hb]
  refine PySem.callWith_type rfl (evalArgs_plain (spliced_cons (harg _ (spliced_nil ?_))))
  refine call_list_seq a (.inl rfl) ho hc hd (fun h' c' hk hD => k _ ys h' _ hk (fresh_size _) ⟨c', hD⟩ hA) ?_
  have := hA.len
  simp only [List.size_toArray]; omega

theorem intsAre {h : Heap} : ∀ {ns : List Int} {vs : List Value}, All2 (fun d y => RInt d y h) ns vs → IntsAre vs ns
  | _, _, .nil => .nil
  | _, _, .cons ⟨t, e⟩ r => by subst e; exact .cons _ _ (intsAre r)
theorem of_intsAre {h : Heap} : ∀ {ns : List Int} {vs : List Value}, IntsAre vs ns → All2 (fun d y => RInt d y h) ns vs
  | _, _, .nil => .nil
  | _, _, .cons _ _ r => .cons ⟨_, rfl⟩ (of_intsAre r)
/-- sorted(v) of fewer than 64 ints -/
theorem ev_sorted {np pos : Pos} {arg : Expr} {ns : List Int} {v : Value} {Q : Value → Shared → Prop} {E : Value → Shared → Prop} (W0 : Wd s.heap) (hg : env.globals = mainGlobals) (hbi : env.builtins = builtinsNs)
    (hr : RL RInt ns v s.heap) (hsz : ns.length < 64) (harg : ∀ Q : Value → Shared → Prop, Q v s → wpAny (model prog w) A (eval arg env) Q E s)
    (k : ∀ v' ns' h tk, s.heap.StaysIn h → RL RInt ns' v' h → ns'.Perm ns → ns'.Pairwise (· ≤ ·) → Q v' { s with heap := h, toks := tk })
    (hb : backTo pos (starEach [arg] env) = [(false, eval arg env)] := by rfl)
    (hk : env.scope.kind = .function := by rfl) (hl : env.kindOf "sorted" = some .globalImplicit := by rfl) :
    wpAny (model prog w) A (eval (.Call (.Name "sorted" np) [arg] [] pos) env) Q E s := by
  obtain ⟨mg, mb, m1, m2, _, _, _, f1, f2⟩ := W0.ex
  obtain ⟨a, ys, rfl, hl', hA⟩ := hr
  refine wpAny_Call_NameR (nmB (hg ▸ m1) f1.2.2.2.1 (hbi ▸ m2) f2.2.2.2.1 ?_ hk hl)
  rw [hb]
  refine PySem.Calls.callWith_builtin rfl (evalArgs_plain (spliced_cons (harg _ (spliced_nil ?_))))
  refine sorted_ints hl' (intsAre hA) (by rw [← hA.len]; exact hsz) fun out ns' i1 i2 i3 => ?_
  obtain ⟨e, he⟩ := sortedAll_at s.heap ys out
  exact k _ ns' _ _ (fun _ _ => sortedAll_old) ⟨_, out.toList, rfl, ⟨_, he, rfl, e, rfl⟩, of_intsAre i1⟩ i2 i3

/-- [x] * n, n written -/
theorem mulL {l : Addr} {items : Array Value} {x : Int} {u : Tok} {Q : Value → Shared → Prop} {E : Value → Shared → Prop} (hl : s.heap.PlainList l items) (hlo : 0 ≤ x) (hhi : x < 2 ^ 20) (hsz : items.size * x.toNat ≤ 2 ^ 24)
    (h : ∀ a h', s.heap.StaysIn h' → s.heap.get? a = none → h'.PlainList a (List.foldl (fun x1 x2 => x1 ++ x2) #[] (List.replicate (if items.isEmpty = true then 0 else x.toNat) items)) → Q (.ref a) { s with heap := h' }) :
    wpAny (model prog w) A (binaryOp .Mult (.ref l) (.int x u)) Q E s := by
  obtain ⟨k, hl⟩ := hl
  refine wpAny_binaryOp_repeat_ref (T := "list") (U := "int") (by decide) ⟨_, hl, rfl⟩ (fun s' => typeIs_int s' x u) noFill_list_mul F.fills_int_mul F.slot_int_rmul repeat_list F.slot_int_index.lookup ?_
  refine call_meets F.slot_int_rmul (typeIs_int s x u) F.entry_int_rmul (F.args_int_rmul_2 _ _) (int___rmul___int_list x u l items k) ⟨hl, rfl, ⟨_, hl, rfl⟩, ?_⟩
  refine call_meets F.slot_list_mul ⟨_, hl, rfl⟩ F.entry_list_mul (F.args_list_mul_2 _ _)
    (AutoListH.list___mul___list_int_3 l items k x u (by simp [Builtin.List.listFitsIndex]; omega) (by omega) (by simp [Builtin.List.listTooLong, sizeLine]; omega)) ⟨hl, h _ _ (stays_push _ _) (fresh_size _) ⟨0, Heap.get?_push_size _ rfl⟩⟩
end
end C3P

/-! part C3Ring -/
namespace C3P
open PySem PySem.W PyProof.Rows PySem.Calls

/-! what _law_has_ring reckons: a matrix of bools as a list of lists -/
abbrev Mx := List (List Bool)
def mget (M : Mx) (a b : Nat) : Bool := (M.getD a []).getD b false
def mset (M : Mx) (a b : Nat) (v : Bool) : Mx := M.set a ((M.getD a []).set b v)
def Sq (M : Mx) : Prop := M.length = 8 ∧ ∀ r ∈ M, r.length = 8
def mx0 : Mx := (List.range 8).map fun _ => List.replicate 8 false
def markTo (M : Mx) (row : List Int) (j : Nat) : Mx := (List.range j).foldl (fun M i => mset M (row.getD i 0).toNat (row.getD (i + 1) 0).toNat true) M
def markRow (M : Mx) (row : List Int) : Mx := markTo M row (row.length - 1)
def cellStep (m a : Nat) (M : Mx) (b : Nat) : Mx := mset M a b (mget M a b || (mget M a m && mget M m b))
def rowStepW (m : Nat) (M : Mx) (a : Nat) : Mx := (List.range 8).foldl (cellStep m a) M
def midStep (M : Mx) (m : Nat) : Mx := (List.range 8).foldl (rowStepW m) M
def closeUp (M : Mx) : Mx := (List.range 8).foldl midStep M
def ringOf (rows : List (List Int)) : Bool := ((List.range 8).map fun x => mget (closeUp (rows.foldl markRow mx0)) x x).contains true

theorem sq_mset {M : Mx} (h : Sq M) (a b : Nat) (v : Bool) : Sq (mset M a b v) := by
  refine ⟨by simp [mset, h.1], fun r hr => ?_⟩
  rcases List.mem_or_eq_of_mem_set hr with hr | rfl
  · exact h.2 r hr
  · rw [List.length_set]
    by_cases ha : a < M.length
    · refine h.2 _ ?_
      rw [List.getD_eq_getElem?_getD, List.getElem?_eq_getElem ha]; simp
    · exfalso
      have : M.set a ((M.getD a []).set b v) = M := List.set_eq_of_length_le (by omega)
      rw [mset, this] at hr
      have h8 := h.2 _ hr
      rw [List.length_set, List.getD_eq_getElem?_getD, List.getElem?_eq_none (by omega)] at h8
      simp at h8
theorem sq_foldl {β : Type} {f : Mx → β → Mx} (hf : ∀ M b, Sq M → Sq (f M b)) : ∀ (l : List β) {M : Mx}, Sq M → Sq (l.foldl f M)
  | [], _, h => h
  | b :: l, _, h => sq_foldl hf l (hf _ b h)
theorem sq_mx0 : Sq mx0 := by
  refine ⟨by simp [mx0], fun r hr => ?_⟩
  simp only [mx0, List.mem_map] at hr
  obtain ⟨_, _, rfl⟩ := hr
  simp
theorem sq_markTo {M : Mx} (h : Sq M) (row : List Int) (j : Nat) : Sq (markTo M row j) := sq_foldl (fun _ _ h => sq_mset h _ _ _) _ h
theorem sq_markRow {M : Mx} (h : Sq M) (row : List Int) : Sq (markRow M row) := sq_markTo h row _
theorem sq_cellStep {M : Mx} (m a : Nat) (h : Sq M) (b : Nat) : Sq (cellStep m a M b) := sq_mset h _ _ _
theorem sq_rowStepW {M : Mx} (m : Nat) (h : Sq M) (a : Nat) : Sq (rowStepW m M a) := sq_foldl (fun _ b h => sq_cellStep m a h b) _ h
theorem sq_midStep {M : Mx} (h : Sq M) (m : Nat) : Sq (midStep M m) := sq_foldl (fun _ a h => sq_rowStepW m h a) _ h

/-- the matrix as it lies: B a list of the lists as -/
def MatAt (h : Heap) (B : Addr) (as : List Addr) (M : Mx) : Prop :=
  h.IsList B (List.toArray (as.map Value.ref)) ∧ as.Nodup ∧ B ∉ as ∧ All2 (fun bs a => RL RBool bs (.ref a) h) M as
theorem MatAt.nf {h h' : Heap} {B : Addr} {as : List Addr} {M : Mx} (x : MatAt h B as M) (k : NF h h') : MatAt h' B as M :=
  ⟨k.list x.1, x.2.1, x.2.2.1, x.2.2.2.mono fun _ _ r => RL.monoN RBool.monoN _ _ _ _ r k⟩
theorem rlb_same {h h' : Heap} {b a : Addr} {bs : List Bool} (x : RL RBool bs (.ref a) h) (hs : Heap.SameBut b h h') (hne : a ≠ b) : RL RBool bs (.ref a) h' := by
  obtain ⟨a', ys, e, hl, hA⟩ := x
  cases e
  exact ⟨a, ys, rfl, list_same hl hs hne, hA⟩
theorem mat_same {h h' : Heap} {b : Addr} (hs : Heap.SameBut b h h') : ∀ {M : Mx} {as : List Addr}, All2 (fun bs a => RL RBool bs (.ref a) h) M as → b ∉ as → All2 (fun bs a => RL RBool bs (.ref a) h') M as
  | _, _, .nil, _ => .nil
  | _, _, .cons x r, n => .cons (rlb_same x hs fun q => n (by simp [q])) (mat_same hs r fun q => n (by simp [q]))
theorem MatAt.ns {h h' : Heap} {B L : Addr} {m : Str → Option Value} {as : List Addr} {M : Mx} (x : MatAt h B as M) (n : h.Ns L m) (hs : Heap.SameBut L h h') : MatAt h' B as M :=
  ⟨list_same x.1 hs (ne_ns n x.1), x.2.1, x.2.2.1, mat_same hs x.2.2.2 fun hm => by
    obtain ⟨bs, _, a', ys, e, hl, _⟩ := x.2.2.2.mem L hm
    cases e; exact ne_ns n hl rfl⟩
theorem MatAt.mem {h : Heap} {B : Addr} {as : List Addr} {M : Mx} (x : MatAt h B as M) : ∀ a ∈ as, ∃ its, h.IsList a its := fun a ha => by
  obtain ⟨bs, _, a', ys, e, hl, _⟩ := x.2.2.2.mem a ha
  cases e; exact ⟨_, hl⟩
theorem all2_set {h h' : Heap} {a : Addr} (hs : Heap.SameBut a h h') {new : List Bool} (hn : RL RBool new (.ref a) h') : ∀ {M : Mx} {as : List Addr}, All2 (fun bs a => RL RBool bs (.ref a) h) M as → as.Nodup → ∀ i, as[i]? = some a →
    All2 (fun bs a => RL RBool bs (.ref a) h') (M.set i new) as
  | _, _, .nil, _, i, e => by simp at e
  | _, _, .cons x r, nd, 0, e => by
    simp at e; subst e
    exact .cons hn (mat_same hs r (List.nodup_cons.mp nd).1)
  | _, _, .cons x r, nd, i + 1, e => by
    simp at e
    refine .cons (rlb_same x hs ?_) (all2_set hs hn r (List.nodup_cons.mp nd).2 i e)
    rintro rfl
    exact (List.nodup_cons.mp nd).1 (List.mem_of_getElem? e)
theorem all2_setB {h : Heap} {b : Bool} : ∀ {bs : List Bool} {ys : List Value} (j : Nat), All2 (fun d y => RBool d y h) bs ys → All2 (fun d y => RBool d y h) (bs.set j b) (ys.set j (.bool b))
  | _, _, _, .nil => by simpa using All2.nil
  | _, _, 0, .cons _ r => .cons rfl r
  | _, _, j + 1, .cons x r => .cons x (all2_setB j r)

section
variable {prog : Program} {w : World} {A : Around} {s : Shared} {env : Env}

/-- as[i][j] = v on the matrix -/
theorem set_mat {B : Addr} {as : List Addr} {M : Mx} {a : Addr} {i j : Nat} {k : Int} {t : Tok} {v : Bool} {Q : Unit → Shared → Prop} {E : Value → Shared → Prop} (x : MatAt s.heap B as M) (hsq : Sq M)
    (hi : as[i]? = some a) (hj : j < 8) (hk : k = (j : Int)) (q : ∀ h', MatAt h' B as (mset M i j v) → Heap.SameBut a s.heap h' → Q () { s with heap := h' }) :
    wpAny (model prog w) A (setItem (.ref a) (.int k t) (.bool v)) Q E s := by
  obtain ⟨bs, hbs, a', ys, e, hl, hA⟩ := x.2.2.2.get i a hi
  cases e
  have hb8 : bs.length = 8 := hsq.2 bs (List.mem_of_getElem? hbs)
  have hy8 : ys.length = 8 := hA.len ▸ hb8
  refine wpAny_setItem_list hl (by omega) (by omega) (by simp only [List.size_toArray]; omega) fun h' hl' hs' => q h' ⟨?_, x.2.1, x.2.2.1, ?_⟩ hs'
  · exact list_same x.1 hs' fun e => x.2.2.1 (e ▸ List.mem_of_getElem? hi)
  · have hd : M.getD i [] = bs := by rw [List.getD_eq_getElem?_getD, hbs]; rfl
    rw [mset, hd]
    refine all2_set hs' ⟨_, ys.set j (.bool v), rfl, ?_, all2_setB j hA⟩ x.2.2.2 x.2.1 i hi
    have : k.toNat = j := by omega
    rw [this] at hl'
    simpa using hl'
end
end C3P

/-! part C3RingW -/
namespace C3P
open PySem PySem.W PyProof.Rows PySem.Calls

theorem all2_mapL {α β γ : Type} {R : α → β → Prop} {S : γ → β → Prop} {f : α → γ} (k : ∀ a b, R a b → S (f a) b) : ∀ {as : List α} {bs : List β}, All2 R as bs → All2 S (as.map f) bs
  | _, _, .nil => .nil
  | _, _, .cons x r => .cons (k _ _ x) (all2_mapL k r)
theorem all2_rep {h : Heap} {b : Bool} : ∀ n : Nat, All2 (fun d y => RBool d y h) (List.replicate n b) (List.replicate n (Value.bool b))
  | 0 => .nil
  | n + 1 => .cons rfl (all2_rep n)

theorem range_fold {α : Type} (f : α → Nat → α) (M : α) (i : Nat) : (List.range (i + 1)).foldl f M = f ((List.range i).foldl f M) i := by rw [List.range_succ, List.foldl_append]; rfl
abbrev renv (cd : Value) (a L c : Addr) : Env := envX "_law_has_ring" (fScope ringS) L a cd [("behind", c)]

section
variable {prog : Program} {w : World} {A : Around} {s : Shared} {env : Env}

theorem MatAt.row {h : Heap} {B : Addr} {as : List Addr} {M : Mx} (x : MatAt h B as M) (hsq : Sq M) {i : Nat} (hi : i < 8) : ∃ a, as[i]? = some a ∧ RL RBool (M.getD i []) (.ref a) h ∧ (M.getD i []).length = 8 := by
  obtain ⟨a, e, r⟩ := x.2.2.2.getL i (M.getD i []) (by rw [List.getD_eq_getElem?_getD, List.getElem?_eq_getElem (by rw [hsq.1]; exact hi)]; rfl)
  exact ⟨a, e, r, hsq.2 _ (by rw [List.getD_eq_getElem?_getD, List.getElem?_eq_getElem (by rw [hsq.1]; exact hi)]; simp)⟩

/-- behind[i][j], read -/
theorem rd_mat {B c : Addr} {as : List Addr} {M : Mx} {ex ey : Expr} {p1 p2 p3 : Pos} {i j : Nat} {t t' : Tok} {Q : Value → Shared → Prop} {E : Value → Shared → Prop} (x : MatAt s.heap B as M) (hsq : Sq M) (hc : s.heap.IsCell c (some (.ref B)))
    (hi : i < 8) (hj : j < 8) (hx : ∀ Q' : Value → Shared → Prop, Q' (.int i t) s → wpAny (model prog w) A (eval ex env) Q' E s) (hy : ∀ Q' : Value → Shared → Prop, Q' (.int j t') s → wpAny (model prog w) A (eval ey env) Q' E s)
    (q : Q (.bool (mget M i j)) s)
    (hs1 : ∀ o i, subscripted ex false o i = operate [o, i] (getItem o i) := by intro _ _; with_unfolding_all rfl) (hs2 : ∀ o i, subscripted ey false o i = operate [o, i] (getItem o i) := by intro _ _; with_unfolding_all rfl)
    (hcc : env.cells.lookup ("behind" : Str) = some c := by rfl) (hk : env.scope.kind = .function := by rfl) (hl : env.kindOf "behind" = some .cell := by rfl) :
    wpAny (model prog w) A (eval (.Subscript (.Subscript (.Name "behind" p1) ex p2) ey p3) env) Q E s := by
  obtain ⟨a, ha, hr, h8⟩ := x.row hsq hi
  refine subI (R := RBool) (subI (R := RAdr) (nmC hc (hx _ ⟨as, a, i, t, rl_adr x.1, rfl, by omega, by omega, by simpa using ha, fun v hv => ?_⟩) hcc hk hl) hs1) hs2
  cases hv
  refine hy _ ⟨M.getD i [], mget M i j, j, t', hr, rfl, by omega, by omega, ?_, fun v hv => ?_⟩
  · have hj' : j < (M.getD i []).length := by omega
    rw [mget, Int.toNat_natCast, List.getD_eq_getElem?_getD (l := M.getD i []), List.getElem?_eq_getElem hj']; rfl
  · cases hv; exact q

set_option maxHeartbeats 1000000 in
theorem ring_body {L a c : Addr} {cd : Value} {h₀ : Heap} {rv : Value} {rows : List (List Int)} {m : Str → Option Value} {Q : Flow → Shared → Prop} {E : Value → Shared → Prop}
    (hok : h₀.StaysIn s.heap) (hh : HOk A h₀) (W0 : Wd h₀) (hL : s.heap.Ns L m) (hL₀ : h₀.get? L = none) (hm : m "rows" = some rv) (hc : s.heap.IsCell c none) (hc₀ : h₀.get? c = none)
    (hr : RL (RL RInt) rows rv h₀) (hb : ∀ row ∈ rows, ∀ x ∈ row, 1 ≤ x ∧ x < 8) (hrl : ∀ row ∈ rows, row.length ≤ 64)
    (k : ∀ h tk, h₀.StaysIn h → Q (.ret (.bool (ringOf rows))) { s with heap := h, toks := tk }) :
    wpAny (model prog w) A (execs (fBody ringS) (renv cd a L c)) Q E s := by
  refine wpAny_noRaise (wpAny_execs_cons ?_)
  -- behind = [[False] * 8 for x in range(8)]
  refine wpAny_Assign_Name ?_
  refine compF (ds := List.range 8) (Y := fun _ c => c = List.replicate 8 (Value.bool false)) (cl := []) (cells := fun _ => []) (LV := LVl "x")
    (srcRange (a := 0) (b := 8) (hh.stays hok) (by decide) fun Q' k => ev_range1 (W0.keeps hok) rfl rfl (fun Q k => wpAny_Constant_int (k _ _)) k) (by decide) rfl rfl (by decide +kernel) (cvarL rfl rfl) ?_ ?_
  · intro C i d v s₃ Q hd hP st lv k
    refine wpAny_BinOp (disp1 (wpAny_Constant_bool (wpAny_Constant_int ?_)))
    have st₁ := stays_push s₃.heap { cls := .type "list", data := .seq #[.bool false] }
    refine mulL (items := #[.bool false]) ⟨0, Heap.get?_push_size _ rfl⟩ (by decide) (by decide) (by decide) fun a h' st₂ ha hp => ?_
    exact k a (List.replicate 8 (Value.bool false)) h' _ (stays_trans st₁ st₂) (fresh_stays st₁ ha) hp rfl
  intro B as h tk st hB hl nd fr a2
  -- the cell
  have hc1 := hc.keeps st
  refine wpAny_storeName_cell rfl rfl rfl hc1 fun h₁ hc₁ hs₁ => ?_
  have hcs : c ≠ B := ne_cell hc1 hl.isList |>.symm
  have hca : c ∉ as := fun hm => by
    obtain ⟨_, _, c', hp, _⟩ := a2.mem c hm
    exact ne_cell hc1 hp.isList rfl
  have hLc : c ≠ L := ne_ns_cell hL hc
  have fr₀ : ∀ a ∈ as, h₀.get? a = none := fun a ha => fresh_stays hok (fr a ha).1
  have hMat : MatAt h₁ B as mx0 := by
    refine ⟨list_same hl.isList hs₁ hcs.symm, nd, fun hm => (fr B hm).2 rfl, ?_⟩
    have key : ∀ {ds : List Nat} {bs : List Addr}, All2 (fun d a => ∃ c, h.PlainList a (List.toArray c) ∧ c = List.replicate 8 (Value.bool false)) ds bs → (∀ b ∈ bs, b ∈ as) → All2 (fun _ a => RL RBool (List.replicate 8 false) (.ref a) h₁) ds bs := by
      intro ds bs q
      induction q with
      | nil => intro _; exact .nil
      | cons x _ ih =>
        intro hm
        obtain ⟨c', hp, rfl⟩ := x
        exact .cons ⟨_, _, rfl, list_same hp.isList hs₁ (fun q => hca (q ▸ hm _ (by simp))), all2_rep 8⟩ (ih fun b hb => hm b (by simp [hb]))
    exact all2_mapL (f := fun _ => List.replicate 8 false) (fun _ a x => x) (key a2 fun b hb => hb)
  have hL₁ : h₁.Ns L m := (hL.keeps st).sameBut hs₁ hLc.symm
  have ok₁ : h₀.StaysIn h₁ := stays_same (stays_trans hok st) hs₁ hc₀
  have has : as.length = 8 := a2.len.symm
  clear hl nd fr a2 hca hcs hc1
  obtain ⟨lr, rvs, rfl, hlr, hA⟩ := hr
  refine nrm s h₁ rfl rfl rfl rfl fun tk₂ => ?_
  -- for row in rows
  refine wpAny_execs_cons ?_
  refine for_list (A := A) (h₀ := h₀) (g := h₁) (l := lr) (items := rvs.toArray)
    (fun i h => ∃ m, h.Ns L m ∧ h.IsCell c (some (.ref B)) ∧ MatAt h B as ((rows.take i).foldl markRow mx0) ∧ h.IsList lr rvs.toArray) hh (Ok.refl ok₁) (fun i h ⟨_, _, _, _, x⟩ => x)
    (fun i h h' ⟨m, n, x, y, z⟩ k => ⟨m, k.ns n, k.cell x, y.nf k, k.list z⟩) ⟨m, hL₁, hc₁, hMat, isList_stays hlr ok₁⟩ (fun Q' hq => nmL hL₁ hm hq) ?_ ?_
  · rintro i v h tk hv ok ⟨m, n, hc, hM, hlr'⟩
    obtain ⟨row, hrow, hrv⟩ := hA.get i v (by simpa using hv)
    have hmem := List.mem_of_getElem? hrow
    have hsq : Sq ((rows.take i).foldl markRow mx0) := sq_foldl (fun _ _ h => sq_markRow h _) _ sq_mx0
    have hstep : (rows.take (i + 1)).foldl markRow mx0 = markRow ((rows.take i).foldl markRow mx0) row := by rw [take_snoc hrow, List.foldl_append]; rfl
    rw [hstep]
    generalize (rows.take i).foldl markRow mx0 = M at hM hsq
    refine asL n fun h₁ tk₁ n₁ s₁ => ?_
    have ok₁ : Ok h₀ h h₁ := (Ok.refl ok.k).same s₁ hL₀ (nf_ns n)
    have M₁ := hM.ns n s₁
    have c₁ := hc.sameBut s₁ (ne_ns_cell n hc)
    have l₁ := list_same hlr' s₁ (ne_ns n hlr')
    refine nrm s h₁ rfl rfl rfl rfl fun tk₃ => ?_
    have hl64 := hrl row hmem
    have hup : ∀ {g : Heap}, h₀.StaysIn g → RL RInt row v g := fun k => RL.mono RInt.mono _ _ _ _ hrv k
    refine wpAny_execs_cons ?_
    refine for_range (A := A) (h₀ := h₀) (g := h₁) (a := 1) (b := row.length)
      (fun j h => ∃ m, h.Ns L m ∧ m "row" = some v ∧ h.IsCell c (some (.ref B)) ∧ MatAt h B as (markTo M row j) ∧ h.IsList lr rvs.toArray) hh (Ok.refl ok₁.k)
      (fun i h h' ⟨m, n, e, x, y, z⟩ k => ⟨m, k.ns n, e, k.cell x, y.nf k, k.list z⟩) ⟨_, n₁, upd_eq, c₁, M₁, l₁⟩ (by omega)
      (fun Q' k => ev_range2 (W0.keeps ok₁.k) rfl rfl (fun Q k => wpAny_Constant_int (k _ _)) (fun tk Q k => ev_len (R := RInt) (ds := row) (W0.keeps ok₁.k) rfl rfl (hup ok₁.k) (by omega) (fun Q hq => nmL n₁ upd_eq hq) k) k) ?_ ?_
    · rintro j t h₂ tk₂ hj ok₂ ⟨m₂, n₂, e₂, c₂, M₂, l₂⟩
      have hj' : j + 1 < row.length := by omega
      refine asL n₂ fun h₃ tk₃ n₃ s₃ => ?_
      have ok₃ : Ok h₀ h₂ h₃ := (Ok.refl ok₂.k).same s₃ hL₀ (nf_ns n₂)
      have M₃ := M₂.ns n₂ s₃
      have c₃ := c₂.sameBut s₃ (ne_ns_cell n₂ c₂)
      have l₃ := list_same l₂ s₃ (ne_ns n₂ l₂)
      have e₃ := upd_ne (x := "k") (v := .int (1 + (j : Int)) t) e₂
      have hsqj := sq_markTo hsq row j
      refine nrm s h₃ rfl rfl rfl rfl fun tk₄ => ?_
      obtain ⟨d1, hd1⟩ : ∃ d, row[j]? = some d := ⟨row[j], by simp⟩
      obtain ⟨d2, hd2⟩ : ∃ d, row[j + 1]? = some d := ⟨row[j + 1], by simp⟩
      have b1 := hb row hmem d1 (List.mem_of_getElem? hd1)
      have b2 := hb row hmem d2 (List.mem_of_getElem? hd2)
      obtain ⟨a1, ha1, _, _⟩ := M₃.row hsqj (i := d1.toNat) (by omega)
      refine wpAny_execs_cons (wpAny_Assign_Subscript (wpAny_Constant_bool ?_))
      refine subI (R := RAdr) (nmC c₃ (subI (R := RInt) (nmL n₃ e₃ (wpAny_BinOp (nmL n₃ upd_eq (wpAny_Constant_int (PyProof.Rows.sub_int ⟨row, d1, _, _, hup ok₃.k, rfl, by omega, by omega, ?_, fun v1 hv1 => ?_⟩)))))))
      · rw [show (1 + (j : Int) - 1).toNat = j by omega]; exact hd1
      obtain ⟨t1, rfl⟩ := hv1
      refine ⟨as, a1, d1, t1, rl_adr M₃.1, rfl, by omega, by omega, ha1, fun v2 hv2 => ?_⟩
      cases hv2
      refine subI (R := RInt) (nmL n₃ e₃ (nmL n₃ upd_eq ⟨row, d2, _, _, hup ok₃.k, rfl, by omega, by omega, ?_, fun v3 hv3 => ?_⟩))
      · rw [show (1 + (j : Int)).toNat = j + 1 by omega]; exact hd2
      obtain ⟨t3, rfl⟩ := hv3
      refine set_mat (j := d2.toNat) M₃ hsqj ha1 (by omega) (by omega) fun h₄ M₄ s₄ => ?_
      have hmm : mset (markTo M row j) d1.toNat d2.toNat true = markTo M row (j + 1) := by
        simp only [markTo]
        rw [List.range_succ, List.foldl_append]
        simp [List.getD_eq_getElem?_getD, hd1, hd2]
      rw [hmm] at M₄
      obtain ⟨its1, hits1⟩ := M₃.mem a1 (List.mem_of_getElem? ha1)
      refine wpAny_execs_nil ⟨h₄, _, rfl, ok₃.same s₄ (fr₀ a1 (List.mem_of_getElem? ha1)) (nf_list hits1), _, n₃.sameBut s₄ (ne_ns n₃ hits1).symm, e₃, c₃.sameBut s₄ (ne_cell c₃ hits1).symm, M₄, list_same l₃ s₄ fun q => ?_⟩
      obtain ⟨o, e, _⟩ := hlr
      rw [q, fr₀ a1 (List.mem_of_getElem? ha1)] at e; cases e
    · rintro h₂ tk₂ ok₂ ⟨m₂, n₂, e₂, c₂, M₂, l₂⟩
      refine wpAny_execs_nil (wpAny_execs_nil ⟨h₂, tk₂, rfl, ok₁.trans ok₂, m₂, n₂, c₂, ?_, l₂⟩)
      rw [show ((row.length : Int) - 1).toNat = row.length - 1 by omega] at M₂
      exact M₂
  · rintro h tk ok ⟨m, n, hc, hM, _⟩
    have hrs : rvs.toArray.size = rows.length := by simp [hA.len]
    rw [hrs, List.take_length] at hM
    have hsq : Sq (rows.foldl markRow mx0) := sq_foldl (fun _ _ h => sq_markRow h _) _ sq_mx0
    have ro : ringOf rows = ((List.range 8).map fun x => mget (closeUp (rows.foldl markRow mx0)) x x).contains true := rfl
    generalize rows.foldl markRow mx0 = M0 at hM hsq ro
    have hcl : closeUp M0 = (List.range 8).foldl midStep M0 := rfl
    refine wpAny_execs_nil (nrm s h rfl rfl rfl rfl fun tk₁ => wpAny_execs_cons ?_)
    -- for middle in range(8)
    refine for_range (A := A) (h₀ := h₀) (g := h) (a := 0) (b := 8)
      (fun i h => ∃ m, h.Ns L m ∧ h.IsCell c (some (.ref B)) ∧ MatAt h B as ((List.range i).foldl midStep M0)) hh (Ok.refl ok.k)
      (fun i h h' ⟨m, n, x, y⟩ k => ⟨m, k.ns n, k.cell x, y.nf k⟩) ⟨_, n, hc, hM⟩ (by decide)
      (fun Q' k => ev_range1 (W0.keeps ok.k) rfl rfl (fun Q k => wpAny_Constant_int (k _ _)) k) ?_ ?_
    · rintro mid t h₁ tk₁ hmid ok₁ ⟨m₁, n₁, c₁, M₁⟩
      have hm8 : mid < 8 := by omega
      have hsq₁ : Sq ((List.range mid).foldl midStep M0) := sq_foldl (fun _ _ h => sq_midStep h _) _ hsq
      have hstep : (List.range (mid + 1)).foldl midStep M0 = midStep ((List.range mid).foldl midStep M0) mid := range_fold _ _ _
      rw [hstep]
      generalize (List.range mid).foldl midStep M0 = M at M₁ hsq₁
      have hr2 : (List.range 8).foldl (rowStepW mid) M = midStep M mid := rfl
      rw [show (0 : Int) + (mid : Int) = (mid : Int) by omega]
      refine asL n₁ fun h₂ tk₂ n₂ s₂ => ?_
      have ok₂ : Ok h₀ h₁ h₂ := (Ok.refl ok₁.k).same s₂ hL₀ (nf_ns n₁)
      have M₂ := M₁.ns n₁ s₂
      have c₂ := c₁.sameBut s₂ (ne_ns_cell n₁ c₁)
      refine nrm s h₂ rfl rfl rfl rfl fun tk₃ => wpAny_execs_cons ?_
      -- for a in range(8)
      refine for_range (A := A) (h₀ := h₀) (g := h₂) (a := 0) (b := 8)
        (fun i h => ∃ m, h.Ns L m ∧ m "middle" = some (.int mid t) ∧ h.IsCell c (some (.ref B)) ∧ MatAt h B as ((List.range i).foldl (rowStepW mid) M)) hh (Ok.refl ok₂.k)
        (fun i h h' ⟨m, n, e, x, y⟩ k => ⟨m, k.ns n, e, k.cell x, y.nf k⟩) ⟨_, n₂, upd_eq, c₂, M₂⟩ (by decide)
        (fun Q' k => ev_range1 (W0.keeps ok₂.k) rfl rfl (fun Q k => wpAny_Constant_int (k _ _)) k) ?_ ?_
      · rintro ia ta h₃ tk₃ hia ok₃ ⟨m₃, n₃, e₃, c₃, M₃⟩
        have ha8 : ia < 8 := by omega
        have hsq₃ : Sq ((List.range ia).foldl (rowStepW mid) M) := sq_foldl (fun _ _ h => sq_rowStepW mid h _) _ hsq₁
        have hstep : (List.range (ia + 1)).foldl (rowStepW mid) M = rowStepW mid ((List.range ia).foldl (rowStepW mid) M) ia := range_fold _ _ _
        rw [hstep]
        generalize (List.range ia).foldl (rowStepW mid) M = Ma at M₃ hsq₃
        have hr1 : (List.range 8).foldl (cellStep mid ia) Ma = rowStepW mid Ma ia := rfl
        rw [show (0 : Int) + (ia : Int) = (ia : Int) by omega]
        refine asL n₃ fun h₄ tk₄ n₄ s₄ => ?_
        have ok₄ : Ok h₀ h₃ h₄ := (Ok.refl ok₃.k).same s₄ hL₀ (nf_ns n₃)
        have M₄ := M₃.ns n₃ s₄
        have c₄ := c₃.sameBut s₄ (ne_ns_cell n₃ c₃)
        refine nrm s h₄ rfl rfl rfl rfl fun tk₅ => wpAny_execs_cons ?_
        -- for b in range(8)
        refine for_range (A := A) (h₀ := h₀) (g := h₄) (a := 0) (b := 8)
          (fun i h => ∃ m, h.Ns L m ∧ m "middle" = some (.int mid t) ∧ m "a" = some (.int ia ta) ∧ h.IsCell c (some (.ref B)) ∧ MatAt h B as ((List.range i).foldl (cellStep mid ia) Ma)) hh (Ok.refl ok₄.k)
          (fun i h h' ⟨m, n, e, e', x, y⟩ k => ⟨m, k.ns n, e, e', k.cell x, y.nf k⟩) ⟨_, n₄, upd_ne e₃, upd_eq, c₄, M₄⟩ (by decide)
          (fun Q' k => ev_range1 (W0.keeps ok₄.k) rfl rfl (fun Q k => wpAny_Constant_int (k _ _)) k) ?_ ?_
        · rintro ib tb h₅ tk₅ hib ok₅ ⟨m₅, n₅, e₅, e₅', c₅, M₅⟩
          have hb8 : ib < 8 := by omega
          have hsq₅ : Sq ((List.range ib).foldl (cellStep mid ia) Ma) := sq_foldl (fun _ _ h => sq_cellStep mid ia h _) _ hsq₃
          have hstep : (List.range (ib + 1)).foldl (cellStep mid ia) Ma = cellStep mid ia ((List.range ib).foldl (cellStep mid ia) Ma) ib := range_fold _ _ _
          rw [hstep]
          generalize (List.range ib).foldl (cellStep mid ia) Ma = Mb at M₅ hsq₅
          rw [show (0 : Int) + (ib : Int) = (ib : Int) by omega]
          refine asL n₅ fun h₆ tk₆ n₆ s₆ => ?_
          have ok₆ : Ok h₀ h₅ h₆ := (Ok.refl ok₅.k).same s₆ hL₀ (nf_ns n₅)
          have M₆ := M₅.ns n₅ s₆
          have c₆ := c₅.sameBut s₆ (ne_ns_cell n₅ c₅)
          have emid := upd_ne (x := "b") (v := .int (ib : Int) tb) e₅
          have eia := upd_ne (x := "b") (v := .int (ib : Int) tb) e₅'
          refine nrm s h₆ rfl rfl rfl rfl fun tk₇ => wpAny_execs_cons (wpAny_Assign_Subscript ?_)
          obtain ⟨ra, hra, _, _⟩ := M₆.row hsq₅ ha8
          obtain ⟨its1, hits1⟩ := M₆.mem ra (List.mem_of_getElem? hra)
          refine wpAny_mono (Q := fun v s₁ => ∃ tk, v = .bool (mget Mb ia ib || (mget Mb ia mid && mget Mb mid ib)) ∧ s₁ = { s with heap := h₆, toks := tk }) ?_ (fun v s₁ hv => ?_) fun _ _ e => e
          · refine wpAny_Or2 (rd_mat M₆ hsq₅ c₆ ha8 hb8 (fun Q' q => nmL n₆ eia q) (fun Q' q => nmL n₆ upd_eq q) (wpAny_truthy_bool ?_))
            cases h1 : mget Mb ia ib with
            | true => exact ⟨_, rfl, rfl⟩
            | false =>
              refine wpAny_And2 (rd_mat M₆ hsq₅ c₆ ha8 hm8 (fun Q' q => nmL n₆ eia q) (fun Q' q => nmL n₆ emid q) (wpAny_truthy_bool ?_))
              cases h2 : mget Mb ia mid with
              | false => exact ⟨_, rfl, rfl⟩
              | true => exact rd_mat M₆ hsq₅ c₆ hm8 hb8 (fun Q' q => nmL n₆ emid q) (fun Q' q => nmL n₆ upd_eq q) ⟨_, rfl, rfl⟩
          · obtain ⟨tk₈, rfl, rfl⟩ := hv
            refine subI (R := RAdr) (nmC c₆ (nmL n₆ eia ⟨as, ra, _, _, rl_adr M₆.1, rfl, by omega, by omega, by simpa using hra, fun v1 hv1 => ?_⟩))
            cases hv1
            refine nmL n₆ upd_eq (set_mat (j := ib) M₆ hsq₅ hra hb8 rfl fun h₇ M₇ s₇ => ?_)
            exact wpAny_execs_nil ⟨h₇, _, rfl, ok₆.same s₇ (fr₀ ra (List.mem_of_getElem? hra)) (nf_list hits1), _, n₆.sameBut s₇ (ne_ns n₆ hits1).symm, emid, eia, c₆.sameBut s₇ (ne_cell c₆ hits1).symm, M₇⟩
        · rintro h₅ tk₅ ok₅ ⟨m₅, n₅, e₅, e₅', c₅, M₅⟩
          rw [show ((8 : Int) - 0).toNat = 8 from rfl, hr1] at M₅
          exact wpAny_execs_nil (wpAny_execs_nil ⟨h₅, tk₅, rfl, ok₄.trans ok₅, m₅, n₅, e₅, c₅, M₅⟩)
      · rintro h₃ tk₃ ok₃ ⟨m₃, n₃, e₃, c₃, M₃⟩
        rw [show ((8 : Int) - 0).toNat = 8 from rfl, hr2] at M₃
        exact wpAny_execs_nil (wpAny_execs_nil ⟨h₃, tk₃, rfl, ok₂.trans ok₃, m₃, n₃, c₃, M₃⟩)
    · rintro h₁ tk₁ ok₁ ⟨m₁, n₁, c₁, M₁⟩
      rw [show ((8 : Int) - 0).toNat = 8 from rfl, ← hcl] at M₁
      have hsqc : Sq (closeUp M0) := sq_foldl (fun _ _ h => sq_midStep h _) _ hsq
      generalize closeUp M0 = MF at M₁ ro hsqc
      refine wpAny_execs_nil (nrm s h₁ rfl rfl rfl rfl fun tk₂ => wpAny_execs_cons (wpAny_Return_some (wpAny_Compare1 (wpAny_Constant_bool ?_))))
      refine comp0 (ds := List.range 8) (Y := fun x y => y = .bool (mget MF x x)) (cl := [("behind", c)]) (cells := fun _ => [("behind", c)]) (LV := LVl "x")
        (srcRange (a := 0) (b := 8) (hh.stays ok₁.k) (by decide) fun Q' k => ev_range1 (W0.keeps ok₁.k) rfl rfl (fun Q k => wpAny_Constant_int (k _ _)) k) (by decide) rfl rfl (by decide +kernel) (cvarL rfl rfl) ?_ ?_
      · rintro C i d v s₃ Q hd ⟨t, rfl⟩ st ⟨m, hm, hx⟩ k
        have hid : i = d ∧ i < 8 := by
          obtain ⟨q1, q2⟩ := List.getElem?_eq_some_iff.mp hd
          rw [List.length_range] at q1
          rw [List.getElem_range] at q2
          exact ⟨q2, q1⟩
        obtain ⟨rfl, hi8⟩ := hid
        rw [show (0 : Int) + (i : Int) = (i : Int) by omega] at hx
        exact rd_mat (M₁.nf (.of_stays st)) hsqc (c₁.keeps st) hi8 hi8 (fun Q' q => nmL hm hx q) (fun Q' q => nmL hm hx q) (k _ _ s₃.toks (stays_refl _) rfl)
      · intro D ys h tk st hD hl a2
        refine inB (bs := (List.range 8).map fun x => mget MF x x) ⟨D, ys, rfl, hl.isList, all2_mapL (f := fun x => mget MF x x) (fun _ _ x => x) a2⟩ ?_
        rw [← ro]
        exact k h _ (stays_trans ok₁.k st)
end
end C3P

/-! part C3RingC -/
namespace C3P
open PySem PySem.W PyProof.Rows PySem.Calls
section
variable {prog : Program} {w : World} {A : Around} {s : Shared}

set_option maxHeartbeats 1000000 in
theorem ring_call {f : Addr} {o : Obj} {pm cd doc : Value} (ho : s.heap.get? f = some o) (hd : o.data = .func (docDef "_law_has_ring" (fArgs ringS) (fBody ringS) (fScope ringS) pm cd doc)) (hcd : s.heap.CodeRec cd "_law_has_ring")
    (W0 : Wd s.heap) (hroom : A.depth < recursionLimit) (hh : HOk A s.heap) {rv : Value} {rows : List (List Int)} {Q : Value → Shared → Prop} {E : Value → Shared → Prop}
    (hr : RL (RL RInt) rows rv s.heap) (hb : ∀ row ∈ rows, ∀ x ∈ row, 1 ≤ x ∧ x < 8) (hrl : ∀ row ∈ rows, row.length ≤ 64)
    (k : ∀ h tk, s.heap.StaysIn h → Q (.bool (ringOf rows)) { s with heap := h, toks := tk }) : wpAny (model prog w) A (call (.ref f) [rv]) Q E s := by
  refine wpAny_call (codeAny_call_function hroom ho hd rfl rfl rfl hcd ?_)
  refine BindsTo.of_eq (s := s) (binds := [("rows", rv)]) rfl _ _ _ _ ?_
  refine wpAny_newFunctionEnv_cells rfl (by intro x hx; rw [List.mem_singleton.mp hx]; exact .inl rfl) fun env' he s' x => ?_
  subst he
  obtain ⟨h₁, tk, rfl, hk⟩ := x.toInCall.done
  refine ⟨W0.nl.keeps hk, codeAny_func ?_⟩
  have hc : h₁.IsCell (s.heap.objs.size + 1) none := x.cell "behind" _ rfl
  refine ring_body (A := A.deeper (renv cd f s.heap.objs.size (s.heap.objs.size + 1))) (h₀ := s.heap) (L := s.heap.objs.size) (c := s.heap.objs.size + 1) (a := f) (cd := cd) hk hh W0 x.toInCall.ns (fresh_size _) rfl hc (fresh_ge _ (Nat.le_succ _)) hr hb hrl fun h tk st => ?_
  exact k h tk st
end
end C3P

/-! part C3Merge -/
namespace C3P
open PySem PySem.W PyProof.Rows PySem.Calls

/-! what _c3_merge reckons -/
def c3Keep (ss : List (List Int)) : List (List Int) := ss.filter fun s => !s.isEmpty
def c3Bad (ss : List (List Int)) (c : Int) : Bool := ss.any fun s => (s.drop 1).contains c
def c3Cand (ss : List (List Int)) : Option Int := (ss.find? fun s => !c3Bad ss (s.headD 0)).map (·.headD 0)
def c3Drop (c : Int) (s : List Int) : List Int := if s.headD 0 == c then s.drop 1 else s
/-- none: not done in so many turns; some none: refused -/
def c3Run : Nat → List Int → List (List Int) → Option (Option (List Int))
  | 0, _, _ => none
  | n + 1, res, ss => if (c3Keep ss).isEmpty then some (some res) else match c3Cand (c3Keep ss) with
    | none => some none
    | some c => c3Run n (res ++ [c]) ((c3Keep ss).map (c3Drop c))

abbrev Pr := Addr × List Int
/-- a list of lists of ints, told by pairs of an address and its ints -/
def SeqsAt (h : Heap) (q : Addr) (ds : List Pr) : Prop :=
  h.PlainList q (List.toArray (ds.map fun p => Value.ref p.1)) ∧ (ds.map (·.1)).Nodup ∧ q ∉ ds.map (·.1) ∧ ∀ p ∈ ds, ∃ ys, h.PlainList p.1 (List.toArray ys) ∧ All2 (fun d y => RInt d y h) p.2 ys
theorem SeqsAt.nf {h h' : Heap} {q : Addr} {ds : List Pr} (x : SeqsAt h q ds) (k : NF h h') : SeqsAt h' q ds :=
  ⟨k.plain x.1, x.2.1, x.2.2.1, fun p hp => let ⟨ys, a, b⟩ := x.2.2.2 p hp; ⟨ys, k.plain a, b⟩⟩
theorem SeqsAt.same {h h' : Heap} {q b : Addr} {ds : List Pr} (x : SeqsAt h q ds) (hs : Heap.SameBut b h h') (n1 : q ≠ b) (n2 : b ∉ ds.map (·.1)) : SeqsAt h' q ds :=
  ⟨plain_same x.1 hs n1, x.2.1, x.2.2.1, fun p hp => let ⟨ys, a, z⟩ := x.2.2.2 p hp; ⟨ys, plain_same a hs (fun e => n2 (e ▸ List.mem_map_of_mem hp)), z⟩⟩
theorem SeqsAt.ns {h h' : Heap} {q L : Addr} {m : Str → Option Value} {ds : List Pr} (x : SeqsAt h q ds) (n : h.Ns L m) (hs : Heap.SameBut L h h') : SeqsAt h' q ds :=
  x.same hs (ne_ns n x.1.isList) fun hm => by
    obtain ⟨p, hp, e⟩ := List.mem_map.mp hm
    obtain ⟨ys, a, _⟩ := x.2.2.2 p hp
    exact ne_ns n a.isList e
theorem SeqsAt.rl {h : Heap} {q : Addr} {ds : List Pr} (x : SeqsAt h q ds) : RL RAdr (ds.map (·.1)) (.ref q) h := by
  refine rl_adr ?_
  have := x.1.isList
  rwa [List.map_map]
theorem SeqsAt.one {h : Heap} {q : Addr} {ds : List Pr} (x : SeqsAt h q ds) {p : Pr} (hp : p ∈ ds) : RL RInt p.2 (.ref p.1) h := let ⟨ys, a, b⟩ := x.2.2.2 p hp; ⟨_, ys, rfl, a.isList, b⟩

theorem SeqsAt.upd {h h' : Heap} {q : Addr} {xs ys : List Pr} {p : Pr} {new : List Int} {zs : List Value} (x : SeqsAt h q (xs ++ p :: ys)) (hs : Heap.SameBut p.1 h h') (hp : h'.PlainList p.1 (List.toArray zs)) (hz : All2 (fun d y => RInt d y h') new zs) :
    SeqsAt h' q (xs ++ (p.1, new) :: ys) := by
  have em : (xs ++ (p.1, new) :: ys).map (·.1) = (xs ++ p :: ys).map (·.1) := by simp
  have ev : ((xs ++ (p.1, new) :: ys).map fun p => Value.ref p.1) = (xs ++ p :: ys).map fun p => Value.ref p.1 := by simp
  have qp : q ≠ p.1 := fun e => x.2.2.1 (by simp [e])
  refine ⟨?_, em ▸ x.2.1, em ▸ x.2.2.1, fun z hz' => ?_⟩
  · rw [ev]; exact plain_same x.1 hs qp
  · have nd := x.2.1
    rw [List.map_append, List.map_cons] at nd
    obtain ⟨n1, n2, n3⟩ := List.nodup_append.mp nd
    rcases List.mem_append.mp hz' with hz' | hz'
    · obtain ⟨vs, a, b⟩ := x.2.2.2 z (List.mem_append_left _ hz')
      exact ⟨vs, plain_same a hs fun e => n3 z.1 (List.mem_map_of_mem hz') p.1 List.mem_cons_self e, b⟩
    · rcases List.mem_cons.mp hz' with rfl | hz'
      · exact ⟨zs, hp, hz⟩
      · obtain ⟨vs, a, b⟩ := x.2.2.2 z (List.mem_append_right _ (List.mem_cons_of_mem _ hz'))
        exact ⟨vs, plain_same a hs fun e => (List.nodup_cons.mp n2).1 (e ▸ List.mem_map_of_mem hz'), b⟩
def updTo (c : Int) (i : Nat) (dk : List Pr) : List Pr := ((dk.take i).map fun p => (p.1, c3Drop c p.2)) ++ dk.drop i
theorem updTo_at {c : Int} {i : Nat} {dk : List Pr} {p : Pr} (h : dk[i]? = some p) : updTo c i dk = ((dk.take i).map fun p => (p.1, c3Drop c p.2)) ++ p :: dk.drop (i + 1) ∧ updTo c (i + 1) dk = ((dk.take i).map fun p => (p.1, c3Drop c p.2)) ++ (p.1, c3Drop c p.2) :: dk.drop (i + 1) := by
  obtain ⟨hi, e⟩ := List.getElem?_eq_some_iff.mp h
  refine ⟨?_, ?_⟩
  · rw [updTo, List.drop_eq_getElem_cons hi, e]
  · rw [updTo, take_snoc h, List.map_append, List.append_assoc]; rfl
theorem updTo_fst {c : Int} {i : Nat} {dk : List Pr} : (updTo c i dk).map (fun p => Value.ref p.1) = dk.map fun p => Value.ref p.1 := by
  rw [updTo, List.map_append, List.map_map]
  show (dk.take i).map (fun p => Value.ref p.1) ++ _ = _
  rw [← List.map_append, List.take_append_drop]
theorem updTo_all {c : Int} {dk : List Pr} : updTo c dk.length dk = dk.map fun p => (p.1, c3Drop c p.2) := by simp [updTo]

theorem find_at {α : Type} {f : α → Bool} {y : α} : ∀ {l : List α} {i : Nat}, (∀ x ∈ l.take i, f x = false) → l[i]? = some y → f y = true → l.find? f = some y
  | [], i, _, h, _ => by simp at h
  | x :: l, 0, _, h, hy => by simp at h; subst h; simp [hy]
  | x :: l, i + 1, hl, h, hy => by
    have hx : f x = false := hl x (by simp)
    rw [List.find?_cons, hx]
    exact find_at (i := i) (fun z hz => hl z (by simp [hz])) (by simpa using h) hy

section
variable {prog : Program} {w : World} {A : Around} {s : Shared}

abbrev menv (cd : Value) (a L : Addr) : Env := frm "_c3_merge" c3S cd a L

set_option maxHeartbeats 4000000 in
theorem merge_body {L a : Addr} {cd : Value} {b₀ : Heap} {q : Addr} {ds : List Pr} {OUT : Option (List Int)} {N : Nat} {m : Str → Option Value} {Q : Flow → Shared → Prop} {E : Value → Shared → Prop}
    (hok : b₀.StaysIn s.heap) (hh : A.handled = none) (W0 : Wd b₀) (hu : A.units < cLine) (hL : s.heap.Ns L m) (hL₀ : b₀.get? L = none) (hm : m "sequences" = some (.ref q)) (hS : SeqsAt s.heap q ds) (hS₀ : ∀ p ∈ ds, b₀.get? p.1 = none)
    (hlen : ∀ p ∈ ds, p.2.length ≤ 64) (hds : ds.length ≤ 64) (hN : N ≤ 2 ^ 20) (hrun : c3Run N [] (ds.map (·.2)) = some OUT)
    (hE : PassesOwn (model prog w) A (menv cd a L) E)
    (kR : ∀ told v h tk, OUT = some told → b₀.StaysIn h → RL RInt told v h → Q (.ret v) { s with heap := h, toks := tk })
    (kE : ∀ h h' e m args tk, OUT = none → b₀.StaysIn h → h.Ns L m → h.MadeExc h' e "RuntimeError" args → E (.ref e) { s with heap := h', toks := tk }) :
    wpAny (model prog w) A (execs (fBody c3S) (menv cd a L)) Q E s := by
  have hhA : HOk A b₀ := .inl hh
  refine wpAny_execs_cons ?_
  -- result = []
  refine wpAny_Assign_Name (dispNil RInt fun r h₁ st₁ hr₁ hp₁ _ => ?_)
  have hL₁ := hL.keeps st₁
  have S₁ := hS.nf (.of_stays st₁)
  have hr₀ : b₀.get? r = none := fresh_stays hok hr₁
  refine stL hL₁ fun h₂ tk₂ hL₂ s₂ => ?_
  have ok₂ : b₀.StaysIn h₂ := stays_same (stays_trans hok st₁) s₂ hL₀
  have S₂ := S₁.ns hL₁ s₂
  have hp₂ := plain_same hp₁ s₂ (ne_ns hL₁ hp₁.isList)
  have hrq : r ≠ q := fun e => by obtain ⟨_, x⟩ := hS.1; rw [← e, hr₁] at x; cases x
  have hrd : r ∉ ds.map (·.1) := fun hm => by
    obtain ⟨p, hp, e⟩ := List.mem_map.mp hm
    obtain ⟨ys, ⟨_, x⟩, _⟩ := hS.2.2.2 p hp
    rw [e, hr₁] at x; cases x
  refine nrm s h₂ rfl rfl rfl rfl fun tk₃ => wpAny_execs_cons (wpAny_While ?_)
  refine codeAny_whileLoop (fun n s' => ∃ h tk m q ds res its, s' = { s with heap := h, toks := tk } ∧ b₀.StaysIn h ∧ h.Ns L m ∧ m "sequences" = some (.ref q) ∧ m "result" = some (.ref r) ∧ SeqsAt h q ds ∧ (∀ p ∈ ds, b₀.get? p.1 = none) ∧
      (∀ p ∈ ds, p.2.length ≤ 64) ∧ ds.length ≤ 64 ∧ h.PlainList r (List.toArray its) ∧ All2 (fun d y => RInt d y h) res its ∧ r ≠ q ∧ r ∉ ds.map (·.1) ∧ res.length + n ≤ 2 ^ 20 ∧ c3Run n res (ds.map (·.2)) = some OUT) ?_ N
    ⟨h₂, tk₃, _, q, ds, [], [], rfl, ok₂, hL₂, upd_ne hm, upd_eq, S₂, hS₀, hlen, hds, hp₂, .nil, hrq, hrd, by simpa using hN, hrun⟩
  rintro n s' ⟨h, tk, m, q, ds, res, its, rfl, ok, nL, eS, eR, S, S0, lens, dlen, pr, ar, rq, rd, hb, hrun⟩
  refine wpAny_isTrue_value (wpAny_Constant_bool (wpAny_truthy_bool ?_))
  rw [if_pos rfl]
  refine wpAny_passesOwn hE ?_
  obtain ⟨n', rfl⟩ : ∃ n', n = n' + 1 := by
    cases n with
    | zero => simp [c3Run] at hrun
    | succ n => exact ⟨n, rfl⟩
  refine wpAny_execs_cons ?_
  -- sequences = [s for s in sequences if s]
  refine asg1 (ds := ds) (q := fun p => !p.2.isEmpty) (Y := fun p y => y = .ref p.1) (cl := []) (cells := fun _ => []) (LV := LVl "s") (mL := m) rfl nL rfl rfl
    (srcL (ys := ds.map fun p => Value.ref p.1) (.inl hh) S.1.isList (by simp) fun Q' hq => nmL nL eS hq)
    (by have : sizeLine = 2 ^ 24 := rfl; omega) rfl rfl (by decide +kernel) (cvarL rfl rfl) ?_ ?_ ?_
  · rintro C i d v s₃ Q' hd hP st ⟨m', hm', hx⟩ k
    have hv : v = .ref d.1 := by rw [List.getElem?_map, hd] at hP; exact (Option.some.inj hP).symm
    subst hv
    have hd' := List.mem_of_getElem? hd
    exact wpAny_isTrue_value (nmL hm' hx (truthyL (RL.mono RInt.mono _ _ _ _ (S.one hd') st) (by have := lens d hd'; omega) (k _ _ (stays_refl _))))
  · rintro C i d v s₃ Q' hd hP _ st ⟨m', hm', hx⟩ k
    have hv : v = .ref d.1 := by rw [List.getElem?_map, hd] at hP; exact (Option.some.inj hP).symm
    exact nmL hm' hx (k _ _ s₃.toks (stays_refl _) hv)
  intro D ys h₁ tk₁ md hD hl a2 nL₁
  -- the kept ones
  have keepE : c3Keep (ds.map (·.2)) = (ds.filter fun p => !p.2.isEmpty).map (·.2) := by simp only [c3Keep, List.filter_map]; rfl
  have hys : ys = (ds.filter fun p => !p.2.isEmpty).map fun p => Value.ref p.1 := by
    clear keepE hl
    generalize ds.filter (fun p => !p.2.isEmpty) = dk at a2
    induction a2 with
    | nil => rfl
    | cons x _ ih => rw [x, ih]; rfl
  have sub : (ds.filter fun p => !p.2.isEmpty).Sublist ds := List.filter_sublist
  have ne : ∀ p ∈ ds.filter fun p => !p.2.isEmpty, p.2 ≠ [] := fun p hp => by
    have := (List.mem_filter.mp hp).2
    intro e; rw [e] at this; cases this
  have hrun' : c3Run (n' + 1) res (ds.map (·.2)) = if (c3Keep (ds.map (·.2))).isEmpty then some (some res) else match c3Cand (c3Keep (ds.map (·.2))) with
    | none => some none
    | some c => c3Run n' (res ++ [c]) ((c3Keep (ds.map (·.2))).map (c3Drop c)) := rfl
  rw [hrun', keepE] at hrun
  have lens' : ∀ p ∈ ds.filter fun p => !p.2.isEmpty, p.2.length ≤ 64 := fun p hp => lens p (sub.subset hp)
  have S0' : ∀ p ∈ ds.filter fun p => !p.2.isEmpty, b₀.get? p.1 = none := fun p hp => S0 p (sub.subset hp)
  have dlen' : (ds.filter fun p => !p.2.isEmpty).length ≤ 64 := Nat.le_trans sub.length_le dlen
  have rd' : r ∉ (ds.filter fun p => !p.2.isEmpty).map (·.1) := fun hm => rd ((sub.map _).subset hm)
  have S₁ : SeqsAt h₁ D (ds.filter fun p => !p.2.isEmpty) := by
    refine ⟨hys ▸ hl, S.2.1.sublist (sub.map _), fun hm => ?_, fun p hp => ?_⟩
    · obtain ⟨p, hp, e⟩ := List.mem_map.mp hm
      obtain ⟨zs, ⟨_, x⟩, _⟩ := S.2.2.2 p (sub.subset hp)
      rw [e, hD] at x; cases x
    · obtain ⟨zs, x, y⟩ := S.2.2.2 p (sub.subset hp)
      exact ⟨zs, x.at fun o e => md _ o (fun hm => ne_ns nL x.isList (List.mem_singleton.mp hm)) e, y⟩
  have pr₁ : h₁.PlainList r (List.toArray its) := pr.at fun o e => md _ o (fun hm => ne_ns nL pr.isList (List.mem_singleton.mp hm)) e
  have ok₁ : b₀.StaysIn h₁ := md.stays ok (by intro a ha; rw [List.mem_singleton.mp ha]; exact hL₀)
  have rD : r ≠ D := fun e => by obtain ⟨_, x⟩ := pr; rw [e, hD] at x; cases x
  have eS₁ : (fun z => if z = Str.ofString "sequences" then some (Value.ref D) else m z) "sequences" = some (.ref D) := upd_eq
  have eR₁ := upd_ne (x := "sequences") (v := .ref D) eR
  clear hys keepE hrun' sub S pr S0 lens dlen rd a2 hl hD md
  generalize (ds.filter fun p => !p.2.isEmpty) = dk at S₁ ne lens' S0' dlen' rd' hrun
  generalize (fun z => if z = Str.ofString "sequences" then some (Value.ref D) else m z) = m₁ at nL₁ eS₁ eR₁
  clear nL eS eR ok
  refine nrm s h₁ rfl rfl rfl rfl fun tk₂ => wpAny_execs_cons ?_
  -- if not sequences: return result
  refine wpAny_If (wpAny_isTrue_Not (wpAny_isTrue_value (nmL nL₁ eS₁ (truthyL S₁.rl (by rw [List.length_map]; omega) ?_))))
  cases dk with
  | nil =>
    refine wpAny_execs_cons (wpAny_Return_some (nmL nL₁ eR₁ ?_))
    refine kR res _ h₁ _ ?_ ok₁ ⟨r, its, rfl, pr₁.isList, ar⟩
    simpa using hrun.symm
  | cons p0 dk0 =>
  refine wpAny_execs_nil (nrm s h₁ rfl rfl rfl rfl fun tk₃ => wpAny_execs_cons ?_)
  have hrun1 : (match c3Cand ((p0 :: dk0).map (·.2)) with
    | none => some none
    | some c => c3Run n' (res ++ [c]) (((p0 :: dk0).map (·.2)).map (c3Drop c))) = some OUT := by simpa using hrun
  clear hrun
  have hne : (p0 :: dk0) ≠ [] := by simp
  generalize p0 :: dk0 = dk at *
  -- the search for a candidate
  refine wpAny_mono (Q := fun f s₁ => f = .next ∧ ∃ h tk m cv, s₁ = { s with heap := h, toks := tk } ∧ b₀.StaysIn h ∧ h.Ns L m ∧ m "sequences" = some (.ref D) ∧ m "result" = some (.ref r) ∧ SeqsAt h D dk ∧ h.PlainList r (List.toArray its) ∧
    m "candidate" = some cv ∧ ((c3Cand (dk.map (·.2)) = none ∧ cv = .none) ∨ ∃ c t, c3Cand (dk.map (·.2)) = some c ∧ cv = .int c t)) ?_ (fun f s₁ hf => ?_) fun _ _ e => e
  · have its0 : ∀ {i : Nat} {v : Value}, (List.toArray (dk.map fun p => Value.ref p.1))[i]? = some v → ∃ p, dk[i]? = some p ∧ p ∈ dk ∧ v = .ref p.1 := fun {i v} hv => by
      simp only [List.getElem?_toArray, List.getElem?_map, Option.map_eq_some_iff] at hv
      obtain ⟨p, hp, e⟩ := hv
      exact ⟨p, hp, List.mem_of_getElem? hp, e.symm⟩
    have hsz : (List.toArray (dk.map fun p => Value.ref p.1)).size = dk.length := by simp
    refine for_list (A := A) (h₀ := b₀) (g := h₁) (l := D) (items := List.toArray (dk.map fun p => Value.ref p.1))
      (fun i h => ∃ m, h.Ns L m ∧ m "sequences" = some (.ref D) ∧ m "result" = some (.ref r) ∧ SeqsAt h D dk ∧ h.PlainList r (List.toArray its) ∧ (0 < i → m "candidate" = some .none) ∧
        ∀ p ∈ dk.take i, c3Bad (dk.map (·.2)) (p.2.headD 0) = true) hhA (Ok.refl ok₁) (fun i h ⟨_, _, _, _, x, _⟩ => x.1.isList)
      (fun i h h' ⟨m, n, e1, e2, x, y, z⟩ k => ⟨m, k.ns n, e1, e2, x.nf k, k.plain y, z⟩) ⟨m₁, nL₁, eS₁, eR₁, S₁, pr₁, by simp, by simp⟩ (fun Q' hq => nmL nL₁ eS₁ hq) ?_ ?_
    · rintro i v h tk hv ok ⟨m, n, e1, e2, S, P, _, bad⟩
      obtain ⟨p, hp, hpm, rfl⟩ := its0 hv
      obtain ⟨c, tl, hc⟩ : ∃ c tl, p.2 = c :: tl := by
        cases hq : p.2 with
        | nil => exact absurd hq (ne p hpm)
        | cons c tl => exact ⟨c, tl, rfl⟩
      have hhd : p.2.headD 0 = c := by rw [hc]; rfl
      refine asL n fun h₂ tk₂ n₂ s₂ => ?_
      have ok₂ : Ok b₀ h h₂ := (Ok.refl ok.k).same s₂ hL₀ (nf_ns n)
      have S₂ := S.ns n s₂
      have P₂ := plain_same P s₂ (ne_ns n P.isList)
      have e1₂ := upd_ne (x := "s1") (v := .ref p.1) e1
      have e2₂ := upd_ne (x := "s1") (v := .ref p.1) e2
      -- candidate = s1[0]
      refine nrm s h₂ rfl rfl rfl rfl fun tk₃ => wpAny_execs_cons (wpAny_Assign_Name (subI (R := RInt) (nmL n₂ upd_eq (wpAny_Constant_int ⟨p.2, c, 0, _, S₂.one hpm, rfl, by omega, by omega, by rw [hc]; rfl, fun v1 hv1 => ?_⟩))))
      obtain ⟨t1, rfl⟩ := hv1
      refine stL n₂ fun h₃ tk₄ n₃ s₃ => ?_
      have ok₃ := ok₂.same s₃ hL₀ (nf_ns n₂)
      have S₃ := S₂.ns n₂ s₃
      have P₃ := plain_same P₂ s₃ (ne_ns n₂ P₂.isList)
      have e1₃ := upd_ne (x := "candidate") (v := .int c t1) e1₂
      have e2₃ := upd_ne (x := "candidate") (v := .int c t1) e2₂
      -- for s2 in sequences
      refine nrm s h₃ rfl rfl rfl rfl fun tk₅ => wpAny_execs_cons ?_
      refine for_list (A := A) (h₀ := b₀) (g := h₃) (l := D) (items := List.toArray (dk.map fun p => Value.ref p.1))
        (fun j h => ∃ m, h.Ns L m ∧ m "sequences" = some (.ref D) ∧ m "result" = some (.ref r) ∧ SeqsAt h D dk ∧ h.PlainList r (List.toArray its) ∧ m "candidate" = some (.int c t1) ∧
          ∀ p' ∈ dk.take j, (p'.2.drop 1).contains c = false) hhA (Ok.refl ok₃.k) (fun i h ⟨_, _, _, _, x, _⟩ => x.1.isList)
        (fun i h h' ⟨m, n, e1, e2, x, y, z⟩ k => ⟨m, k.ns n, e1, e2, x.nf k, k.plain y, z⟩) ⟨_, n₃, e1₃, e2₃, S₃, P₃, upd_eq, by simp⟩ (fun Q' hq => nmL n₃ e1₃ hq) ?_ ?_
      · rintro j v h₄ tk₆ hv₂ ok₄ ⟨m₄, n₄, e1₄, e2₄, S₄, P₄, e3₄, nb⟩
        obtain ⟨p2, hp2, hpm2, rfl⟩ := its0 hv₂
        refine asL n₄ fun h₅ tk₇ n₅ s₅ => ?_
        have ok₅ : Ok b₀ h₄ h₅ := (Ok.refl ok₄.k).same s₅ hL₀ (nf_ns n₄)
        have S₅ := S₄.ns n₄ s₅
        have P₅ := plain_same P₄ s₅ (ne_ns n₄ P₄.isList)
        have e1₅ := upd_ne (x := "s2") (v := .ref p2.1) e1₄
        have e2₅ := upd_ne (x := "s2") (v := .ref p2.1) e2₄
        have e3₅ := upd_ne (x := "s2") (v := .ref p2.1) e3₄
        -- if candidate in s2[1:]
        refine nrm s h₅ rfl rfl rfl rfl fun tk₈ => wpAny_execs_cons (wpAny_If (wpAny_isTrue_Compare1 (nmL n₅ e3₅ ?_)))
        refine sliceI (R := RInt) RInt.mono (nmL n₅ upd_eq (wpAny_Constant_int ⟨p2.2, 1, _, S₅.one hpm2, rfl, ?_, ?_, fun v1 h₆ st₆ hv1 => ?_⟩))
        · have := ne p2 hpm2
          cases hq : p2.2 with
          | nil => exact absurd hq this
          | cons _ _ => simp
        · have := lens' p2 hpm2
          have hz : sizeLine = 2 ^ 24 := rfl
          omega
        refine inI hv1 (wpAny_truthy_bool ?_)
        have n₆ := n₅.keeps st₆
        have ok₆ := ok₅.stays st₆
        have S₆ := S₅.nf (.of_stays st₆)
        have P₆ := (NF.of_stays st₆).plain P₅
        cases hcc : (p2.2.drop 1).contains c with
        | true =>
          rw [if_pos rfl]
          refine wpAny_execs_cons (wpAny_Assign_Name (wpAny_Constant_none (stL n₆ fun h₇ tk₉ n₇ s₇ => ?_)))
          refine wpAny_execs_cons (wpAny_Break ?_)
          refine wpAny_execs_nil ⟨h₇, _, rfl, ((ok₃.trans ok₄).trans ok₆).same s₇ hL₀ (nf_ns n₆), _, n₇, upd_ne e1₅, upd_ne e2₅, S₆.ns n₆ s₇, plain_same P₆ s₇ (ne_ns n₆ P₆.isList), fun _ => upd_eq, fun p' hp' => ?_⟩
          rw [take_snoc hp] at hp'
          rcases List.mem_append.mp hp' with hp' | hp'
          · exact bad p' hp'
          · rw [List.mem_singleton.mp hp', hhd, c3Bad, List.any_map]
            exact List.any_eq_true.mpr ⟨p2, hpm2, hcc⟩
        | false =>
          rw [if_neg Bool.false_ne_true]
          refine wpAny_execs_nil (wpAny_execs_nil ⟨h₆, _, rfl, ok₆, _, n₆, e1₅, e2₅, S₆, P₆, e3₅, fun p' hp' => ?_⟩)
          rw [take_snoc hp2] at hp'
          rcases List.mem_append.mp hp' with hp' | hp'
          · exact nb p' hp'
          · rw [List.mem_singleton.mp hp']; exact hcc
      · rintro h₄ tk₆ ok₄ ⟨m₄, n₄, e1₄, e2₄, S₄, P₄, e3₄, nb⟩
        rw [hsz, List.take_length] at nb
        refine wpAny_execs_cons (wpAny_Break ?_)
        refine ⟨rfl, h₄, _, m₄, _, rfl, ok₄.k, n₄, e1₄, e2₄, S₄, P₄, e3₄, .inr ⟨c, t1, ?_, rfl⟩⟩
        have hgood : c3Bad (dk.map (·.2)) c = false := by
          rw [c3Bad, List.any_map]
          exact List.any_eq_false.mpr fun x hx => by simpa using nb x hx
        rw [c3Cand, find_at (i := i) (y := p.2) ?_ (by rw [List.getElem?_map, hp]; rfl) (by rw [hhd, hgood]; rfl)]
        · rw [Option.map_some, hhd]
        · intro x hx
          rw [← List.map_take] at hx
          obtain ⟨p', hp', rfl⟩ := List.mem_map.mp hx
          rw [bad p' hp']; rfl
    · rintro h tk ok ⟨m, n, e1, e2, S, P, e3, bad⟩
      rw [hsz, List.take_length] at bad
      refine wpAny_execs_nil ⟨rfl, h, tk, m, .none, rfl, ok.k, n, e1, e2, S, P, e3 ?_, .inl ⟨?_, rfl⟩⟩
      · rw [hsz]; exact List.length_pos_iff.mpr hne
      · rw [c3Cand, List.find?_eq_none.mpr ?_]
        · rfl
        · intro x hx
          obtain ⟨p', hp', rfl⟩ := List.mem_map.mp hx
          rw [bad p' hp']; exact Bool.false_ne_true
  · obtain ⟨rfl, h, tk, m, cv, rfl, ok, n, e1, e2, S, P, e3, hc⟩ := hf
    -- if candidate is None: raise RuntimeError(..)
    show wpAny (model prog w) A (execs _ (menv cd a L)) _ E _
    refine wpAny_execs_cons (wpAny_If (wpAny_isTrue_Compare1 (nmL n e3 (wpAny_Constant_none ?_))))
    rcases hc with ⟨hcand, rfl⟩ | ⟨c, t, hcand, rfl⟩
    · refine wpAny_is_plain rfl (wpAny_truthy_bool ?_)
      rw [if_pos (by decide)]
      obtain ⟨mg, mb, g1, g2, _, _, _, f1, f2⟩ := (W0.keeps ok).ex
      refine wpAny_execs_cons (wpAny_Raise_call PySem.F.excCall_RuntimeError PySem.F.excRaise_RuntimeError hh rfl (nmB g1 f1.2.2.2.2 g2 f2.2.2.2.2 ⟨rfl, ?_⟩))
      show wpAny _ _ (evalArgs (Value.type "RuntimeError") true [(false, eval _ _)] []) _ _ _
      refine evalArgs_plain (spliced_cons (wpAny_Constant_str (spliced_nil ⟨rfl, by show 1 ≤ sizeLine; decide, fun h' e hx => ?_⟩)))
      rw [hcand] at hrun1
      exact kE h h' e m _ _ (by simpa using hrun1.symm) ok n hx
    · refine wpAny_is_plain rfl (wpAny_truthy_bool ?_)
      rw [if_neg (by simp)]
      rw [hcand] at hrun1
      refine wpAny_execs_nil (nrm s h rfl rfl rfl rfl fun tk₁ => wpAny_execs_cons ?_)
      -- result.append(candidate)
      have rlen := ar.len
      refine append_stmt (nmL n e2 ⟨r, _, rfl, P, nmL n e3 ⟨_, P, by have hz : sizeLine = 2 ^ 24 := rfl; simp only [List.size_toArray]; omega, fun h₂ P₂ s₂ => ?_⟩⟩)
      rw [List.push_toArray] at P₂
      have S₂ := S.same s₂ (Ne.symm rD) rd'
      have n₂ := n.sameBut s₂ (Ne.symm (ne_ns n P.isList))
      have ok₂ := stays_same ok s₂ hr₀
      have ar₂ : All2 (fun d y => RInt d y h₂) (res ++ [c]) (its ++ [.int c t]) := All2.snoc (ar.mono fun _ _ x => x) ⟨t, rfl⟩
      -- for seq in sequences: if seq[0] == candidate: del seq[0]
      refine nrm s h₂ rfl rfl rfl rfl fun tk₃ => wpAny_execs_cons ?_
      have hsz : (List.toArray (dk.map fun p => Value.ref p.1)).size = dk.length := by simp
      refine for_list (A := A) (h₀ := b₀) (g := h₂) (l := D) (items := List.toArray (dk.map fun p => Value.ref p.1))
        (fun i h => ∃ m, h.Ns L m ∧ m "sequences" = some (.ref D) ∧ m "result" = some (.ref r) ∧ m "candidate" = some (.int c t) ∧ SeqsAt h D (updTo c i dk) ∧ h.PlainList r (List.toArray (its ++ [.int c t]))) hhA (Ok.refl ok₂)
        (fun i h ⟨_, _, _, _, _, x, _⟩ => by have := x.1.isList; rwa [updTo_fst] at this) (fun i h h' ⟨m, n, e1, e2, e3, x, y⟩ k => ⟨m, k.ns n, e1, e2, e3, x.nf k, k.plain y⟩)
        ⟨m, n₂, e1, e2, e3, by simpa [updTo] using S₂, P₂⟩ (fun Q' hq => nmL n₂ e1 hq) ?_ ?_
      · rintro i v h₃ tk₄ hv ok₃ ⟨m₃, n₃, f1, f2, f3, S₃, P₃⟩
        simp only [List.getElem?_toArray, List.getElem?_map, Option.map_eq_some_iff] at hv
        obtain ⟨p, hp, rfl⟩ := hv
        have hpm := List.mem_of_getElem? hp
        obtain ⟨u1, u2⟩ := updTo_at (c := c) hp
        obtain ⟨c', tl, hc'⟩ : ∃ c tl, p.2 = c :: tl := by
          cases hq : p.2 with
          | nil => exact absurd hq (ne p hpm)
          | cons c tl => exact ⟨c, tl, rfl⟩
        rw [u1] at S₃
        rw [u2]
        refine asL n₃ fun h₄ tk₅ n₄ s₄ => ?_
        have ok₄ : Ok b₀ h₃ h₄ := (Ok.refl ok₃.k).same s₄ hL₀ (nf_ns n₃)
        have S₄ := S₃.ns n₃ s₄
        have P₄ := plain_same P₃ s₄ (ne_ns n₃ P₃.isList)
        have f1₄ := upd_ne (x := "seq") (v := .ref p.1) f1
        have f2₄ := upd_ne (x := "seq") (v := .ref p.1) f2
        have f3₄ := upd_ne (x := "seq") (v := .ref p.1) f3
        have hmem : p ∈ ((dk.take i).map fun p => (p.1, c3Drop c p.2)) ++ p :: dk.drop (i + 1) := by simp
        obtain ⟨zs, Pp, Az⟩ := S₄.2.2.2 p hmem
        refine nrm s h₄ rfl rfl rfl rfl fun tk₆ => wpAny_execs_cons (wpAny_If (wpAny_isTrue_Compare1 (subI (R := RInt) (nmL n₄ upd_eq (wpAny_Constant_int ⟨p.2, c', 0, _, S₄.one hmem, rfl, by omega, by omega, by rw [hc']; rfl, fun v1 hv1 => ?_⟩)))))
        obtain ⟨t1, rfl⟩ := hv1
        refine nmL n₄ f3₄ (eq_int (wpAny_truthy_bool ?_))
        cases hcc : c' == c with
        | true =>
          rw [if_pos rfl]
          have hcd : c3Drop c p.2 = tl := by rw [c3Drop, hc', List.headD_cons, hcc]; rfl
          rw [hcd]
          rw [hc'] at Az
          cases Az with
          | @cons _ z1 _ zs' hz1 hz2 =>
          refine wpAny_execs_cons (wpAny_Delete (wpAny_deleteEach_cons (wpAny_delete_Subscript (nmL n₄ upd_eq (wpAny_Constant_int (wpAny_delItem_plain (k := 0) Pp (by decide) ?_ (fun h₅ Pp₅ s₅ => ?_) ?_))))))
          · simp [seqIndex?]
          · have pr : r ≠ p.1 := fun e => rd' (e ▸ List.mem_map_of_mem hpm)
            have Pp₆ : h₅.PlainList p.1 (List.toArray zs') := by simpa using Pp₅
            refine wpAny_deleteEach_nil (wpAny_execs_nil (wpAny_execs_nil ⟨h₅, _, rfl, ok₄.same s₅ (S0' p hpm) (nf_list Pp.isList), _, n₄.sameBut s₅ (Ne.symm (ne_ns n₄ Pp.isList)), f1₄, f2₄, f3₄, S₄.upd s₅ Pp₆ hz2, plain_same P₄ s₅ pr⟩))
          · have h1 := hz2.len
            have h2 := lens' p hpm
            have hz : sizeLine = 2 ^ 24 := rfl
            rw [hc', List.length_cons] at h2
            simp only [List.size_toArray, List.length_cons]; omega
        | false =>
          rw [if_neg Bool.false_ne_true]
          have hcd : c3Drop c p.2 = p.2 := by rw [c3Drop, hc', List.headD_cons, hcc]; rfl
          rw [hcd]
          exact wpAny_execs_nil (wpAny_execs_nil ⟨h₄, _, rfl, ok₄, _, n₄, f1₄, f2₄, f3₄, S₄, P₄⟩)
      · rintro h₃ tk₄ ok₃ ⟨m₃, n₃, f1, f2, f3, S₃, P₃⟩
        rw [hsz, updTo_all] at S₃
        refine wpAny_execs_nil (wpAny_execs_nil ⟨n', Nat.lt_succ_self _, h₃, tk₄, m₃, D, _, res ++ [c], _, rfl, ok₃.k, n₃, f1, f2, S₃, ?_, ?_, ?_, P₃, ar₂.mono fun _ _ x => x, rD, ?_, ?_, ?_⟩)
        · intro p hp
          obtain ⟨p', hp', rfl⟩ := List.mem_map.mp hp
          exact S0' p' hp'
        · intro p hp
          obtain ⟨p', hp', rfl⟩ := List.mem_map.mp hp
          have := lens' p' hp'
          show (c3Drop c p'.2).length ≤ 64
          rw [c3Drop]; split
          · simp; omega
          · exact this
        · rw [List.length_map]; exact dlen'
        · rw [List.map_map]; exact rd'
        · rw [List.length_append, List.length_singleton]; omega
        · rw [List.map_map]
          have hrun2 : c3Run n' (res ++ [c]) ((dk.map (·.2)).map (c3Drop c)) = some OUT := hrun1
          rw [List.map_map] at hrun2
          exact hrun2
end
end C3P

/-! part C3Exc -/
namespace C3P
open PySem PySem.W PyProof.Rows PySem.Calls

/-- e, a RuntimeError without a context, stands with a traceback whose flight is fl; the frames l stand; what B holds stands -/
structure Ex (B : Heap) (l : List Env) (e : Addr) (fl : Value) (h : Heap) : Prop where
  keep : B.StaysIn h
  fresh : B.get? e = none
  frames : h.FunFrames B l
  obj : ∃ oe vs T oT ts, h.get? e = some oe ∧ oe.cls = .type "RuntimeError" ∧ oe.data = .fields vs ∧ vs[1]? = some (.ref T) ∧ vs[2]? = some .none ∧ B.get? T = none ∧ T ≠ e ∧ h.get? T = some oT ∧ oT.data = .fields ts ∧ ts[3]? = some fl

/-- no record's object stands as it stood, up to its slots -/
def Upto (h h' : Heap) : Prop := ∀ b o, h.get? b = some o → (∀ vs, o.data ≠ .fields vs) → ∃ sl, h'.get? b = some { o with slots := sl }
theorem Upto.trans {a b c : Heap} (x : Upto a b) (y : Upto b c) : Upto a c := fun d o e n => let ⟨_, e1⟩ := x d o e n; let ⟨sl, e2⟩ := y d _ e1 n; ⟨sl, e2⟩
theorem Upto.of_stays {a b : Heap} (k : a.StaysIn b) : Upto a b := fun d o e _ => ⟨o.slots, k d o e⟩
theorem Upto.ns {h h' : Heap} {a : Addr} {m : Str → Option Value} (x : Upto h h') (n : h.Ns a m) : h'.Ns a m :=
  let ⟨_, es, ep, e, d, r⟩ := n
  let ⟨_, e'⟩ := x a _ e fun vs q => by rw [d] at q; cases q
  ⟨_, es, ep, e', d, r⟩
theorem Upto.cell {h h' : Heap} {a : Addr} {v : Option Value} (x : Upto h h') (n : h.IsCell a v) : h'.IsCell a v :=
  let ⟨_, e, d⟩ := n
  let ⟨_, e'⟩ := x a _ e fun vs q => by rw [d] at q; cases q
  ⟨_, e', d⟩

section
variable {M : Model} {A : Around} {E : Value → Shared → Prop} {s : Shared}

theorem entryX {B : Heap} {env : Env} {outer : List Env} {L e : Addr} {oe : Obj} {vs : Array Value} {head : Value} {hadNext : Bool} {Q : Unit → Shared → Prop}
    (hfr : A.frames = some (env :: outer)) (hl : s.heap.FunFrames B (env :: outer)) (hf : env.frame = some L) (kb : B.StaysIn s.heap) (hen : B.get? e = none)
    (he : s.heap.get? e = some oe) (hc : oe.cls = .type "RuntimeError") (hd : oe.data = .fields vs) (h1 : 1 < vs.size) (h2 : vs[2]? = some .none)
    (k : ∀ h', Ex B (env :: outer) e (rawInt L) h' → Upto s.heap h' → Q () { s with heap := h' }) :
    wpAny M A (do let a ← frameOf env; let pl ← entryPlaceOf L hadNext; let b ← EntryCells.newEntry head a .none (rawInt L) .none pl; setField (.ref e) 1 b) Q E s := by
  refine wpAny_bind (wpAny_frameOf_fun hfr hl hf fun g hg => wpAny_bind (wpAny_entryPlaceOf fun pl hpl => ?_))
  have off : e ∉ (env :: outer).filterMap (·.frame) := fun hm => by
    obtain ⟨_, o, ho, hnf⟩ := hl.mem hm
    rw [he] at ho; cases ho; exact hnf vs hd
  have heg : g.get? e = some oe := (hg.2.1 e off).trans he
  have kbg : B.StaysIn g := fun b o eb => (hg.2.1 b fun hm => by rw [(hl.mem hm).1] at eb; cases eb).trans (kb b o eb)
  unfold EntryCells.newEntry newFields
  refine wpAny_bind (wpAny_newObj_type ?_ (hpl.sizeOk5 _ _ _ _ _))
  generalize hts : ([head, Value.ref L, Value.none, rawInt L, Value.none] ++ (if pl.isEmpty then List.replicate 6 Value.none else pl)).toArray = ts
  have ht3 : ts[3]? = some (rawInt L) := by rw [← hts]; simp
  have hTe : g.objs.size ≠ e := Nat.ne_of_gt (Heap.lt_size heg)
  have stp := stays_push g { cls := .type "traceback", dict := none, data := .fields ts }
  refine wpAny_setField (stp _ _ heg) hd h1 (k _ ⟨?_, hen, ?_, ?_⟩ ?_)
  · intro b o eb
    rw [Heap.get?_update_other _ _ (fun q : e = b => by rw [← q, hen] at eb; cases eb)]
    exact stp _ _ (kbg b o eb)
  · refine hl.of_keeps fun b o hb hnf => ?_
    obtain ⟨sl, hs⟩ := hg.2.2 b o hb
    refine ⟨{ o with slots := sl }, ?_, rfl⟩
    rw [Heap.get?_update_other _ _ (fun q : e = b => by rw [← q, he] at hb; cases hb; exact hnf vs hd)]
    exact stp _ _ hs
  · have hd' := Obj.data_mapFields hd (·.setIfInBounds 1 (Value.ref g.objs.size))
    refine ⟨_, _, g.objs.size, { cls := .type "traceback", dict := none, data := .fields ts }, ts, Heap.get?_update_self _ (stp _ _ heg) (Obj.isFreed_of_fields hd'), (Obj.cls_mapFields _ _).trans hc, hd', by simp [h1], ?_, kbg.fresh, hTe, ?_, rfl, ht3⟩
    · rw [Array.getElem?_setIfInBounds_ne (by decide)]; exact h2
    · rw [Heap.get?_update_other _ _ (Ne.symm hTe)]; exact Heap.get?_push_size _ rfl
  · intro b o hb hnf
    obtain ⟨sl, hs⟩ := hg.2.2 b o hb
    refine ⟨sl, ?_⟩
    rw [Heap.get?_update_other _ _ (fun q : e = b => by rw [← q, he] at hb; cases hb; exact hnf vs hd)]
    exact stp _ _ hs

/-- the first frame that notes it -/
theorem noteFirst {B h : Heap} {env : Env} {outer : List Env} {L e : Addr} {args : List Value} {Q : Unit → Shared → Prop} (hfr : A.frames = some (env :: outer)) (hf : env.frame = some L) (kb : B.StaysIn h) (hl : h.FunFrames B (env :: outer))
    (hx : Heap.MadeExc h s.heap e "RuntimeError" args) (k : ∀ h', Ex B (env :: outer) e (rawInt L) h' → Upto s.heap h' → Q () { s with heap := h' }) : wpAny M A (noteFrame (.ref e) env) Q E s := by
  obtain ⟨t, he, _, _⟩ := hx.there
  unfold noteFrame
  simp only [hf]
  refine wpAny_bind (wpAny_field he rfl (x := .none) rfl ?_)
  rw [if_neg (by decide)]
  refine entryX hfr (hl.of_keeps fun b o hb _ => ⟨o, hx.keeps b o hb, rfl⟩) hf (fun b o eb => hx.keeps b o (kb b o eb)) (fresh_stays kb hx.new) he rfl rfl (by show 1 < 6; decide) rfl k

theorem flightDown {B : Heap} {l : List Env} {e : Addr} {fl : Value} {Q : Unit → Shared → Prop} (x : Ex B l e fl s.heap) (k : ∀ h', Ex B l e .none h' → Upto s.heap h' → Q () { s with heap := h' }) : wpAny M A (setFlight (.ref e) none) Q E s := by
  obtain ⟨kb, hen, hl, oe, vs, T, oT, ts, he, hc, hd, h1, h2, hT, hTe, hoT, hdT, h3⟩ := x
  unfold setFlight
  refine wpAny_bind (wpAny_field he hd h1 ?_)
  rw [if_pos (show (Value.ref T != Value.none) = true from by simp)]
  have h3s : 3 < ts.size := (Array.getElem?_eq_some_iff.mp h3).1
  have oth : ∀ b, b ≠ T → (s.heap.update T (Obj.mapFields (·.setIfInBounds 3 ((none : Option Addr).elim Value.none fun f => rawInt f)))).get? b = s.heap.get? b := fun b hb => Heap.get?_update_other _ _ (Ne.symm hb)
  have nT : ∀ b o, s.heap.get? b = some o → (∀ vs, o.data ≠ .fields vs) → b ≠ T := fun b o hb hnf q => by rw [q, hoT] at hb; cases hb; exact hnf ts hdT
  refine wpAny_setField hoT hdT h3s (k _ ⟨fun b o eb => (oth b fun q => by rw [q, hT] at eb; cases eb).trans (kb b o eb), hen, hl.of_keeps fun b o hb hnf => ⟨o, (oth b (nT b o hb hnf)).trans hb, rfl⟩,
    oe, vs, T, _, _, (oth e (Ne.symm hTe)).trans he, hc, hd, h1, h2, hT, hTe, Heap.get?_update_self _ hoT (Obj.isFreed_of_fields (Obj.data_mapFields hdT _)), Obj.data_mapFields hdT _, by simp [h3s]⟩
    fun b o hb hnf => ⟨o.slots, (oth b (nT b o hb hnf)).trans hb⟩)

/-- the next frame that notes it -/
theorem noteNext {B : Heap} {env : Env} {outer : List Env} {L e : Addr} {Q : Unit → Shared → Prop} (hfr : A.frames = some (env :: outer)) (hf : env.frame = some L) (x : Ex B (env :: outer) e .none s.heap)
    (k : ∀ h', Ex B (env :: outer) e (rawInt L) h' → Upto s.heap h' → Q () { s with heap := h' }) : wpAny M A (noteFrame (.ref e) env) Q E s := by
  obtain ⟨kb, hen, hl, oe, vs, T, oT, ts, he, hc, hd, h1, h2, hT, hTe, hoT, hdT, h3⟩ := x
  unfold noteFrame
  simp only [hf]
  refine wpAny_bind (wpAny_field he hd h1 ?_)
  rw [if_pos (show (Value.ref T != Value.none) = true from by simp)]
  refine wpAny_bind (wpAny_field hoT hdT h3 ?_)
  rw [if_neg (show ¬ ((Value.none == rawInt L) = true) from by simp [rawInt])]
  have h3s : 3 < ts.size := (Array.getElem?_eq_some_iff.mp h3).1
  have oth : ∀ b, b ≠ T → (s.heap.update T (Obj.mapFields (·.setIfInBounds 3 Value.none))).get? b = s.heap.get? b := fun b hb => Heap.get?_update_other _ _ (Ne.symm hb)
  have nT : ∀ b o, s.heap.get? b = some o → (∀ vs, o.data ≠ .fields vs) → b ≠ T := fun b o hb hnf q => by rw [q, hoT] at hb; cases hb; exact hnf ts hdT
  refine wpAny_bind (wpAny_setField hoT hdT h3s ?_)
  refine entryX hfr (hl.of_keeps fun b o hb hnf => ⟨o, (oth b (nT b o hb hnf)).trans hb, rfl⟩) hf (fun b o eb => (oth b fun q => by rw [q, hT] at eb; cases eb).trans (kb b o eb)) hen
    ((oth e (Ne.symm hTe)).trans he) hc hd (Array.getElem?_eq_some_iff.mp h1).1 h2 fun h' y u => k h' y (Upto.trans (fun b o hb hnf => ⟨o.slots, (oth b (nT b o hb hnf)).trans hb⟩) u)
end
end C3P

/-! part C3MergeC -/
namespace C3P
open PySem PySem.W PyProof.Rows PySem.Calls
section
variable {prog : Program} {w : World} {A : Around} {s : Shared}

set_option maxHeartbeats 1000000 in
theorem merge_call {f : Addr} {o : Obj} {pm cd doc : Value} (ho : s.heap.get? f = some o) (hd : o.data = .func (docDef "_c3_merge" (fArgs c3S) (fBody c3S) (fScope c3S) pm cd doc)) (hcd : s.heap.CodeRec cd "_c3_merge")
    {b₀ : Heap} (hb : b₀.StaysIn s.heap) (W0 : Wd b₀) (hroom : A.depth < recursionLimit) (hh : A.handled = none) (hu : A.units + 3 < cLine) {lenv : Env} {L₀ : Addr} {m₀ : Str → Option Value} (hfr : A.frames = some [lenv]) (hlf : lenv.frame = some L₀)
    (hlk : lenv.scope.kind ≠ .module) (hL₀ : b₀.Ns L₀ m₀) {q : Addr} {ds : List Pr} {OUT : Option (List Int)} {N : Nat} {Q : Value → Shared → Prop} {E : Value → Shared → Prop}
    (hS : SeqsAt s.heap q ds) (hS₀ : ∀ p ∈ ds, b₀.get? p.1 = none) (hlen : ∀ p ∈ ds, p.2.length ≤ 64) (hds : ds.length ≤ 64) (hN : N ≤ 2 ^ 20) (hrun : c3Run N [] (ds.map (·.2)) = some OUT)
    (kR : ∀ told v h tk, OUT = some told → b₀.StaysIn h → RL RInt told v h → Q v { s with heap := h, toks := tk })
    (kE : ∀ h g e tk, OUT = none → b₀.StaysIn h → Ex (b₀.hide L₀) [lenv] e .none g → Upto h g → E (.ref e) { s with heap := g, toks := tk }) :
    wpAny (model prog w) A (call (.ref f) [.ref q]) Q E s := by
  refine wpAny_call (codeAny_call_def (binds := [("sequences", .ref q)]) hroom ho hd (W0.nl.keeps hb) hcd rfl (BindsTo.of_eq rfl) (show ∀ x ∈ (fScope c3S).names, x.2 ≠ NameKind.cell by decide +kernel) (by intro x hx; rw [List.mem_singleton.mp hx]; rfl) (fun h₀ hns hk => ?_) rfl rfl rfl)
  have hLn : b₀.get? s.heap.objs.size = none := fresh_stays hb (fresh_size _)
  refine merge_body (A := A.deeper (menv cd f s.heap.objs.size)) (b₀ := b₀) (stays_trans hb hk) hh W0 hu hns hLn rfl (hS.nf (.of_stays hk)) hS₀ hlen hds hN hrun (by passes_own) (fun told v h tk e st hr => ?_) (fun h h' e m args tk eo st hL hx => ?_)
  · exact kR told v h tk e st hr
  · have hB : (b₀.hide L₀).StaysIn b₀ := fun b o e => Heap.of_hide e
    have hB1 := stays_trans hB st
    have hf2 : h.FunFrames (b₀.hide L₀) [menv cd f s.heap.objs.size, lenv] :=
      Heap.FunFrames.cons (by show (fScope c3S).kind ≠ _; decide +kernel) rfl hL (fresh_stays hB hLn) (Heap.FunFrames.cons hlk hlf (hL₀.keeps st) (Heap.hide_self _ _) trivial)
    show wpAny (model prog w) (A.deeper (menv cd f s.heap.objs.size)) (leaving (menv cd f s.heap.objs.size) (.ref e)) _ _ _
    unfold leaving
    refine wpAny_bind (noteFirst (Around.frames_deeper hfr) rfl hB1 hf2 hx fun h1 x1 u1 => flightDown x1 fun h2 x2 u2 => ?_)
    exact kE h h2 e tk eo st ⟨x2.keep, x2.fresh, x2.frames.2.2, x2.obj⟩ (((Upto.of_stays hx.keeps).trans u1).trans u2)
end
end C3P

/-! part C3Checks -/
namespace C3P
open PySem PySem.W PyProof.Rows PySem.Calls

/-- all sequences stand as they stood -/
def SA (h h' : Heap) : Prop := ∀ a o its n, h.get? a = some o → o.data = .seq its n → h'.get? a = some o
theorem SA.of_stays {h h' : Heap} (k : h.StaysIn h') : SA h h' := fun a o _ _ e _ => k a o e
theorem SA.of_nf {h h' : Heap} (k : NF h h') : SA h h' := fun a o its n e d => k a o e fun vs q => by rw [d] at q; cases q
theorem SA.cell {h h' : Heap} {c : Addr} {v : Option Value} (x : h.IsCell c v) (hs : Heap.SameBut c h h') : SA h h' := fun a o its n e d => (hs.2 a fun q => by
  obtain ⟨o', e', d'⟩ := x
  rw [q, e'] at e; cases e; rw [d'] at d; cases d).trans e
theorem SA.ns {h h' : Heap} {L : Addr} {m : Str → Option Value} (x : h.Ns L m) (hs : Heap.SameBut L h h') : SA h h' := fun a o its n e d => (hs.2 a fun q => by
  obtain ⟨o', _, _, e', d', _⟩ := x
  rw [q, e'] at e; cases e; rw [d'] at d; cases d).trans e
theorem SA.hide {h : Heap} {L : Addr} {m : Str → Option Value} (x : h.Ns L m) : SA h (h.hide L) := fun a o its n e d => by
  rw [Heap.hide_ne h fun q => by
    obtain ⟨o', _, _, e', d', _⟩ := x
    rw [q, e'] at e; cases e; rw [d'] at d; cases d]
  exact e
def MonoS {δ : Type} (R : Rep δ) : Prop := ∀ d v h h', R d v h → SA h h' → R d v h'
theorem RInt.monoS : MonoS RInt := fun _ _ _ _ x _ => x
theorem RL.monoS {δ : Type} {R : Rep δ} (m : MonoS R) : MonoS (RL R) := fun _ _ _ _ x k =>
  let ⟨a, ys, e, ⟨o, ho, hc, n, hd⟩, hA⟩ := x; ⟨a, ys, e, ⟨o, k _ _ _ _ ho hd, hc, n, hd⟩, hA.mono fun _ _ r => m _ _ _ _ r k⟩
theorem cell_same {h h' : Heap} {a b : Addr} {v : Option Value} (x : h.IsCell a v) (hs : Heap.SameBut b h h') (hne : a ≠ b) : h'.IsCell a v := x.sameBut hs hne
theorem all2_zip {α β : Type} {R : α → β → Prop} : ∀ {as : List α} {bs : List β}, All2 R as bs → (bs.zip as).map (·.1) = bs ∧ (bs.zip as).map (·.2) = as ∧ ∀ p ∈ bs.zip as, R p.2 p.1
  | _, _, .nil => ⟨rfl, rfl, by simp⟩
  | _, _, .cons x r => let ⟨a, b, c⟩ := all2_zip r; ⟨by simp [a], by simp [b], fun p hp => by
      rcases List.mem_cons.mp hp with rfl | hp
      · exact x
      · exact c p hp⟩

/-! what the law asks of an order -/
def leftOf (rows : List (List Int)) (told : List Int) (k : Nat) : List (List Int) := (rows.map fun row => row.filter fun x => (told.drop k).contains x).filter fun row => !row.isEmpty
def freeOf (left : List (List Int)) : List Int := (left.filter fun row => (left.filter fun one => (one.drop 1).contains (row.headD 0)).isEmpty).map fun row => row.headD 0
structure Plain (rows : List (List Int)) (told : List Int) : Prop where
  srt : ∀ ns : List Int, ns.Perm told → ns.Pairwise (· ≤ ·) → ns = ((List.range 7).map fun i => (1 + (i : Nat) : Int)).filter fun x => !(rows.filter fun row => row.contains x).isEmpty
  ord : ∀ row ∈ rows, told.filter (fun x => row.contains x) = row
  fre : ∀ k t, told[k]? = some t → (freeOf (leftOf rows told k)).head? = some t
  ring : ringOf rows = false
  len : told.length < 64

def sIf : Stmt → Expr
  | .If t _ _ _ => t
  | _ => .Constant .none 0 ⟨0, 0, 0, 0⟩
def lawAt (k : Nat) : Stmt := (fBody lawS).getD k (.Pass ⟨0, 0, 0, 0⟩)
def sFor : Stmt → List Stmt
  | .For _ _ b _ _ => b
  | _ => []
def sVal : Stmt → Expr
  | .Assign _ v _ => v
  | _ => .Constant .none 0 ⟨0, 0, 0, 0⟩
/-- the k-th statement of the body of the loop at place j -/
def inLoop (j k : Nat) : Stmt := (sFor (lawAt j)).getD k (.Pass ⟨0, 0, 0, 0⟩)
abbrev lenv (cd : Value) (a L : Addr) : Env := envX "law" (fScope lawS) L a cd [("left", L + 5), ("k", L + 4), ("told", L + 3), ("row", L + 2), ("rows", L + 1)]

section
variable {prog : Program} {w : World} {A : Around} {s : Shared} {env : Env}

theorem srcR {iter : Expr} {a b : Int} {n : Nat} (hh : HOk A s.heap) (hab : 0 ≤ a ∧ a < 2 ^ 62 ∧ 0 ≤ b ∧ b < 2 ^ 62) (hn : (b - a).toNat = n)
    (hi : ∀ Q' : Value → Shared → Prop, (∀ r t u v h tk, s.heap.StaysIn h → IsRange h r a b 1 t u v → Q' (.ref r) { s with heap := h, toks := tk }) → wpAny (model prog w) A (eval iter env) Q' never s) :
    Src prog w A s env iter n (fun i v => ∃ t, v = .int (a + i) t) := hn ▸ srcRange hh hab hi

/-- the check of the sorted numbers -/
theorem law_sorted {L a : Addr} {cd : Value} {lr : Addr} {rvs : List Value} {rows : List (List Int)} {v : Value} {told : List Int} {Q : Bool → Shared → Prop} (W : Wd s.heap) (hh : A.handled = none) (hu : A.units + 20 < cLine)
    (c1 : s.heap.IsCell (L + 1) (some (.ref lr))) (c3 : s.heap.IsCell (L + 3) (some v)) (hlr : s.heap.IsList lr (List.toArray rvs)) (hA : All2 (fun d y => RL RInt d y s.heap) rows rvs) (hv : RL RInt told v s.heap)
    (hrl : ∀ row ∈ rows, row.length ≤ 64) (hrn : rows.length ≤ 64) (P : Plain rows told)
    (k : ∀ h tk, s.heap.StaysIn h → Q false { s with heap := h, toks := tk }) :
    wpAny (model prog w) A (PySem.isTrue (sIf (lawAt 2)) (lenv cd a L) (eval (sIf (lawAt 2)) (lenv cd a L))) Q never s := by
  refine wpAny_isTrue_Compare1 (ev_sorted W rfl rfl hv P.len (fun Q hq => nmC c3 hq) fun v' ns' h₆ tk₆ st₆ hv' perm srt => ?_)
  have hs := P.srt ns' perm srt
  have W₆ := W.keeps st₆
  have c1₆ := c1.keeps st₆
  have hlr₆ := isList_stays hlr st₆
  have hA₆ : All2 (fun d y => RL RInt d y h₆) rows rvs := hA.mono fun _ _ x => RL.mono RInt.mono _ _ _ _ x st₆
  refine comp1 (ds := (List.range 7).map fun i => (1 + (i : Nat) : Int)) (q := fun x => !(rows.filter fun row => row.contains x).isEmpty) (Y := fun d y => RInt d y h₆) (cl := [("rows", L + 1)]) (cells := fun C => [("x", C + 1), ("rows", L + 1)]) (LV := LVc)
    (srcR (a := 1) (b := 8) (.inl hh) (by decide) (by decide) fun Q' k => ev_range2 W₆ rfl rfl (fun Q k => wpAny_Constant_int (k _ _)) (fun tk Q k => wpAny_Constant_int (k _ _)) k) (by decide) rfl rfl (by decide +kernel) (cvarC rfl rfl) ?_ ?_ ?_
  · rintro C i d v s₃ Q' hd ⟨t, rfl⟩ st lv k'
    have hdi : d = 1 + (i : Int) := by
      obtain ⟨j, hj, rfl⟩ : ∃ j, (List.range 7)[i]? = some j ∧ d = 1 + (j : Int) := by
        rw [List.getElem?_map, Option.map_eq_some_iff] at hd
        obtain ⟨j, hj, e⟩ := hd
        exact ⟨j, hj, e.symm⟩
      obtain ⟨q1, q2⟩ := List.getElem?_eq_some_iff.mp hj
      rw [List.getElem_range] at q2
      rw [q2]
    rw [← hdi] at lv
    have stA := stays_trans st₆ st
    refine wpAny_isTrue_Compare1 (comp1 (ds := rows) (q := fun row => row.contains d) (Y := fun _ _ => True) (cl := [("x", C + 1)]) (cells := fun _ => [("x", C + 1)]) (LV := LVl "row")
      (srcL (ys := rvs) (.inl hh) (isList_stays hlr₆ st) hA.len.symm fun Q' hq => nmC (c1₆.keeps st) hq) (by have hz : sizeLine = 2 ^ 24 := rfl; omega) rfl rfl (by decide +kernel) (cvarL rfl rfl) ?_ ?_ ?_)
    · rintro C2 j row v2 s₄ Q2 hrow hP2 st2 ⟨m2, hm2, hx2⟩ k2
      obtain ⟨row', hrow', hr2⟩ := hA₆.get j v2 hP2
      rw [hrow] at hrow'; cases hrow'
      exact wpAny_isTrue_Compare1 (nmC (lv.keeps st2) (nmL hm2 hx2 (inI (RL.mono RInt.mono _ _ _ _ hr2 (stays_trans st st2)) (wpAny_truthy_bool (k2 _ s₄.toks (stays_refl _))))))
    · rintro C2 j row v2 s₄ Q2 hrow hP2 _ st2 ⟨m2, hm2, hx2⟩ k2
      exact nmL hm2 hx2 (k2 _ _ s₄.toks (stays_refl _) trivial)
    · intro D ys h₇ tk₇ st₇ hD hl a2
      refine dispNil RInt fun a' h₈ st₈ _ _ r0 => ?_
      refine neNil (R := fun _ _ _ => True) (ds := rows.filter fun row => row.contains d) ⟨D, ys, rfl, isList_stays hl.isList st₈, a2⟩ r0 (by omega) (wpAny_truthy_bool (k' h₈ _ (stays_trans st₇ st₈)))
  · rintro C i d v s₃ Q' hd ⟨t, rfl⟩ _ st lv k'
    have hdi : d = 1 + (i : Int) := by
      obtain ⟨j, hj, rfl⟩ : ∃ j, (List.range 7)[i]? = some j ∧ d = 1 + (j : Int) := by
        rw [List.getElem?_map, Option.map_eq_some_iff] at hd
        obtain ⟨j, hj, e⟩ := hd
        exact ⟨j, hj, e.symm⟩
      obtain ⟨q1, q2⟩ := List.getElem?_eq_some_iff.mp hj
      rw [List.getElem_range] at q2
      rw [q2]
    exact nmC lv (k' _ _ s₃.toks (stays_refl _) ⟨t, by rw [hdi]⟩)
  · intro D ys h₇ tk₇ st₇ hD hl a2
    refine neI (ns := ns') (RL.mono RInt.mono _ _ _ _ hv' st₇) ⟨D, ys, rfl, hl.isList, a2.mono fun _ _ x => x⟩ (by omega) (wpAny_truthy_bool ?_)
    rw [← hs, decide_eq_true rfl]
    exact k h₇ _ (stays_trans st₆ st₇)

/-- the check of a row's order -/
theorem law_order {L a : Addr} {cd : Value} {v rv : Value} {told row : List Int} {Q : Bool → Shared → Prop} (hh : A.handled = none) (hu : A.units + 20 < cLine)
    (c2 : s.heap.IsCell (L + 2) (some rv)) (c3 : s.heap.IsCell (L + 3) (some v)) (hv : RL RInt told v s.heap) (hr : RL RInt row rv s.heap) (hl : told.length < 64) (ho : told.filter (fun x => row.contains x) = row)
    (k : ∀ h tk, s.heap.StaysIn h → Q false { s with heap := h, toks := tk }) :
    wpAny (model prog w) A (PySem.isTrue (sIf (inLoop 3 0)) (lenv cd a L) (eval (sIf (inLoop 3 0)) (lenv cd a L))) Q never s := by
  obtain ⟨lt, tys, rfl, hlt, hT⟩ := id hv
  refine wpAny_isTrue_Compare1 (comp1 (ds := told) (q := fun x => row.contains x) (Y := fun d y => RInt d y s.heap) (cl := [("row", L + 2)]) (cells := fun _ => [("row", L + 2)]) (LV := LVl "x")
    (srcL (ys := tys) (.inl hh) hlt hT.len.symm fun Q' hq => nmC c3 hq) (by have hz : sizeLine = 2 ^ 24 := rfl; omega) rfl rfl (by decide +kernel) (cvarL rfl rfl) ?_ ?_ ?_)
  · rintro C j x v2 s₄ Q2 hx hP2 st2 ⟨m2, hm2, hx2⟩ k2
    obtain ⟨x', hx', t, rfl⟩ := hT.get j v2 hP2
    rw [hx] at hx'; cases hx'
    exact wpAny_isTrue_Compare1 (nmL hm2 hx2 (nmC (c2.keeps st2) (inI (RL.mono RInt.mono _ _ _ _ hr st2) (wpAny_truthy_bool (k2 _ s₄.toks (stays_refl _))))))
  · rintro C j x v2 s₄ Q2 hx hP2 _ st2 ⟨m2, hm2, hx2⟩ k2
    obtain ⟨x', hx', t, rfl⟩ := hT.get j v2 hP2
    rw [hx] at hx'; cases hx'
    exact nmL hm2 hx2 (k2 _ _ s₄.toks (stays_refl _) ⟨t, rfl⟩)
  · intro D ys h₇ tk₇ st₇ hD hl' a2
    refine nmC (c2.keeps st₇) (neI (ns := told.filter fun x => row.contains x) ⟨D, ys, rfl, hl'.isList, a2.mono fun _ _ x => x⟩ (RL.mono RInt.mono _ _ _ _ hr st₇) (by omega) (wpAny_truthy_bool ?_))
    rw [ho, decide_eq_true rfl]
    exact k h₇ _ st₇

/-- what is left of the rows -/
theorem law_left {L a : Addr} {cd : Value} {lr : Addr} {rvs : List Value} {rows : List (List Int)} {v : Value} {told : List Int} {i : Nat} {t : Tok} {Q : Value → Shared → Prop} (hh : A.handled = none)
    (c1 : s.heap.IsCell (L + 1) (some (.ref lr))) (c3 : s.heap.IsCell (L + 3) (some v)) (c4 : s.heap.IsCell (L + 4) (some (.int (i : Nat) t))) (hlr : s.heap.IsList lr (List.toArray rvs)) (hA : All2 (fun d y => RL RInt d y s.heap) rows rvs) (hv : RL RInt told v s.heap)
    (hrl : ∀ row ∈ rows, row.length ≤ 64) (hrn : rows.length ≤ 64) (hl : told.length < 64) (hi : i < told.length)
    (k : ∀ v' h tk, s.heap.StaysIn h → RL (RL RInt) (rows.map fun row => row.filter fun x => (told.drop i).contains x) v' h → Q v' { s with heap := h, toks := tk }) :
    wpAny (model prog w) A (eval (sVal (inLoop 4 0)) (lenv cd a L)) Q never s := by
  have hz : sizeLine = 2 ^ 24 := rfl
  refine compF (ds := rows) (Y := fun row c => All2 (fun d y => RInt d y s.heap) (row.filter fun x => (told.drop i).contains x) c) (cl := [("told", L + 3), ("k", L + 4)]) (cells := fun _ => [("told", L + 3), ("k", L + 4)]) (LV := LVl "row")
    (srcL (ys := rvs) (.inl hh) hlr hA.len.symm fun Q' hq => nmC c1 hq) (by omega) rfl rfl (by decide +kernel) (cvarL rfl rfl) ?_ ?_
  · rintro C j row v2 s₃ Q' hrow hP st ⟨m', hm', hx⟩ k'
    obtain ⟨row', hrow', hr2⟩ := hA.get j v2 hP
    rw [hrow] at hrow'; cases hrow'
    have hr3 := RL.mono RInt.mono _ _ _ _ hr2 st
    obtain ⟨lw, wys, rfl, hlw, hW⟩ := hr3
    have hrow64 := hrl row (List.mem_of_getElem? hrow)
    refine comp1 (ds := row) (q := fun x => (told.drop i).contains x) (Y := fun d y => RInt d y s.heap) (cl := [("told", L + 3), ("k", L + 4)]) (cells := fun _ => [("told", L + 3), ("k", L + 4)]) (LV := LVl "x")
      (srcL (ys := wys) (.inl hh) hlw hW.len.symm fun Q' hq => nmL hm' hx hq) (by omega) rfl rfl (by decide +kernel) (cvarL rfl rfl) ?_ ?_ ?_
    · rintro C2 j2 x v3 s₄ Q2 hx3 hP2 st2 ⟨m2, hm2, hx2⟩ k2
      obtain ⟨x', hx', t', rfl⟩ := hW.get j2 v3 hP2
      rw [hx3] at hx'; cases hx'
      have st3 := stays_trans st st2
      refine wpAny_isTrue_Compare1 (nmL hm2 hx2 (sliceI (R := RInt) RInt.mono (nmC (c3.keeps st3) (nmC (c4.keeps st3) ⟨told, i, t, RL.mono RInt.mono _ _ _ _ hv st3, rfl, by omega, by omega, fun v4 h₅ st5 hv4 => ?_⟩))))
      exact inI hv4 (wpAny_truthy_bool (k2 h₅ _ st5))
    · rintro C2 j2 x v3 s₄ Q2 hx3 hP2 _ st2 ⟨m2, hm2, hx2⟩ k2
      obtain ⟨x', hx', t', rfl⟩ := hW.get j2 v3 hP2
      rw [hx3] at hx'; cases hx'
      exact nmL hm2 hx2 (k2 _ _ s₄.toks (stays_refl _) ⟨t', rfl⟩)
    · intro D ys h₇ tk₇ st₇ hD hl' a2
      exact k' D ys h₇ tk₇ st₇ hD hl' a2
  · intro D as h tk st hD hlD nd fr a2
    refine k _ h tk st ⟨D, as.map .ref, rfl, hlD.isList, ?_⟩
    have key : ∀ {rs : List (List Int)} {bs : List Addr}, All2 (fun d a => ∃ c, h.PlainList a (List.toArray c) ∧ All2 (fun d y => RInt d y s.heap) (d.filter fun x => (told.drop i).contains x) c) rs bs →
        All2 (fun d y => RL RInt d y h) (rs.map fun row => row.filter fun x => (told.drop i).contains x) (bs.map .ref) := by
      intro rs bs q
      induction q with
      | nil => exact .nil
      | cons x _ ih =>
        obtain ⟨c, hp, hc⟩ := x
        exact .cons ⟨_, c, rfl, hp.isList, hc.mono fun _ _ x => x⟩ ih
    exact key a2

/-- the rows that are not empty -/
theorem law_left2 {L a : Addr} {cd : Value} {vl : Value} {left : List (List Int)} {Q : Value → Shared → Prop} (hh : A.handled = none) (hu : A.units + 20 < cLine)
    (c5 : s.heap.IsCell (L + 5) (some vl)) (hv : RL (RL RInt) left vl s.heap) (hn : left.length ≤ 64)
    (k : ∀ v' h tk, s.heap.StaysIn h → RL (RL RInt) (left.filter fun row => !row.isEmpty) v' h → Q v' { s with heap := h, toks := tk }) :
    wpAny (model prog w) A (eval (sVal (inLoop 4 1)) (lenv cd a L)) Q never s := by
  have hz : sizeLine = 2 ^ 24 := rfl
  obtain ⟨ll, lys, rfl, hll, hA⟩ := hv
  refine comp1 (ds := left) (q := fun row => !row.isEmpty) (Y := fun d y => RL RInt d y s.heap) (cl := []) (cells := fun _ => []) (LV := LVl "row")
    (srcL (ys := lys) (.inl hh) hll hA.len.symm fun Q' hq => nmC c5 hq) (by omega) rfl rfl (by decide +kernel) (cvarL rfl rfl) ?_ ?_ ?_
  · rintro C j row v2 s₃ Q' hrow hP st ⟨m', hm', hx⟩ k'
    obtain ⟨row', hrow', hr2⟩ := hA.get j v2 hP
    rw [hrow] at hrow'; cases hrow'
    refine wpAny_isTrue_Compare1 (nmL hm' hx (dispNil RInt fun a' h₈ st₈ _ _ r0 => ?_))
    exact neNil (RL.mono RInt.mono _ _ _ _ hr2 (stays_trans st st₈)) r0 (by omega) (wpAny_truthy_bool (k' h₈ _ st₈))
  · rintro C j row v2 s₃ Q' hrow hP _ st ⟨m', hm', hx⟩ k'
    obtain ⟨row', hrow', hr2⟩ := hA.get j v2 hP
    rw [hrow] at hrow'; cases hrow'
    exact nmL hm' hx (k' _ _ s₃.toks (stays_refl _) hr2)
  · intro D ys h₇ tk₇ st₇ hD hl' a2
    exact k _ h₇ tk₇ st₇ ⟨D, ys, rfl, hl'.isList, a2.mono fun _ _ x => RL.mono RInt.mono _ _ _ _ x st₇⟩

/-- the heads that stand nowhere behind another one -/
theorem law_free {L a : Addr} {cd : Value} {vl : Value} {left : List (List Int)} {m : Str → Option Value} {Q : Flow → Shared → Prop} (hh : A.handled = none) (hu : A.units + 20 < cLine)
    (hL : s.heap.Ns L m) (c5 : s.heap.IsCell (L + 5) (some vl)) (hv : RL (RL RInt) left vl s.heap) (hn : left.length ≤ 64) (hne : ∀ row ∈ left, row ≠ []) (hll : ∀ row ∈ left, row.length ≤ 64)
    (k : ∀ v' h tk, Mod [L] s.heap h → RL RInt (freeOf left) v' h → (h.Ns L fun z => if z = "free" then some v' else m z) → Q .next { s with heap := h, toks := tk }) :
    wpAny (model prog w) A (exec (inLoop 4 2) (lenv cd a L)) Q never s := by
  have hz : sizeLine = 2 ^ 24 := rfl
  obtain ⟨ll, lys, rfl, hll', hA⟩ := hv
  refine asg1 (ds := left) (q := fun row => (left.filter fun one => (one.drop 1).contains (row.headD 0)).isEmpty) (Y := fun row y => RInt (row.headD 0) y s.heap) (cl := [("left", L + 5)]) (cells := fun C => [("row", C + 1), ("left", L + 5)]) (LV := LVc) (mL := m) rfl hL rfl rfl
    (srcL (ys := lys) (.inl hh) hll' hA.len.symm fun Q' hq => nmC c5 hq) (by omega) rfl rfl (by decide +kernel) (cvarC rfl rfl) ?_ ?_ ?_
  · rintro C j row v2 s₃ Q' hrow hP st lv k'
    obtain ⟨row', hrow', hr2⟩ := hA.get j v2 hP
    rw [hrow] at hrow'; cases hrow'
    obtain ⟨c, tl, rfl⟩ : ∃ c tl, row = c :: tl := by
      cases row with
      | nil => exact absurd rfl (hne [] (List.mem_of_getElem? hrow))
      | cons c tl => exact ⟨c, tl, rfl⟩
    refine wpAny_isTrue_Compare1 (comp1 (ds := left) (q := fun one => (one.drop 1).contains c) (Y := fun _ _ => True) (cl := [("row", C + 1)]) (cells := fun _ => [("row", C + 1)]) (LV := LVl "one")
      (srcL (ys := lys) (.inl hh) (isList_stays hll' st) hA.len.symm fun Q' hq => nmC (c5.keeps st) hq) (by omega) rfl rfl (by decide +kernel) (cvarL rfl rfl) ?_ ?_ ?_)
    · rintro C2 j2 one v3 s₄ Q2 hone hP2 st2 ⟨m2, hm2, hx2⟩ k2
      obtain ⟨one', hone', hr3⟩ := hA.get j2 v3 hP2
      rw [hone] at hone'; cases hone'
      have st3 := stays_trans st st2
      have h1 := hne one (List.mem_of_getElem? hone)
      have h64 := hll one (List.mem_of_getElem? hone)
      have hpos : 1 ≤ one.length := by
        cases one with
        | nil => exact absurd rfl h1
        | cons _ _ => simp
      refine wpAny_isTrue_Compare1 (subI (R := RInt) (nmC (lv.keeps st2) (wpAny_Constant_int ⟨c :: tl, c, 0, _, RL.mono RInt.mono _ _ _ _ hr2 st3, rfl, by omega, by omega, rfl, fun v4 hv4 => ?_⟩)))
      obtain ⟨t4, rfl⟩ := hv4
      refine sliceI (R := RInt) RInt.mono (nmL hm2 hx2 (wpAny_Constant_int ⟨one, 1, _, RL.mono RInt.mono _ _ _ _ hr3 st3, rfl, hpos, by omega, fun v5 h₅ st5 hv5 => ?_⟩))
      exact inI hv5 (wpAny_truthy_bool (k2 h₅ _ st5))
    · rintro C2 j2 one v3 s₄ Q2 hone hP2 _ st2 ⟨m2, hm2, hx2⟩ k2
      exact nmL hm2 hx2 (k2 _ _ s₄.toks (stays_refl _) trivial)
    · intro D ys h₇ tk₇ st₇ hD hl' a2
      refine dispNil RInt fun a' h₈ st₈ _ _ r0 => ?_
      exact eqNil (R := fun _ _ _ => True) (ds := left.filter fun one => (one.drop 1).contains c) ⟨D, ys, rfl, isList_stays hl'.isList st₈, a2⟩ r0 (by omega) (wpAny_truthy_bool (k' h₈ _ (stays_trans st₇ st₈)))
  · rintro C j row v2 s₃ Q' hrow hP _ st lv k'
    obtain ⟨row', hrow', hr2⟩ := hA.get j v2 hP
    rw [hrow] at hrow'; cases hrow'
    obtain ⟨c, tl, rfl⟩ : ∃ c tl, row = c :: tl := by
      cases row with
      | nil => exact absurd rfl (hne [] (List.mem_of_getElem? hrow))
      | cons c tl => exact ⟨c, tl, rfl⟩
    refine subI (R := RInt) (nmC lv (wpAny_Constant_int ⟨c :: tl, c, 0, _, RL.mono RInt.mono _ _ _ _ hr2 st, rfl, by omega, by omega, rfl, fun v4 hv4 => ?_⟩))
    exact k' _ s₃.heap _ (stays_refl _) hv4
  · intro D ys h₇ tk₇ md hD hl' a2 hL'
    refine k _ h₇ tk₇ md ⟨D, ys, rfl, hl'.isList, ?_⟩ hL'
    exact all2_mapL (f := fun (row : List Int) => row.headD 0) (fun _ _ x => x) a2

/-- the first free head is the one that was told -/
theorem law_test {L a : Addr} {cd : Value} {v vf : Value} {told free : List Int} {i : Nat} {t : Tok} {x : Int} {m : Str → Option Value} {Q : Bool → Shared → Prop}
    (hL : s.heap.Ns L m) (hf : m "free" = some vf) (c3 : s.heap.IsCell (L + 3) (some v)) (c4 : s.heap.IsCell (L + 4) (some (.int (i : Nat) t))) (hv : RL RInt told v s.heap) (hvf : RL RInt free vf s.heap) (hx : told[i]? = some x) (hfx : free.head? = some x) (hl : told.length < 64)
    (k : ∀ tk, Q false { s with toks := tk }) :
    wpAny (model prog w) A (PySem.isTrue (sIf (inLoop 4 3)) (lenv cd a L) (eval (sIf (inLoop 4 3)) (lenv cd a L))) Q never s := by
  have hi := (List.getElem?_eq_some_iff.mp hx).1
  refine wpAny_isTrue_Compare1 (subI (R := RInt) (nmL hL hf (wpAny_Constant_int ⟨free, x, 0, _, hvf, rfl, by omega, by omega, by rw [← hfx, List.head?_eq_getElem?]; rfl, fun v1 hv1 => ?_⟩)))
  obtain ⟨t1, rfl⟩ := hv1
  refine subI (R := RInt) (nmC c3 (nmC c4 ⟨told, x, i, t, hv, rfl, by omega, by omega, by simpa using hx, fun v2 hv2 => ?_⟩))
  obtain ⟨t2, rfl⟩ := hv2
  refine PyProof.Rows.ne_int (wpAny_truthy_bool ?_)
  rw [show (x != x) = false by simp]
  exact k _
end
end C3P

/-! part C3Law -/
namespace C3P
open PySem PySem.W PyProof.Rows PySem.Calls

/-- what stands behind the order -/
structure LawSt (h : Heap) (L lr : Addr) (rvs : List Value) (rows : List (List Int)) (v : Value) (told : List Int) : Prop where
  n : ∃ m, h.Ns L m
  c1 : h.IsCell (L + 1) (some (.ref lr))
  c2 : ∃ v, h.IsCell (L + 2) v
  c3 : h.IsCell (L + 3) (some v)
  c4 : ∃ v, h.IsCell (L + 4) v
  c5 : ∃ v, h.IsCell (L + 5) v
  hl : h.IsList lr (List.toArray rvs)
  hA : All2 (fun d y => RL RInt d y h) rows rvs
  hv : RL RInt told v h
theorem LawSt.nf {h h' : Heap} {L lr : Addr} {rvs : List Value} {rows : List (List Int)} {v : Value} {told : List Int} (x : LawSt h L lr rvs rows v told) (k : NF h h') : LawSt h' L lr rvs rows v told :=
  ⟨let ⟨m, y⟩ := x.n; ⟨m, k.ns y⟩, k.cell x.c1, let ⟨m, y⟩ := x.c2; ⟨m, k.cell y⟩, k.cell x.c3, let ⟨m, y⟩ := x.c4; ⟨m, k.cell y⟩, let ⟨m, y⟩ := x.c5; ⟨m, k.cell y⟩, k.list x.hl, x.hA.mono fun _ _ r => RL.monoN RInt.monoN _ _ _ _ r k, RL.monoN RInt.monoN _ _ _ _ x.hv k⟩
theorem LawSt.stays {h h' : Heap} {L lr : Addr} {rvs : List Value} {rows : List (List Int)} {v : Value} {told : List Int} (x : LawSt h L lr rvs rows v told) (k : h.StaysIn h') : LawSt h' L lr rvs rows v told := x.nf (.of_stays k)
theorem add_ne {L i j : Nat} (h : i ≠ j) : L + i ≠ L + j := fun q => h (Nat.add_left_cancel q)
theorem LawSt.sa {h h' : Heap} {L lr c : Addr} {rvs : List Value} {rows : List (List Int)} {v : Value} {told : List Int} (x : LawSt h L lr rvs rows v told) (k : SA h h') :
    h'.IsList lr (List.toArray rvs) ∧ All2 (fun d y => RL RInt d y h') rows rvs ∧ RL RInt told v h' :=
  ⟨let ⟨o, e, c, n, d⟩ := x.hl; ⟨o, k _ _ _ _ e d, c, n, d⟩, x.hA.mono fun _ _ r => RL.monoS RInt.monoS _ _ _ _ r k, RL.monoS RInt.monoS _ _ _ _ x.hv k⟩
theorem LawSt.set2 {h h' : Heap} {L lr : Addr} {rvs : List Value} {rows : List (List Int)} {v : Value} {told : List Int} {u : Option Value} (x : LawSt h L lr rvs rows v told) (hs : Heap.SameBut (L + 2) h h') (hc : h'.IsCell (L + 2) u) : LawSt h' L lr rvs rows v told := by
  obtain ⟨v2, y2⟩ := x.c2
  obtain ⟨a, b, c⟩ := x.sa (c := 0) (SA.cell y2 hs)
  exact ⟨let ⟨m, y⟩ := x.n; ⟨m, y.sameBut hs (Nat.ne_of_lt (Nat.lt_add_of_pos_right (by decide)))⟩, cell_same x.c1 hs (add_ne (by decide)), ⟨_, hc⟩, cell_same x.c3 hs (add_ne (by decide)), let ⟨m, y⟩ := x.c4; ⟨m, cell_same y hs (add_ne (by decide))⟩,
    let ⟨m, y⟩ := x.c5; ⟨m, cell_same y hs (add_ne (by decide))⟩, a, b, c⟩
theorem LawSt.set4 {h h' : Heap} {L lr : Addr} {rvs : List Value} {rows : List (List Int)} {v : Value} {told : List Int} {u : Option Value} (x : LawSt h L lr rvs rows v told) (hs : Heap.SameBut (L + 4) h h') (hc : h'.IsCell (L + 4) u) : LawSt h' L lr rvs rows v told := by
  obtain ⟨v2, y2⟩ := x.c4
  obtain ⟨a, b, c⟩ := x.sa (c := 0) (SA.cell y2 hs)
  exact ⟨let ⟨m, y⟩ := x.n; ⟨m, y.sameBut hs (Nat.ne_of_lt (Nat.lt_add_of_pos_right (by decide)))⟩, cell_same x.c1 hs (add_ne (by decide)), let ⟨m, y⟩ := x.c2; ⟨m, cell_same y hs (add_ne (by decide))⟩, cell_same x.c3 hs (add_ne (by decide)), ⟨_, hc⟩,
    let ⟨m, y⟩ := x.c5; ⟨m, cell_same y hs (add_ne (by decide))⟩, a, b, c⟩
theorem LawSt.set5 {h h' : Heap} {L lr : Addr} {rvs : List Value} {rows : List (List Int)} {v : Value} {told : List Int} {u : Option Value} (x : LawSt h L lr rvs rows v told) (hs : Heap.SameBut (L + 5) h h') (hc : h'.IsCell (L + 5) u) : LawSt h' L lr rvs rows v told := by
  obtain ⟨v2, y2⟩ := x.c5
  obtain ⟨a, b, c⟩ := x.sa (c := 0) (SA.cell y2 hs)
  exact ⟨let ⟨m, y⟩ := x.n; ⟨m, y.sameBut hs (Nat.ne_of_lt (Nat.lt_add_of_pos_right (by decide)))⟩, cell_same x.c1 hs (add_ne (by decide)), let ⟨m, y⟩ := x.c2; ⟨m, cell_same y hs (add_ne (by decide))⟩, cell_same x.c3 hs (add_ne (by decide)),
    let ⟨m, y⟩ := x.c4; ⟨m, cell_same y hs (add_ne (by decide))⟩, ⟨_, hc⟩, a, b, c⟩
theorem cell_mod {h h' : Heap} {L c : Addr} {m : Str → Option Value} {v : Option Value} (n : h.Ns L m) (x : h.IsCell c v) (k : Mod [L] h h') : h'.IsCell c v :=
  let ⟨o, e, d⟩ := x; ⟨o, k _ _ (fun hm => ne_ns_cell n x (List.mem_singleton.mp hm)) e, d⟩
theorem sa_mod {h h' : Heap} {L : Addr} {m : Str → Option Value} (n : h.Ns L m) (k : Mod [L] h h') : SA h h' := fun a o its q e d => k a o (fun hm => by
  obtain ⟨o', _, _, e', d', _⟩ := n
  rw [List.mem_singleton.mp hm, e'] at e; cases e; rw [d'] at d; cases d) e
theorem LawSt.setL {h h' : Heap} {L lr : Addr} {rvs : List Value} {rows : List (List Int)} {v : Value} {told : List Int} {m m' : Str → Option Value} (x : LawSt h L lr rvs rows v told) (n : h.Ns L m) (k : Mod [L] h h') (n' : h'.Ns L m') : LawSt h' L lr rvs rows v told := by
  obtain ⟨a, b, c⟩ := x.sa (c := 0) (sa_mod n k)
  exact ⟨⟨_, n'⟩, cell_mod n x.c1 k, let ⟨m, y⟩ := x.c2; ⟨m, cell_mod n y k⟩, cell_mod n x.c3 k, let ⟨m, y⟩ := x.c4; ⟨m, cell_mod n y k⟩, let ⟨m, y⟩ := x.c5; ⟨m, cell_mod n y k⟩, a, b, c⟩

section
variable {prog : Program} {w : World} {A : Around} {s : Shared}

set_option maxHeartbeats 4000000 in
theorem law_body {L a : Addr} {cd : Value} {h₀ : Heap} {l : Addr} {vs : List Value} {ns : List Int} {m : Str → Option Value} {N : Nat} {OUT : Option (List Int)} {Q : Flow → Shared → Prop} {E : Value → Shared → Prop}
    (hok : h₀.StaysIn s.heap) (hh : A.handled = none) (W0 : Wd h₀) (hroom : A.depth + 3 < recursionLimit) (hu : A.units + 20 < cLine) (hfr : A.frames = some [lenv cd a L])
    (hL : s.heap.Ns L m) (hL₀ : h₀.objs.size ≤ L) (hm : m "script" = some (.ref l)) (hl : h₀.IsList l vs.toArray) (hi : All2 (fun d y => RInt d y h₀) ns vs) (hlen : ns.length ≤ 63)
    (c1 : s.heap.IsCell (L + 1) none) (c2 : s.heap.IsCell (L + 2) none) (c3 : s.heap.IsCell (L + 3) none) (c4 : s.heap.IsCell (L + 4) none) (c5 : s.heap.IsCell (L + 5) none)
    (hb : ∀ row ∈ rowsOf ns, ∀ x ∈ row, 1 ≤ x ∧ x < 8) (hrl : ∀ row ∈ rowsOf ns, row.length ≤ 64) (hrn : (rowsOf ns).length ≤ 64) (hN : N ≤ 2 ^ 20) (hrun : c3Run N [] (rowsOf ns) = some OUT)
    (hp : ∀ told, OUT = some told → Plain (rowsOf ns) told) (hq : OUT = none → ringOf (rowsOf ns) = true)
    (k : ∀ h tk, h₀.StaysIn h → Q (.ret (.bool true)) { s with heap := h, toks := tk }) :
    wpAny (model prog w) A (execs (fBody lawS) (lenv cd a L)) Q E s := by
  have hhA : HOk A h₀ := .inl hh
  have hL0 : h₀.get? L = none := fresh_ge _ hL₀
  refine wpAny_execs_cons ?_
  -- rows = _law_rows(script)
  refine wpAny_Assign_Name (call_def1 (W0.keeps hok) (fun _ _ d1 _ _ => d1) rfl fun f o pm cd' doc ho hd hcd => ?_)
  refine nmL hL hm ⟨ho, ?_⟩
  refine rows_call ho hd hcd (W0.nl.keeps hok) (by omega) (.inl hh) (isList_stays hl hok) (hi.mono fun _ _ x => x) hlen fun rv h₁ tk₁ st₁ hrv => ?_
  have ok₁ := stays_trans hok st₁
  have n₁ := hL.keeps st₁
  have c1₁ := c1.keeps st₁
  refine wpAny_storeName_cell rfl rfl rfl c1₁ fun h₂ c1₂ s₂ => ?_
  have hc0 : ∀ i : Nat, h₀.get? (L + i) = none := fun i => fresh_ge _ (Nat.le_trans hL₀ (Nat.le_add_right _ _))
  have ok₂ := stays_same ok₁ s₂ (hc0 1)
  have n₂ := n₁.sameBut s₂ (Nat.ne_of_lt (Nat.lt_succ_self L))
  have hrv₂ : RL (RL RInt) (rowsOf ns) rv h₂ := RL.monoS (RL.monoS RInt.monoS) _ _ _ _ hrv (SA.cell c1₁ s₂)
  have c2₂ := cell_same (c2.keeps st₁) s₂ (Nat.ne_of_gt (Nat.add_lt_add_left (by decide : 1 < 2) L))
  have c3₂ := cell_same (c3.keeps st₁) s₂ (Nat.ne_of_gt (Nat.add_lt_add_left (by decide : 1 < 3) L))
  have c4₂ := cell_same (c4.keeps st₁) s₂ (Nat.ne_of_gt (Nat.add_lt_add_left (by decide : 1 < 4) L))
  have c5₂ := cell_same (c5.keeps st₁) s₂ (Nat.ne_of_gt (Nat.add_lt_add_left (by decide : 1 < 5) L))
  clear hrv c1₁ n₁ ok₁ st₁ s₂
  generalize rowsOf ns = rows at *
  have W₂ := W0.keeps ok₂
  -- try: told = _c3_merge([list(row) for row in rows])
  refine nrm s h₂ rfl rfl rfl rfl fun tk₂ => wpAny_execs_cons (wpAny_Try_except ?_)
  refine wpAny_execs_cons (wpAny_Assign_Name (call_def1 W₂ (fun _ _ _ d2 _ => d2) rfl fun f o pm cd' doc ho hd hcd => ?_))
  obtain ⟨lr, rvs, rfl, hlr, hA⟩ := hrv₂
  refine compF (ds := rows) (Y := fun row c => All2 (fun d y => RInt d y h₂) row c) (cl := []) (cells := fun _ => []) (LV := LVl "row")
    (srcL (ys := rvs) (.inl hh) hlr hA.len.symm fun Q' hq => nmC c1₂ hq) (by have hz : sizeLine = 2 ^ 24 := rfl; omega) rfl rfl (by decide +kernel) (cvarL rfl rfl) ?_ ?_
  · rintro C i d v s₃ Q' hd hP st ⟨m', hm', hx⟩ k'
    obtain ⟨d', hd', hv⟩ := hA.get i v hP
    rw [hd] at hd'; cases hd'
    have hr := RL.mono RInt.mono _ _ _ _ hv st
    refine ev_list (R := RInt) (W₂.keeps st) rfl rfl hr ?_ (fun Q hq => nmL hm' hx hq) fun a ys h tk st' ha hp hA' => k' a ys h tk st' ha hp (hA'.mono fun _ _ x => x)
    have := hrl d (List.mem_of_getElem? hd)
    have hz : sizeLine = 2 ^ 24 := rfl
    omega
  intro D as h₃ tk₃ st₃ hD hlD nd fr a2
  obtain ⟨z1, z2, z3⟩ := all2_zip a2
  have zlen : (as.zip rows).length = rows.length := by rw [← z2, List.length_map]; simp [z2]
  have hS : SeqsAt h₃ D (as.zip rows) := by
    have e1 : (as.zip rows).map (fun p => Value.ref p.1) = as.map Value.ref := by rw [← z1, List.map_map]; simp [z1]
    refine ⟨by rw [e1]; exact hlD, by rw [z1]; exact nd, by rw [z1]; exact fun hm => (fr D hm).2 rfl, fun p hp => ?_⟩
    obtain ⟨c, hp', hc⟩ := z3 p hp
    exact ⟨c, hp', hc.mono fun _ _ x => x⟩
  have hcd3 : h₃.CodeRec cd' "_c3_merge" := hcd.keeps st₃
  refine ⟨st₃ _ _ ho, merge_call (st₃ _ _ ho) hd hcd3 (b₀ := h₂) st₃ W₂ (by omega) hh (by omega) hfr rfl (by show (fScope lawS).kind ≠ _; decide +kernel) n₂ (N := N) (OUT := OUT) hS ?_ ?_ (by rw [zlen]; exact hrn) hN (by rw [z2]; exact hrun) ?_ ?_⟩
  · intro p hp
    exact (fr p.1 (z1 ▸ List.mem_map_of_mem hp)).1
  · intro p hp
    exact hrl p.2 (z2 ▸ List.mem_map_of_mem (f := fun q : Pr => q.2) hp)
  · -- it came back
    intro told v h₄ tk₄ eo st₄ hv
    have P := hp told eo
    have hrv₄ : RL (RL RInt) rows (.ref lr) h₄ := RL.mono (RL.mono RInt.mono) _ _ _ _ ⟨lr, rvs, rfl, hlr, hA⟩ st₄
    have c3₄ := c3₂.keeps st₄
    refine wpAny_storeName_cell rfl rfl rfl c3₄ fun h₅ c3₅ s₅ => ?_
    have ok₅ := stays_same (stays_trans ok₂ st₄) s₅ (hc0 3)
    have n₅ := (n₂.keeps st₄).sameBut s₅ (Nat.ne_of_lt (Nat.lt_add_of_pos_right (by decide : 0 < 3)))
    have hrv₅ : RL (RL RInt) rows (.ref lr) h₅ := RL.monoS (RL.monoS RInt.monoS) _ _ _ _ hrv₄ (SA.cell c3₄ s₅)
    have hv₅ : RL RInt told v h₅ := RL.monoS RInt.monoS _ _ _ _ hv (SA.cell c3₄ s₅)
    have c1₅ := cell_same (c1₂.keeps st₄) s₅ (Nat.ne_of_lt (Nat.add_lt_add_left (by decide : 1 < 3) L))
    have c2₅ := cell_same (c2₂.keeps st₄) s₅ (Nat.ne_of_lt (Nat.add_lt_add_left (by decide : 2 < 3) L))
    have c4₅ := cell_same (c4₂.keeps st₄) s₅ (Nat.ne_of_gt (Nat.add_lt_add_left (by decide : 3 < 4) L))
    have c5₅ := cell_same (c5₂.keeps st₄) s₅ (Nat.ne_of_gt (Nat.add_lt_add_left (by decide : 3 < 5) L))
    clear hlr hA hrv₄ hv c3₄ st₄ s₅ c1₂ c2₂ c3₂ c4₂ c5₂ hS a2 hlD st₃ hD nd fr z1 z2 z3 zlen W₂ ho hd hcd
    have W₅ := W0.keeps ok₅
    obtain ⟨lr', rvs', e', hlr', hA'⟩ := hrv₅
    cases e'
    have st5 : LawSt h₅ L lr rvs' rows v told := ⟨⟨_, n₅⟩, c1₅, ⟨_, c2₅⟩, c3₅, ⟨_, c4₅⟩, ⟨_, c5₅⟩, hlr', hA', hv₅⟩
    clear c1₅ c2₅ c3₅ c4₅ c5₅ hlr' hA' hv₅ n₂ n₅
    refine wpAny_execs_nil (wpAny_execs_nil (wpAny_noRaise (nrm s h₅ rfl rfl rfl rfl fun tk₅ => ?_)))
    -- if sorted(told) != ..
    refine wpAny_execs_cons (wpAny_If (law_sorted W₅ hh hu st5.c1 st5.c3 st5.hl st5.hA st5.hv hrl hrn P fun h₆ tk₆ st₆ => ?_))
    rw [if_neg Bool.false_ne_true]
    have st6 := st5.stays st₆
    have ok₆ := stays_trans ok₅ st₆
    refine wpAny_execs_nil (nrm s h₆ rfl rfl rfl rfl fun tk₇ => wpAny_execs_cons ?_)
    -- for row in rows
    refine for_list (A := A) (h₀ := h₀) (g := h₆) (l := lr) (items := List.toArray rvs') (fun _ h => LawSt h L lr rvs' rows v told) hhA (Ok.refl ok₆) (fun i h x => x.hl) (fun i h h' x k => x.nf k) st6 (fun Q' hq => nmC st6.c1 hq) ?_ ?_
    · rintro i rv h tk hv ok st
      obtain ⟨row, hrow, hr⟩ := st.hA.get i rv (by simpa using hv)
      obtain ⟨v2, y2⟩ := st.c2
      refine wpAny_assign_Name (wpAny_storeName_cell rfl rfl rfl y2 fun h₇ c₇ s₇ => ?_)
      have ok₇ : Ok h₀ h h₇ := (Ok.refl ok.k).same s₇ (hc0 2) (nf_cell y2)
      have st7 := st.set2 s₇ c₇
      have hr₇ : RL RInt row rv h₇ := RL.monoS RInt.monoS _ _ _ _ hr (SA.cell y2 s₇)
      refine nrm s h₇ rfl rfl rfl rfl fun tk₈ => wpAny_execs_cons (wpAny_If (law_order hh hu c₇ st7.c3 st7.hv hr₇ P.len (P.ord row (List.mem_of_getElem? hrow)) fun h₈ tk₉ st₈ => ?_))
      rw [if_neg Bool.false_ne_true]
      exact wpAny_execs_nil (wpAny_execs_nil ⟨h₈, _, rfl, ok₇.stays st₈, st7.stays st₈⟩)
    · rintro h tk ok st
      have Wh := W0.keeps ok.k
      refine wpAny_execs_nil (nrm s h rfl rfl rfl rfl fun tk₁ => wpAny_execs_cons ?_)
      -- for k in range(len(told))
      refine for_range (A := A) (h₀ := h₀) (g := h) (a := 0) (b := told.length) (fun _ h => LawSt h L lr rvs' rows v told) hhA (Ok.refl ok.k) (fun i h h' x k => x.nf k) st (by have := P.len; omega)
        (fun Q' k => ev_range1 Wh rfl rfl (fun Q k => ev_len (R := RInt) (ds := told) Wh rfl rfl st.hv (by have := P.len; omega) (fun Q hq => nmC st.c3 hq) k) k) ?_ ?_
      · rintro i t h tk hi ok st
        have hi' : i < told.length := by omega
        obtain ⟨x, hx⟩ : ∃ x, told[i]? = some x := ⟨told[i], by simp [hi']⟩
        rw [show (0 : Int) + (i : Int) = (i : Int) by omega]
        obtain ⟨v4, y4⟩ := st.c4
        refine wpAny_assign_Name (wpAny_storeName_cell rfl rfl rfl y4 fun h₇ c₇ s₇ => ?_)
        have ok₇ : Ok h₀ h h₇ := (Ok.refl ok.k).same s₇ (hc0 4) (nf_cell y4)
        have st7 := st.set4 s₇ c₇
        -- left = ..
        refine nrm s h₇ rfl rfl rfl rfl fun tk₈ => wpAny_execs_cons (wpAny_Assign_Name (law_left hh st7.c1 st7.c3 c₇ st7.hl st7.hA st7.hv hrl hrn P.len hi' fun vl h₈ tk₉ st₈ hvl => ?_))
        have st8 := st7.stays st₈
        have c4₈ := c₇.keeps st₈
        obtain ⟨v5, y5⟩ := st8.c5
        refine wpAny_storeName_cell rfl rfl rfl y5 fun h₉ c₉ s₉ => ?_
        have ok₉ : Ok h₀ h h₉ := (ok₇.stays st₈).same s₉ (hc0 5) (nf_cell y5)
        have st9 := st8.set5 s₉ c₉
        have c4₉ := cell_same c4₈ s₉ (add_ne (by decide))
        have hvl₉ := RL.monoS (RL.monoS RInt.monoS) _ _ _ _ hvl (SA.cell y5 s₉)
        -- left = [row for row in left if row != []]
        refine nrm s h₉ rfl rfl rfl rfl fun tk₁₀ => wpAny_execs_cons (wpAny_Assign_Name (law_left2 hh hu c₉ hvl₉ (by rw [List.length_map]; exact hrn) fun vl2 h₁₀ tk₁₁ st₁₀ hvl2 => ?_))
        have st10 := st9.stays st₁₀
        have c4₁₀ := c4₉.keeps st₁₀
        have y5' := c₉.keeps st₁₀
        refine wpAny_storeName_cell rfl rfl rfl y5' fun h₁₁ c₁₁ s₁₁ => ?_
        have ok₁₁ : Ok h₀ h h₁₁ := (ok₉.stays st₁₀).same s₁₁ (hc0 5) (nf_cell y5')
        have st11 := st10.set5 s₁₁ c₁₁
        have c4₁₁ := cell_same c4₁₀ s₁₁ (add_ne (by decide))
        have hvl₁₁ := RL.monoS (RL.monoS RInt.monoS) _ _ _ _ hvl2 (SA.cell y5' s₁₁)
        obtain ⟨m₁₁, n₁₁⟩ := st11.n
        -- free = ..
        have lsub : ∀ row ∈ leftOf rows told i, row ≠ [] ∧ row.length ≤ 64 := fun row hr => by
          obtain ⟨hr1, hr2⟩ := List.mem_filter.mp hr
          obtain ⟨row', hr', rfl⟩ := List.mem_map.mp hr1
          refine ⟨(fun q => by rw [q] at hr2; cases hr2), Nat.le_trans (List.length_filter_le _ _) (hrl row' hr')⟩
        have llen : (leftOf rows told i).length ≤ 64 := Nat.le_trans (List.length_filter_le _ _) (by rw [List.length_map]; exact hrn)
        refine nrm s h₁₁ rfl rfl rfl rfl fun tk₁₂ => wpAny_execs_cons (law_free hh hu n₁₁ c₁₁ hvl₁₁ llen (fun row hr => (lsub row hr).1) (fun row hr => (lsub row hr).2) fun vf h₁₂ tk₁₃ md hvf n₁₂ => ?_)
        have st12 := st11.setL n₁₁ md n₁₂
        have ok₁₂ : Ok h₀ h h₁₂ := ⟨md.stays ok₁₁.k (by intro a ha; rw [List.mem_singleton.mp ha]; exact hL0), fun b o vs e d => md b o (fun hm => nf_ns n₁₁ o (by have := ok₁₁.f b o vs e d; rwa [List.mem_singleton.mp hm] at this) vs d) (ok₁₁.f b o vs e d)⟩
        -- if free[0] != told[k]
        refine nrm s h₁₂ rfl rfl rfl rfl fun tk₁₄ => wpAny_execs_cons (wpAny_If (law_test n₁₂ upd_eq st12.c3 (cell_mod n₁₁ c4₁₁ md) st12.hv hvf hx (P.fre i x hx) P.len fun tk₁₅ => ?_))
        rw [if_neg Bool.false_ne_true]
        exact wpAny_execs_nil (wpAny_execs_nil ⟨h₁₂, _, rfl, ok₁₂, st12⟩)
      · rintro h tk ok st
        -- return not _law_has_ring(rows)
        have Wh := W0.keeps ok.k
        refine wpAny_execs_nil (nrm s h rfl rfl rfl rfl fun tk₁ => wpAny_execs_cons (wpAny_Return_some (wpAny_UnaryOp (call_def1 Wh (fun _ _ _ _ d3 => d3) rfl fun f o pm cd' doc ho hd hcd => nmC st.c1 ⟨ho, ?_⟩))))
        refine ring_call ho hd hcd Wh (by omega) (.inl hh) ⟨lr, rvs', rfl, st.hl, st.hA⟩ hb hrl fun h' tk' st' => ?_
        rw [P.ring]
        refine not_value (wpAny_truthy_bool ?_)
        exact k h' tk' (stays_trans ok.k st')
  · -- it was refused
    intro h g e tk₄ eo st₄ hx u
    refine noteNext hfr rfl hx fun g1 x1 u1 => flightDown x1 fun g2 x2 u2 => ?_
    have kb : h₀.StaysIn (h₂.hide L) := fun b o eb => by
      rw [Heap.hide_ne h₂ fun q => by rw [q, hL0] at eb; cases eb]; exact ok₂ b o eb
    have Wg := W0.keeps (stays_trans kb x2.keep)
    obtain ⟨mg, mb, g1', g2', _, _, _, f1, f2⟩ := Wg.ex
    refine wpAny_handleBy_builtin (X := "RuntimeError") (T := "RuntimeError") (b := true) PySem.F.isExc_RuntimeError PySem.F.notTuple_RuntimeError PySem.F.self_RuntimeError ?_
    obtain ⟨oe, _, _, _, _, he, hce, _⟩ := x2.obj
    refine nmB g1' f1.2.2.2.2 g2' f2.2.2.2.2 ⟨rfl, ⟨oe, he, hce⟩, ?_⟩
    rw [if_pos rfl]
    refine flightDown x2 fun g3 x3 u3 => wpAny_noRaise (wpAny_execs_cons (wpAny_Return_some ?_))
    have W3 := W0.keeps (stays_trans kb x3.keep)
    refine call_def1 W3 (fun _ _ _ _ d3 => d3) rfl fun f o pm cd' doc ho hd hcd => ?_
    have c1h : (h₂.hide L).IsCell (L + 1) (some (.ref lr)) := by
      obtain ⟨o, e1, e2⟩ := c1₂
      exact ⟨o, by rw [Heap.hide_ne h₂ (Nat.ne_of_gt (Nat.lt_succ_self L))]; exact e1, e2⟩
    refine nmC (c1h.keeps x3.keep) ⟨ho, ?_⟩
    have hrvh : RL (RL RInt) rows (.ref lr) (h₂.hide L) := RL.monoS (RL.monoS RInt.monoS) _ _ _ _ ⟨lr, rvs, rfl, hlr, hA⟩ (SA.hide n₂)
    obtain ⟨oe3, vs3, _, _, _, he3, _, hd3, _, h23, _⟩ := x3.obj
    refine ring_call ho hd hcd W3 (by show A.depth < _; omega) (.inr ⟨e, oe3, vs3, rfl, he3, hd3, h23⟩) (RL.mono (RL.mono RInt.mono) _ _ _ _ hrvh x3.keep) hb hrl fun h' tk' st' => ?_
    rw [hq eo]
    exact k h' tk' (stays_trans (stays_trans kb x3.keep) st')
end
end C3P

/-! part C3Graph -/
namespace C3P

/-! steps along a relation -/
inductive TG (R : Nat → Nat → Prop) : Nat → Nat → Prop
  | one {a b} : R a b → TG R a b
  | cons {a b c} : R a b → TG R b c → TG R a c
theorem TG.trans {R : Nat → Nat → Prop} {a b c : Nat} (x : TG R a b) (y : TG R b c) : TG R a c := by
  induction x with
  | one h => exact .cons h y
  | cons h _ ih => exact .cons h (ih y)
theorem TG.rank {R : Nat → Nat → Prop} {f : Nat → Nat} (h : ∀ a b, R a b → f a < f b) {a b : Nat} (x : TG R a b) : f a < f b := by
  induction x with
  | one r => exact h _ _ r
  | cons r _ ih => exact Nat.lt_trans (h _ _ r) ih

theorem filter_lt {p q : Nat → Bool} : ∀ {l : List Nat}, (∀ x ∈ l, p x = true → q x = true) → (∃ x ∈ l, q x = true ∧ p x = false) → (l.filter p).length < (l.filter q).length
  | [], _, ⟨x, hx, _⟩ => by simp at hx
  | y :: l, h, ⟨x, hx, hq, hp⟩ => by
    have hl : (l.filter p).length ≤ (l.filter q).length := by
      clear hx
      induction l with
      | nil => simp
      | cons z l ih =>
        have ih' := ih fun w hw => h w (by
          rcases List.mem_cons.mp hw with rfl | hw
          · simp
          · simp [hw])
        rw [List.filter_cons, List.filter_cons]
        by_cases hz : p z = true
        · have := h z (by simp) hz
          simp [hz, this]; exact ih'
        · simp [hz]
          split
          · simp; omega
          · exact ih'
    rw [List.filter_cons, List.filter_cons]
    rcases List.mem_cons.mp hx with rfl | hx
    · simp [hq, hp]; omega
    · have ih := filter_lt (l := l) (fun w hw => h w (by simp [hw])) ⟨x, hx, hq, hp⟩
      by_cases hy : p y = true
      · have := h y (by simp) hy
        simp [hy, this]; exact ih
      · simp [hy]
        split
        · simp; omega
        · exact ih

open Classical in
/-- where every one of a few has one before it, there is a ring -/
theorem ring_of_pred {R : Nat → Nat → Prop} {H : Nat → Prop} (h8 : ∀ a, H a → a < 8) (hp : ∀ a, H a → ∃ b, H b ∧ TG R b a) (he : ∃ a, H a) : ∃ x, x < 8 ∧ TG R x x := by
  refine byContradiction fun hn => ?_
  have irr : ∀ x, x < 8 → ¬ TG R x x := fun x hx t => hn ⟨x, hx, t⟩
  let D : Nat → Nat := fun a => ((List.range 8).filter fun y => decide (TG R y a)).length
  have key : ∀ n a, H a → D a = n → False := by
    intro n
    induction n using Nat.strongRecOn with
    | ind n ih =>
      intro a ha hD
      obtain ⟨b, hb, t⟩ := hp a ha
      have lt : D b < D a := filter_lt (fun x _ hx => decide_eq_true (TG.trans (of_decide_eq_true hx) t)) ⟨b, List.mem_range.mpr (h8 b hb), decide_eq_true t, decide_eq_false (irr b (h8 b hb))⟩
      exact ih (D b) (hD ▸ lt) b hb rfl
  obtain ⟨a, ha⟩ := he
  exact key _ a ha rfl

/-! cells of the matrix -/
theorem mget_mset {M : Mx} (h : Sq M) {a b : Nat} (ha : a < 8) (hb : b < 8) (v : Bool) (c d : Nat) : mget (mset M a b v) c d = if c = a ∧ d = b then v else mget M c d := by
  have hr : (M.getD a []).length = 8 := h.2 _ (by rw [List.getD_eq_getElem?_getD, List.getElem?_eq_getElem (by rw [h.1]; exact ha)]; simp)
  unfold mget mset
  by_cases hc : c = a
  · subst hc
    have e : (M.set c ((M.getD c []).set b v)).getD c [] = (M.getD c []).set b v := by
      rw [List.getD_eq_getElem?_getD, List.getElem?_set_self (by rw [h.1]; exact ha)]; rfl
    rw [e]
    by_cases hd : d = b
    · subst hd
      rw [if_pos ⟨rfl, rfl⟩, List.getD_eq_getElem?_getD, List.getElem?_set_self (by rw [hr]; exact hb)]; rfl
    · rw [if_neg fun q => hd q.2, List.getD_eq_getElem?_getD, List.getElem?_set_ne (Ne.symm hd), ← List.getD_eq_getElem?_getD]
  · have e : (M.set a ((M.getD a []).set b v)).getD c [] = M.getD c [] := by
      rw [List.getD_eq_getElem?_getD, List.getElem?_set_ne (Ne.symm hc), ← List.getD_eq_getElem?_getD]
    rw [e, if_neg fun q => hc q.1]
theorem mget_mx0 (a b : Nat) : mget mx0 a b = false := by
  unfold mget mx0
  rw [List.getD_eq_getElem?_getD (l := List.map _ _), List.getElem?_map]
  cases h : (List.range 8)[a]? with
  | none => simp
  | some x =>
    simp only [Option.map_some, Option.getD_some, List.getD_eq_getElem?_getD, List.getElem?_replicate]
    split <;> rfl

def Le (M M' : Mx) : Prop := ∀ a b, mget M a b = true → mget M' a b = true
theorem Le.refl (M : Mx) : Le M M := fun _ _ h => h
theorem Le.trans {a b c : Mx} (x : Le a b) (y : Le b c) : Le a c := fun i j h => y i j (x i j h)

/-- one after another over a square matrix: what is so behind one stays so -/
theorem fold_le {β : Type} {f : Mx → β → Mx} (l : List β) (hsq : ∀ M x, x ∈ l → Sq M → Sq (f M x)) (hle : ∀ M x, x ∈ l → Sq M → Le M (f M x)) : ∀ {M : Mx}, Sq M → Sq (l.foldl f M) ∧ Le M (l.foldl f M) := by
  induction l with
  | nil => intro M h; exact ⟨h, .refl M⟩
  | cons x l ih =>
    intro M h
    have s1 := hsq M x (by simp) h
    obtain ⟨s2, l2⟩ := ih (fun M y hy => hsq M y (by simp [hy])) (fun M y hy => hle M y (by simp [hy])) s1
    exact ⟨s2, (hle M x (by simp) h).trans l2⟩
theorem fold_reach {β : Type} {f : Mx → β → Mx} {Q : Mx → Prop} (hQ : ∀ M M', Q M → Le M M' → Q M') (l : List β) (hsq : ∀ M x, x ∈ l → Sq M → Sq (f M x)) (hle : ∀ M x, x ∈ l → Sq M → Le M (f M x)) {i : β} (hi : i ∈ l) {M₀ : Mx}
    (hf : ∀ M', Sq M' → Le M₀ M' → Q (f M' i)) : ∀ {M : Mx}, Sq M → Le M₀ M → Q (l.foldl f M) := by
  induction l with
  | nil => simp at hi
  | cons x l ih =>
    intro M h h0
    have s1 := hsq M x (by simp) h
    have h1 := h0.trans (hle M x (by simp) h)
    by_cases e : i = x
    · subst e
      exact hQ _ _ (hf M h h0) (fold_le l (fun M y hy => hsq M y (by simp [hy])) (fun M y hy => hle M y (by simp [hy])) s1).2
    · rcases List.mem_cons.mp hi with rfl | hi
      · exact absurd rfl e
      · exact ih (fun M y hy => hsq M y (by simp [hy])) (fun M y hy => hle M y (by simp [hy])) hi s1 h1

theorem cell_le {m a : Nat} {M : Mx} {b : Nat} (h : Sq M) (ha : a < 8) (hb : b < 8) : Le M (cellStep m a M b) := fun c d hcd => by
  rw [cellStep, mget_mset h ha hb]
  split
  · rename_i q; rw [q.1, q.2] at hcd; rw [hcd]; rfl
  · exact hcd
theorem row_le {m a : Nat} {M : Mx} (h : Sq M) (ha : a < 8) : Sq (rowStepW m M a) ∧ Le M (rowStepW m M a) :=
  fold_le _ (fun _ b _ h => sq_cellStep m a h b) (fun _ b hb h => cell_le h ha (List.mem_range.mp hb)) h
theorem mid_le {m : Nat} {M : Mx} (h : Sq M) : Sq (midStep M m) ∧ Le M (midStep M m) :=
  fold_le _ (fun _ _ ha h => (row_le h (List.mem_range.mp ha)).1) (fun _ _ ha h => (row_le h (List.mem_range.mp ha)).2) h

theorem mid_gets {m a b : Nat} {M : Mx} (h : Sq M) (ha : a < 8) (hb : b < 8) (h1 : mget M a m = true) (h2 : mget M m b = true) : mget (midStep M m) a b = true := by
  refine fold_reach (Q := fun M => mget M a b = true) (fun _ _ q l => l _ _ q) _ (fun _ _ hx h => (row_le h (List.mem_range.mp hx)).1) (fun _ _ hx h => (row_le h (List.mem_range.mp hx)).2) (List.mem_range.mpr ha) (M₀ := M) (fun M' s' l' => ?_) h (.refl M)
  refine fold_reach (Q := fun M => mget M a b = true) (fun _ _ q l => l _ _ q) _ (fun _ y _ h => sq_cellStep m a h y) (fun _ y hy h => cell_le h ha (List.mem_range.mp hy)) (List.mem_range.mpr hb) (M₀ := M') (fun M'' s'' l'' => ?_) s' (.refl M')
  rw [cellStep, mget_mset s'' ha hb, if_pos ⟨rfl, rfl⟩, l'' _ _ (l' _ _ h1), l'' _ _ (l' _ _ h2)]
  simp

/-! soundness -/
def Snd (R : Nat → Nat → Prop) (M : Mx) : Prop := ∀ a b, a < 8 → b < 8 → mget M a b = true → TG R a b
theorem cell_snd {R : Nat → Nat → Prop} {m a b : Nat} {M : Mx} (h : Sq M) (hm : m < 8) (ha : a < 8) (hb : b < 8) (s : Snd R M) : Snd R (cellStep m a M b) := fun c d hc hd hcd => by
  rw [cellStep, mget_mset h ha hb] at hcd
  split at hcd
  · rename_i q
    rw [q.1, q.2]
    rcases Bool.or_eq_true_iff.mp hcd with hcd | hcd
    · exact s a b ha hb hcd
    · obtain ⟨x, y⟩ := Bool.and_eq_true_iff.mp hcd
      exact (s a m ha hm x).trans (s m b hm hb y)
  · exact s c d hc hd hcd
theorem fold_snd {β : Type} {f : Mx → β → Mx} {R : Nat → Nat → Prop} (l : List β) (hsq : ∀ M x, x ∈ l → Sq M → Sq (f M x)) (hs : ∀ M x, x ∈ l → Sq M → Snd R M → Snd R (f M x)) : ∀ {M : Mx}, Sq M → Snd R M → Snd R (l.foldl f M) := by
  induction l with
  | nil => intro M _ h; exact h
  | cons x l ih => intro M h s; exact ih (fun M y hy => hsq M y (by simp [hy])) (fun M y hy => hs M y (by simp [hy])) (hsq M x (by simp) h) (hs M x (by simp) h s)
theorem close_snd {R : Nat → Nat → Prop} {M : Mx} (h : Sq M) (s : Snd R M) : Snd R (closeUp M) :=
  fold_snd _ (fun _ m _ h => (mid_le h).1) (fun _ m hm h s => fold_snd _ (fun _ _ ha h => (row_le h (List.mem_range.mp ha)).1)
    (fun _ a ha h s => fold_snd _ (fun _ b _ h => sq_cellStep m a h b) (fun _ b hb h s => cell_snd h (List.mem_range.mp hm) (List.mem_range.mp ha) (List.mem_range.mp hb) s) h s) h s) h s

/-! completeness: the textbook's relations, from below -/
def Pw (R : Nat → Nat → Prop) : Nat → Nat → Nat → Prop
  | 0, a, b => R a b
  | k + 1, a, b => Pw R k a b ∨ (Pw R k a k ∧ Pw R k k b)
theorem pw_closed {R : Nat → Nat → Prop} : ∀ (k x a b : Nat), x < k → Pw R k a x → Pw R k x b → Pw R k a b
  | 0, _, _, _, h, _, _ => by omega
  | k + 1, x, a, b, h, h1, h2 => by
    have C := pw_closed (R := R) k
    by_cases hx : x = k
    · subst hx
      have e1 : Pw R x a x := by
        rcases h1 with h1 | ⟨h1, _⟩ <;> exact h1
      have e2 : Pw R x x b := by
        rcases h2 with h2 | ⟨_, h2⟩ <;> exact h2
      exact .inr ⟨e1, e2⟩
    · have hk : x < k := by omega
      rcases h1 with h1 | ⟨h1, h1'⟩ <;> rcases h2 with h2 | ⟨h2, h2'⟩
      · exact .inl (C x a b hk h1 h2)
      · exact .inr ⟨C x a k hk h1 h2, h2'⟩
      · exact .inr ⟨h1, C x k b hk h1' h2⟩
      · exact .inr ⟨h1, h2'⟩
theorem tg_pw {R : Nat → Nat → Prop} (h8 : ∀ a b, R a b → a < 8 ∧ b < 8) {a b : Nat} (t : TG R a b) : Pw R 8 a b := by
  have up : ∀ k a b, R a b → Pw R k a b := fun k => by
    induction k with
    | zero => intro a b r; exact r
    | succ k ih => intro a b r; exact .inl (ih a b r)
  induction t with
  | one r => exact up 8 _ _ r
  | @cons a b c r _ ih => exact pw_closed 8 b a c (h8 _ _ r).2 (up 8 _ _ r) ih
theorem fold_succ {α : Type} (f : α → Nat → α) (M : α) (i : Nat) : (List.range (i + 1)).foldl f M = f ((List.range i).foldl f M) i := by rw [List.range_succ, List.foldl_append]; rfl
theorem close_key {R : Nat → Nat → Prop} {M : Mx} (h : Sq M) (h8 : ∀ a b, R a b → a < 8 ∧ b < 8) (c : ∀ a b, R a b → mget M a b = true) (F : Nat → Mx) (f0 : F 0 = M) (fs : ∀ k, F (k + 1) = midStep (F k) k) :
    ∀ k, k ≤ 8 → Sq (F k) ∧ ∀ a b, Pw R k a b → mget (F k) a b = true ∧ a < 8 ∧ b < 8 := by
  intro k
  induction k with
  | zero => intro _; rw [f0]; exact ⟨h, fun a b r => ⟨c a b r, h8 a b r⟩⟩
  | succ k ih =>
    intro hk
    obtain ⟨s, q⟩ := ih (by omega)
    rw [fs]
    generalize F k = N at s q
    refine ⟨sq_midStep s k, fun a b p => ?_⟩
    have p' : Pw R k a b ∨ (Pw R k a k ∧ Pw R k k b) := p
    rcases p' with p | ⟨p1, p2⟩
    · obtain ⟨q1, q2, q3⟩ := q a b p
      exact ⟨(mid_le s).2 _ _ q1, q2, q3⟩
    · obtain ⟨q1, q2, q3⟩ := q a k p1
      obtain ⟨r1, r2, r3⟩ := q k b p2
      exact ⟨mid_gets s q2 r3 q1 r1, q2, r3⟩
theorem close_cpl {R : Nat → Nat → Prop} {M : Mx} (h : Sq M) (h8 : ∀ a b, R a b → a < 8 ∧ b < 8) (c : ∀ a b, R a b → mget M a b = true) {a b : Nat} (t : TG R a b) : mget (closeUp M) a b = true := by
  have key := (close_key h h8 c (fun k => (List.range k).foldl midStep M) rfl (fun k => fold_succ _ _ k) 8 (Nat.le_refl 8)).2 a b (tg_pw h8 t)
  exact key.1
end C3P

/-! part C3PlainA -/
namespace C3P

/-! which stands right before which -/
def Rn (rows : List (List Int)) (a b : Nat) : Prop := ∃ row ∈ rows, ∃ j x y, row[j]? = some x ∧ row[j + 1]? = some y ∧ x.toNat = a ∧ y.toNat = b
def In8 (rows : List (List Int)) : Prop := ∀ row ∈ rows, ∀ x ∈ row, 1 ≤ x ∧ x < 8
theorem rn8 {rows : List (List Int)} (hb : In8 rows) (a b : Nat) (r : Rn rows a b) : a < 8 ∧ b < 8 := by
  obtain ⟨row, hr, j, x, y, hx, hy, rfl, rfl⟩ := r
  have h1 := hb row hr x (List.mem_of_getElem? hx)
  have h2 := hb row hr y (List.mem_of_getElem? hy)
  omega

def MS (R : Nat → Nat → Prop) (M : Mx) : Prop := ∀ a b, mget M a b = true → R a b
theorem fold_ms {β : Type} {f : Mx → β → Mx} {R : Nat → Nat → Prop} (l : List β) (hsq : ∀ M x, x ∈ l → Sq M → Sq (f M x)) (hs : ∀ M x, x ∈ l → Sq M → MS R M → MS R (f M x)) : ∀ {M : Mx}, Sq M → MS R M → MS R (l.foldl f M) := by
  induction l with
  | nil => intro M _ h; exact h
  | cons x l ih => intro M h s; exact ih (fun M y hy => hsq M y (by simp [hy])) (fun M y hy => hs M y (by simp [hy])) (hsq M x (by simp) h) (hs M x (by simp) h s)
theorem set_ms {R : Nat → Nat → Prop} {M : Mx} (h : Sq M) {a b : Nat} (ha : a < 8) (hb : b < 8) (r : R a b) (s : MS R M) : MS R (mset M a b true) := fun c d hcd => by
  rw [mget_mset h ha hb] at hcd
  split at hcd
  · rename_i q; rw [q.1, q.2]; exact r
  · exact s c d hcd
theorem set_le {M : Mx} (h : Sq M) {a b : Nat} (ha : a < 8) (hb : b < 8) : Le M (mset M a b true) := fun c d hcd => by
  rw [mget_mset h ha hb]
  split
  · rfl
  · exact hcd
theorem getD_of {row : List Int} {i : Nat} (hi : i < row.length) : row[i]? = some (row.getD i 0) ∧ row.getD i 0 ∈ row := by
  have e : row[i]? = some row[i] := List.getElem?_eq_getElem hi
  rw [List.getD_eq_getElem?_getD, e]
  exact ⟨rfl, List.getElem_mem hi⟩
theorem mark_at {rows : List (List Int)} (hb : In8 rows) {row : List Int} (hr : row ∈ rows) {i : Nat} (hi : i ∈ List.range (row.length - 1)) :
    (row.getD i 0).toNat < 8 ∧ (row.getD (i + 1) 0).toNat < 8 ∧ Rn rows (row.getD i 0).toNat (row.getD (i + 1) 0).toNat := by
  have hi' := List.mem_range.mp hi
  obtain ⟨e1, m1⟩ := getD_of (row := row) (i := i) (by omega)
  obtain ⟨e2, m2⟩ := getD_of (row := row) (i := i + 1) (by omega)
  have h1 := hb row hr _ m1
  have h2 := hb row hr _ m2
  exact ⟨by omega, by omega, row, hr, i, _, _, e1, e2, rfl, rfl⟩
theorem markRow_le {rows : List (List Int)} (hb : In8 rows) {row : List Int} (hr : row ∈ rows) {M : Mx} (h : Sq M) : Le M (markRow M row) :=
  (fold_le _ (fun _ _ _ h => sq_mset h _ _ _) (fun _ _ hi h => set_le h (mark_at hb hr hi).1 (mark_at hb hr hi).2.1) h).2
theorem marks_snd {rows : List (List Int)} (hb : In8 rows) : MS (Rn rows) (rows.foldl markRow mx0) :=
  fold_ms rows (fun _ row _ h => sq_markRow h row) (fun _ row hr h s => fold_ms _ (fun _ _ _ h => sq_mset h _ _ _) (fun _ _ hi h s => set_ms h (mark_at hb hr hi).1 (mark_at hb hr hi).2.1 (mark_at hb hr hi).2.2 s) h s) sq_mx0
    (fun a b h => by rw [mget_mx0] at h; exact Bool.noConfusion h)
theorem marks_cpl {rows : List (List Int)} (hb : In8 rows) (a b : Nat) (r : Rn rows a b) : mget (rows.foldl markRow mx0) a b = true := by
  obtain ⟨row, hr, j, x, y, hx, hy, hxa, hyb⟩ := r
  have hj : j + 1 < row.length := (List.getElem?_eq_some_iff.mp hy).1
  have hjm : j ∈ List.range (row.length - 1) := List.mem_range.mpr (by omega)
  have h8 := mark_at hb hr hjm
  refine fold_reach (Q := fun M => mget M a b = true) (fun _ _ q l => l _ _ q) rows (fun _ row _ h => sq_markRow h row) (fun _ row hr h => markRow_le hb hr h) hr (M₀ := mx0) (fun M' s' _ => ?_) sq_mx0 (.refl mx0)
  refine fold_reach (Q := fun M => mget M a b = true) (fun _ _ q l => l _ _ q) _ (fun _ _ _ h => sq_mset h _ _ _) (fun _ _ hi h => set_le h (mark_at hb hr hi).1 (mark_at hb hr hi).2.1) hjm (M₀ := M') (fun M'' s'' _ => ?_) s' (.refl M')
  rw [mget_mset s'' h8.1 h8.2.1, if_pos]
  have e1 : row.getD j 0 = x := by rw [List.getD_eq_getElem?_getD, hx]; rfl
  have e2 : row.getD (j + 1) 0 = y := by rw [List.getD_eq_getElem?_getD, hy]; rfl
  rw [e1, e2]; exact ⟨hxa.symm, hyb.symm⟩
theorem sq_marks {rows : List (List Int)} : Sq (rows.foldl markRow mx0) := sq_foldl (fun _ row h => sq_markRow h row) rows sq_mx0
theorem ring_iff {rows : List (List Int)} (hb : In8 rows) : ringOf rows = true ↔ ∃ x, x < 8 ∧ TG (Rn rows) x x := by
  unfold ringOf
  rw [List.contains_iff_mem, List.mem_map]
  constructor
  · rintro ⟨x, hx, e⟩
    have hx8 := List.mem_range.mp hx
    exact ⟨x, hx8, close_snd sq_marks (fun a b _ _ h => .one (marks_snd hb a b h)) x x hx8 hx8 e⟩
  · rintro ⟨x, hx, t⟩
    exact ⟨x, List.mem_range.mpr hx, close_cpl sq_marks (rn8 hb) (marks_cpl hb) t⟩

/-- along a row -/
theorem tg_row {rows : List (List Int)} {row : List Int} (hr : row ∈ rows) : ∀ (t : List Int) (h : Int), (h :: t) <:+ row → ∀ x ∈ t, TG (Rn rows) h.toNat x.toNat
  | [], _, _, x, hx => by simp at hx
  | y :: t, h, ⟨p, e⟩, x, hx => by
    have r : Rn rows h.toNat y.toNat := ⟨row, hr, p.length, h, y, by rw [← e]; simp, by rw [← e, List.getElem?_append_right (by omega)]; simp, rfl, rfl⟩
    rcases List.mem_cons.mp hx with rfl | hx
    · exact .one r
    · exact .cons r (tg_row hr t y ⟨p ++ [h], by rw [← e]; simp⟩ x hx)

theorem idx_lt {x y : Int} : ∀ {l : List Int}, [x, y].Sublist l → l.Nodup → l.idxOf x < l.idxOf y := by
  intro l
  induction l with
  | nil => intro h _; cases h
  | cons z l ih =>
    intro h nd
    obtain ⟨hz, nd'⟩ := List.nodup_cons.mp nd
    cases h with
    | cons _ h =>
      have hx : x ∈ l := h.subset (by simp)
      have hy : y ∈ l := h.subset (by simp)
      have e1 : (z == x) = false := by simp; rintro rfl; exact hz hx
      have e2 : (z == y) = false := by simp; rintro rfl; exact hz hy
      rw [List.idxOf_cons, List.idxOf_cons, e1, e2]
      have := ih h nd'
      simp only [cond_false]; omega
    | cons_cons _ h =>
      have hy : y ∈ l := h.subset (by simp)
      have e2 : (x == y) = false := by simp; rintro rfl; exact hz hy
      rw [List.idxOf_cons, List.idxOf_cons, e2]
      simp

/-- where one order holds them all there is no ring -/
theorem no_ring {rows : List (List Int)} (hb : In8 rows) {told : List Int} (nd : told.Nodup) (hs : ∀ row ∈ rows, row.Sublist told) : ringOf rows = false := by
  refine Bool.eq_false_iff.mpr fun h => ?_
  obtain ⟨x, _, t⟩ := (ring_iff hb).mp h
  refine Nat.lt_irrefl _ (TG.rank (f := fun a => told.idxOf (a : Int)) (fun a b r => ?_) t)
  obtain ⟨row, hr, j, x, y, hx, hy, rfl, rfl⟩ := r
  have h1 := hb row hr x (List.mem_of_getElem? hx)
  have h2 := hb row hr y (List.mem_of_getElem? hy)
  have e1 : ((x.toNat : Nat) : Int) = x := by omega
  have e2 : ((y.toNat : Nat) : Int) = y := by omega
  simp only [e1, e2]
  refine idx_lt (.trans ?_ (hs row hr)) nd
  have hj := (List.getElem?_eq_some_iff.mp hx)
  have hj' := (List.getElem?_eq_some_iff.mp hy)
  have e : row.drop j = x :: y :: row.drop (j + 2) := by
    rw [List.drop_eq_getElem_cons hj.1, List.drop_eq_getElem_cons hj'.1, hj.2, hj'.2]
  refine .trans ?_ (List.drop_sublist j row)
  rw [e]
  exact .cons_cons _ (.cons_cons _ (List.nil_sublist _))
end C3P

/-! part C3PlainB -/
namespace C3P

/-! the rows -/
theorem rowsOf_inv : ∀ (ns : List Int) (rows : List (List Int)) (k : Nat), rows ≠ [] → In8 rows → (∀ row ∈ rows, row.length ≤ k) → rows.length ≤ k + 1 →
    In8 (ns.foldl rowStep rows) ∧ (∀ row ∈ ns.foldl rowStep rows, row.length ≤ k + ns.length) ∧ (ns.foldl rowStep rows).length ≤ k + 1 + ns.length
  | [], rows, k, _, hb, hl, hn => ⟨hb, by simpa using hl, by simpa using hn⟩
  | x :: ns, rows, k, h0, hb, hl, hn => by
    have f1 : 0 ≤ x.fmod 8 := Int.fmod_nonneg_of_pos x (by decide)
    have f2 : x.fmod 8 < 8 := Int.fmod_lt_of_pos x (by decide)
    have hlast : rows.getLastD [] ∈ rows := by
      rw [List.getLastD_eq_getLast?, List.getLast?_eq_some_getLast h0]; exact List.getLast_mem h0
    have key : rowStep rows x ≠ [] ∧ In8 (rowStep rows x) ∧ (∀ row ∈ rowStep rows x, row.length ≤ k + 1) ∧ (rowStep rows x).length ≤ k + 1 + 1 := by
      unfold rowStep
      split
      · refine ⟨by simp, ?_, ?_, by simp; omega⟩
        · intro row hr y hy
          rcases List.mem_append.mp hr with hr | hr
          · exact hb row hr y hy
          · rw [List.mem_singleton.mp hr] at hy; simp at hy
        · intro row hr
          rcases List.mem_append.mp hr with hr | hr
          · have := hl row hr; omega
          · rw [List.mem_singleton.mp hr]; simp
      · rename_i hz
        split
        · exact ⟨h0, hb, fun row hr => by have := hl row hr; omega, by omega⟩
        · refine ⟨by simp, ?_, ?_, by simp; omega⟩
          · intro row hr y hy
            rcases List.mem_append.mp hr with hr | hr
            · exact hb row (List.dropLast_subset _ hr) y hy
            · rw [List.mem_singleton.mp hr] at hy
              rcases List.mem_append.mp hy with hy | hy
              · exact hb _ hlast y hy
              · rw [List.mem_singleton.mp hy]; omega
          · intro row hr
            rcases List.mem_append.mp hr with hr | hr
            · have := hl row (List.dropLast_subset _ hr); omega
            · rw [List.mem_singleton.mp hr]
              have := hl _ hlast
              rw [List.length_append, List.length_singleton]; omega
    obtain ⟨a, b, c⟩ := rowsOf_inv ns (rowStep rows x) (k + 1) key.1 key.2.1 key.2.2.1 key.2.2.2
    refine ⟨a, fun row hr => ?_, ?_⟩
    · have := b row hr; simp only [List.length_cons]; omega
    · rw [List.foldl_cons]; simp only [List.length_cons]; omega
theorem rowsOf_ok {ns : List Int} (h : ns.length ≤ 63) : In8 (rowsOf ns) ∧ (∀ row ∈ rowsOf ns, row.length ≤ 64) ∧ (rowsOf ns).length ≤ 64 := by
  obtain ⟨a, b, c⟩ := rowsOf_inv ns [[]] 0 (by simp) (by intro row hr x hx; rw [List.mem_singleton.mp hr] at hx; simp at hx) (by simp) (by simp)
  exact ⟨a, fun row hr => by have := b row hr; omega, by unfold rowsOf; omega⟩

/-! the run comes to an end -/
def lenAll (ss : List (List Int)) : Nat := (ss.map List.length).sum
theorem lenAll_cons (s : List Int) (ss : List (List Int)) : lenAll (s :: ss) = s.length + lenAll ss := rfl
theorem lenAll_keep : ∀ ss : List (List Int), lenAll (c3Keep ss) = lenAll ss
  | [] => rfl
  | s :: ss => by
    have ih := lenAll_keep ss
    unfold c3Keep at ih ⊢
    rw [List.filter_cons]
    cases s with
    | nil => simp [lenAll_cons, ih]
    | cons => simp [lenAll_cons, ih]
theorem c3Drop_len (c : Int) (s : List Int) : (c3Drop c s).length ≤ s.length := by
  unfold c3Drop; split
  · simp
  · exact Nat.le_refl _
theorem lenAll_drop_le (c : Int) : ∀ ss : List (List Int), lenAll (ss.map (c3Drop c)) ≤ lenAll ss
  | [] => Nat.le_refl _
  | s :: ss => by
    have ih := lenAll_drop_le c ss
    have := c3Drop_len c s
    rw [List.map_cons, lenAll_cons, lenAll_cons]; omega
theorem lenAll_drop (c : Int) : ∀ ss : List (List Int), (∃ s ∈ ss, s ≠ [] ∧ s.headD 0 = c) → lenAll (ss.map (c3Drop c)) < lenAll ss
  | [], ⟨_, h, _⟩ => by simp at h
  | s :: ss, ⟨s', h, h0, hc⟩ => by
    rw [List.map_cons, lenAll_cons, lenAll_cons]
    rcases List.mem_cons.mp h with rfl | h
    · have h1 := lenAll_drop_le c ss
      have : (c3Drop c s').length < s'.length := by
        unfold c3Drop; rw [if_pos (by simpa using hc)]
        cases s' with
        | nil => exact absurd rfl h0
        | cons => simp
      omega
    · have h1 := lenAll_drop c ss ⟨s', h, h0, hc⟩
      have := c3Drop_len c s
      omega
theorem keep_mem {ss : List (List Int)} {s : List Int} : s ∈ c3Keep ss ↔ s ∈ ss ∧ s ≠ [] := by
  unfold c3Keep; rw [List.mem_filter]; cases s <;> simp
theorem cand_some {ss : List (List Int)} {c : Int} (h : c3Cand ss = some c) : ∃ s ∈ ss, s.headD 0 = c ∧ c3Bad ss c = false := by
  unfold c3Cand at h
  obtain ⟨s, hs, e⟩ := Option.map_eq_some_iff.mp h
  have h1 := List.find?_some hs
  refine ⟨s, List.mem_of_find?_eq_some hs, e, ?_⟩
  simp only [e] at h1
  simpa using h1
theorem run_ends : ∀ (n : Nat) (res : List Int) (ss : List (List Int)), lenAll ss < n → ∃ O, c3Run n res ss = some O
  | 0, _, _, h => absurd h (Nat.not_lt_zero _)
  | n + 1, res, ss, h => by
    unfold c3Run
    split
    · exact ⟨_, rfl⟩
    · split
      · exact ⟨_, rfl⟩
      · rename_i c hc
        refine run_ends n _ _ ?_
        obtain ⟨s, hs, e, _⟩ := cand_some hc
        have h1 := lenAll_drop c (c3Keep ss) ⟨s, hs, (keep_mem.mp hs).2, e⟩
        rw [lenAll_keep] at h1; omega
theorem lenAll_le : ∀ (ss : List (List Int)), (∀ s ∈ ss, s.length ≤ 64) → lenAll ss ≤ 64 * ss.length
  | [], _ => Nat.le_refl _
  | s :: ss, h => by
    have h1 := lenAll_le ss fun s hs => h s (by simp [hs])
    have h2 := h s (by simp)
    rw [lenAll_cons, List.length_cons]; omega

/-! refused: a ring -/
theorem run_none {rows : List (List Int)} (hb : In8 rows) : ∀ (n : Nat) (res : List Int) (ss : List (List Int)), (∀ s ∈ ss, ∃ row ∈ rows, s <:+ row) → c3Run n res ss = some none → ringOf rows = true
  | 0, _, _, _, h => by simp [c3Run] at h
  | n + 1, res, ss, hs, h => by
    have hk : ∀ s ∈ c3Keep ss, ∃ row ∈ rows, s <:+ row := fun s m => hs s (keep_mem.mp m).1
    unfold c3Run at h
    split at h
    · simp at h
    · rename_i hne
      split at h
      · rename_i hc
        unfold c3Cand at hc
        rw [Option.map_eq_none_iff, List.find?_eq_none] at hc
        rw [ring_iff hb]
        refine ring_of_pred (H := fun a => ∃ s ∈ c3Keep ss, (s.headD 0).toNat = a) ?_ ?_ ?_
        · rintro a ⟨s, m, rfl⟩
          obtain ⟨row, hr, e⟩ := hk s m
          have h0 := (keep_mem.mp m).2
          cases s with
          | nil => exact absurd rfl h0
          | cons x t =>
            have := hb row hr x (e.subset (by simp))
            simp only [List.headD_cons]; omega
        · rintro a ⟨s, m, rfl⟩
          have h1 := hc s m
          simp only [Bool.not_eq_true', Bool.not_eq_false] at h1
          unfold c3Bad at h1
          rw [List.any_eq_true] at h1
          obtain ⟨s2, m2, h2⟩ := h1
          rw [List.contains_iff_mem] at h2
          obtain ⟨row, hr, e⟩ := hk s2 m2
          refine ⟨(s2.headD 0).toNat, ⟨s2, m2, rfl⟩, ?_⟩
          cases s2 with
          | nil => simp at h2
          | cons x t => exact tg_row hr t x e _ (by simpa using h2)
        · cases hL : c3Keep ss with
          | nil => rw [hL] at hne; simp at hne
          | cons s L => exact ⟨_, s, by simp, rfl⟩
      · rename_i c hc
        refine run_none hb n _ _ ?_ h
        intro s m
        obtain ⟨s', m', rfl⟩ := List.mem_map.mp m
        obtain ⟨row, hr, e⟩ := hk s' m'
        refine ⟨row, hr, ?_⟩
        unfold c3Drop; split
        · exact .trans (List.drop_suffix 1 s') e
        · exact e

/-! an order told -/
def flt (res row : List Int) : List Int := row.filter fun x => !res.contains x
theorem flt_nil (row : List Int) : flt [] row = row := by
  unfold flt; rw [List.filter_eq_self]; simp
theorem flt_snoc (res row : List Int) (c : Int) : flt (res ++ [c]) row = (flt res row).filter fun x => !(x == c) := by
  unfold flt
  rw [List.filter_filter]
  refine List.filter_congr fun x _ => ?_
  rw [Bool.eq_iff_iff]
  simp
  exact ⟨fun h => ⟨h.2, h.1⟩, fun h => ⟨h.2, h.1⟩⟩
theorem drop_flt {c : Int} : ∀ {s : List Int}, c ∉ s.drop 1 → s.filter (fun x => !(x == c)) = c3Drop c s
  | [], _ => by unfold c3Drop; split <;> rfl
  | x :: t, h => by
    have ht : t.filter (fun x => !(x == c)) = t := by
      rw [List.filter_eq_self]
      intro y hy
      simp only [Bool.not_eq_true', beq_eq_false_iff_ne, ne_eq]
      rintro rfl
      exact h (by simpa using hy)
    rw [List.filter_cons, ht]
    unfold c3Drop
    by_cases e : x = c
    · subst e; simp
    · simp [e]
theorem keep_drop (c : Int) : ∀ X : List (List Int), c3Keep ((c3Keep X).map (c3Drop c)) = c3Keep (X.map (c3Drop c))
  | [] => rfl
  | s :: X => by
    have ih := keep_drop c X
    cases s with
    | nil =>
      have e1 : c3Keep ([] :: X) = c3Keep X := rfl
      have e2 : c3Drop c [] = [] := by unfold c3Drop; split <;> rfl
      have e3 : c3Keep (([] : List Int) :: X.map (c3Drop c)) = c3Keep (X.map (c3Drop c)) := rfl
      rw [e1, ih, List.map_cons, e2, e3]
    | cons x t =>
      have e1 : c3Keep ((x :: t) :: X) = (x :: t) :: c3Keep X := rfl
      rw [e1, List.map_cons, List.map_cons]
      unfold c3Keep at ih ⊢
      rw [List.filter_cons, List.filter_cons, ih]
theorem head_filter {α : Type} (p : α → Bool) : ∀ l : List α, (l.filter p).head? = l.find? p
  | [] => rfl
  | x :: l => by
    rw [List.filter_cons, List.find?_cons]
    cases p x with
    | true => rfl
    | false => exact head_filter p l
theorem free_cand (L : List (List Int)) : (freeOf L).head? = c3Cand L := by
  unfold freeOf c3Cand
  rw [List.head?_map, head_filter]
  congr 1
  refine congrArg (fun f => List.find? f L) (funext fun row => ?_)
  unfold c3Bad
  rw [Bool.eq_iff_iff]
  simp

structure Told (rows : List (List Int)) (res : List Int) (ss : List (List Int)) : Prop where
  keep : c3Keep ss = c3Keep (rows.map (flt res))
  ord : ∀ row ∈ rows, res.filter (fun x => row.contains x) ++ flt res row = row
  nd : res.Nodup
  mem : ∀ x ∈ res, ∃ row ∈ rows, x ∈ row
  fre : ∀ k t, res[k]? = some t → c3Cand (c3Keep (rows.map (flt (res.take k)))) = some t

theorem told_step {rows ss : List (List Int)} {res : List Int} {c : Int} (T : Told rows res ss) (hc : c3Cand (c3Keep ss) = some c) : Told rows (res ++ [c]) ((c3Keep ss).map (c3Drop c)) := by
  obtain ⟨s0, hs0, e0, bad⟩ := cand_some hc
  have hL : c3Keep ss = c3Keep (rows.map (flt res)) := T.keep
  have hno : ∀ row ∈ rows, c ∉ (flt res row).drop 1 := by
    intro row hr hm
    have hne : flt res row ≠ [] := by intro q; rw [q] at hm; simp at hm
    have hin : flt res row ∈ c3Keep ss := by rw [hL]; exact keep_mem.mpr ⟨List.mem_map_of_mem hr, hne⟩
    have : c3Bad (c3Keep ss) c = true := by
      unfold c3Bad; rw [List.any_eq_true]
      exact ⟨_, hin, List.contains_iff_mem.mpr hm⟩
    rw [this] at bad; exact Bool.noConfusion bad
  have hstep : ∀ row ∈ rows, flt (res ++ [c]) row = c3Drop c (flt res row) := fun row hr => by rw [flt_snoc, drop_flt (hno row hr)]
  obtain ⟨row0, hr0, er0⟩ : ∃ row ∈ rows, flt res row = s0 := by
    rw [hL] at hs0
    exact List.mem_map.mp (keep_mem.mp hs0).1
  have hc0 : c ∈ flt res row0 := by
    rw [er0]
    have := (keep_mem.mp hs0).2
    cases s0 with
    | nil => exact absurd rfl this
    | cons x t => rw [← e0]; simp
  have hcr : c ∈ row0 ∧ c ∉ res := by
    have := List.mem_filter.mp hc0
    exact ⟨this.1, by simpa using this.2⟩
  refine ⟨?_, ?_, ?_, ?_, ?_⟩
  · rw [hL, keep_drop, List.map_map]
    congr 1
    exact (List.map_congr_left hstep).symm
  · intro row hr
    rw [hstep row hr, List.filter_append]
    have io := T.ord row hr
    by_cases hm : c ∈ row
    · have hcf : c ∈ flt res row := List.mem_filter.mpr ⟨hm, by simpa using hcr.2⟩
      have e1 : [c].filter (fun x => row.contains x) = [c] := by simp [hm]
      rw [e1]
      have hn := hno row hr
      cases hf : flt res row with
      | nil => rw [hf] at hcf; simp at hcf
      | cons x t =>
        rw [hf] at hcf hn io
        have hx : x = c := by
          rcases List.mem_cons.mp hcf with q | q
          · exact q.symm
          · exact absurd (by simpa using q) hn
        have e2 : c3Drop c (x :: t) = t := by unfold c3Drop; rw [if_pos (by simp [hx])]; rfl
        rw [e2, List.append_assoc, ← hx]; exact io
    · have e1 : [c].filter (fun x => row.contains x) = [] := by simp [hm]
      have e2 : c3Drop c (flt res row) = flt res row := by
        unfold c3Drop
        split
        · rename_i q
          cases hf : flt res row with
          | nil => rfl
          | cons x t =>
            rw [hf] at q
            have q' : x = c := by simpa using q
            have : c ∈ flt res row := by rw [hf, ← q']; simp
            exact absurd (List.mem_filter.mp this).1 hm
        · rfl
      rw [e1, e2, List.append_nil]; exact io
  · rw [List.nodup_append]
    refine ⟨T.nd, by simp, ?_⟩
    intro x hx y hy q
    rw [List.mem_singleton.mp hy] at q
    exact hcr.2 (q ▸ hx)
  · intro x hx
    rcases List.mem_append.mp hx with hx | hx
    · exact T.mem x hx
    · rw [List.mem_singleton.mp hx]; exact ⟨row0, hr0, hcr.1⟩
  · intro k t e
    by_cases hk : k < res.length
    · rw [List.getElem?_append_left hk] at e
      rw [List.take_append_of_le_length (by omega)]
      exact T.fre k t e
    · have hk2 : k = res.length := by
        have := (List.getElem?_eq_some_iff.mp e).1
        simp at this; omega
      subst hk2
      rw [List.getElem?_append_right (by omega)] at e
      simp at e
      rw [List.take_append_of_le_length (by omega), List.take_length, ← hL, hc, e]
theorem told_run {rows : List (List Int)} : ∀ (n : Nat) (res : List Int) (ss : List (List Int)) (told : List Int), Told rows res ss → c3Run n res ss = some (some told) → ∃ ss', Told rows told ss' ∧ c3Keep ss' = []
  | 0, _, _, _, _, h => by simp [c3Run] at h
  | n + 1, res, ss, told, T, h => by
    unfold c3Run at h
    split at h
    · rename_i he
      cases h
      exact ⟨ss, T, by simpa using he⟩
    · split at h
      · simp at h
      · rename_i c hc
        exact told_run n _ _ told (told_step T hc) h
theorem plain_run {rows : List (List Int)} (hb : In8 rows) {n : Nat} {told : List Int} (h : c3Run n [] rows = some (some told)) : Plain rows told := by
  have T0 : Told rows [] rows := by
    refine ⟨?_, ?_, .nil, by simp, by simp⟩
    · congr 1
      exact ((List.map_congr_left fun row _ => flt_nil row).trans (List.map_id _)).symm
    · intro row _; rw [flt_nil]; rfl
  obtain ⟨ss', T, hend⟩ := told_run n [] rows told T0 h
  have hf : ∀ row ∈ rows, flt told row = [] := by
    intro row hr
    refine Classical.byContradiction fun hne => ?_
    have : flt told row ∈ c3Keep ss' := by rw [T.keep]; exact keep_mem.mpr ⟨List.mem_map_of_mem hr, hne⟩
    rw [hend] at this; simp at this
  have ord : ∀ row ∈ rows, told.filter (fun x => row.contains x) = row := fun row hr => by
    have := T.ord row hr
    rw [hf row hr, List.append_nil] at this; exact this
  have sub : ∀ row ∈ rows, ∀ x ∈ row, x ∈ told := fun row hr x hx => by
    rw [← ord row hr] at hx; exact (List.mem_filter.mp hx).1
  let RHS : List Int := ((List.range 7).map fun i => (1 + (i : Nat) : Int)).filter fun x => !(rows.filter fun row => row.contains x).isEmpty
  have pw : RHS.Pairwise (· < ·) := by
    refine List.Pairwise.filter _ ?_
    decide
  have rnd : RHS.Nodup := pw.imp fun q e => by subst e; exact Int.lt_irrefl _ q
  have rmem : ∀ x, x ∈ told ↔ x ∈ RHS := by
    intro x
    have hR : x ∈ RHS ↔ (1 ≤ x ∧ x < 8) ∧ ∃ row ∈ rows, x ∈ row := by
      have h1 : x ∈ ((List.range 7).map fun i => (1 + (i : Nat) : Int)) ↔ (1 ≤ x ∧ x < 8) := by
        rw [List.mem_map]
        constructor
        · rintro ⟨i, hi, rfl⟩
          have := List.mem_range.mp hi; omega
        · intro q; exact ⟨(x - 1).toNat, List.mem_range.mpr (by omega), by omega⟩
      have h2 : (!(rows.filter fun row => row.contains x).isEmpty) = true ↔ ∃ row ∈ rows, x ∈ row := by
        simp
      exact List.mem_filter.trans (and_congr h1 h2)
    rw [hR]
    constructor
    · intro hx
      obtain ⟨row, hr, hm⟩ := T.mem x hx
      exact ⟨hb row hr x hm, row, hr, hm⟩
    · rintro ⟨_, row, hr, hm⟩; exact sub row hr x hm
  have pm : told.Perm RHS := (List.perm_ext_iff_of_nodup T.nd rnd).mpr rmem
  refine ⟨?_, ord, ?_, ?_, ?_⟩
  · intro ns p q
    exact List.Perm.eq_of_pairwise (le := (· ≤ ·)) (fun a b _ _ h1 h2 => Int.le_antisymm h1 h2) q (pw.imp fun h => Int.le_of_lt h) (p.trans pm)
  · intro k t e
    rw [free_cand]
    have e2 : leftOf rows told k = c3Keep (rows.map (flt (told.take k))) := by
      unfold leftOf
      show c3Keep _ = _
      congr 1
      refine List.map_congr_left fun row hr => List.filter_congr fun x hx => ?_
      have hxt := sub row hr x hx
      have nd := T.nd
      rw [← List.take_append_drop k told] at hxt nd
      rw [Bool.eq_iff_iff]
      simp only [List.contains_iff_mem, Bool.not_eq_true', Bool.eq_false_iff, ne_eq]
      constructor
      · intro h1 h2; exact (List.nodup_append.mp nd).2.2 x h2 x h1 rfl
      · intro h1
        rcases List.mem_append.mp hxt with q | q
        · exact absurd q h1
        · exact q
    rw [e2]; exact T.fre k t e
  · refine no_ring hb T.nd fun row hr => ?_
    rw [← ord row hr]; exact List.filter_sublist
  · have h1 := pm.length_eq
    have h2 : RHS.length ≤ 7 := by
      refine Nat.le_trans (List.length_filter_le _ _) ?_
      simp
    omega

/-- all that the walk asks of the rows -/
theorem all_plain (ns : List Int) (h : ns.length ≤ 63) : ∃ N OUT, N ≤ 2 ^ 20 ∧ c3Run N [] (rowsOf ns) = some OUT ∧ (∀ told, OUT = some told → Plain (rowsOf ns) told) ∧ (OUT = none → ringOf (rowsOf ns) = true) := by
  obtain ⟨hb, hl, hn⟩ := rowsOf_ok h
  have hlen := lenAll_le (rowsOf ns) hl
  obtain ⟨O, hO⟩ := run_ends 4097 [] (rowsOf ns) (by omega)
  refine ⟨4097, O, by decide, hO, ?_, ?_⟩
  · rintro told rfl; exact plain_run hb hO
  · rintro rfl
    exact run_none hb _ _ _ (fun s hs => ⟨s, hs, List.suffix_refl s⟩) hO
end C3P

/-! part C3Join -/
namespace C3P
open PySem PySem.W PyProof.Rows PySem.Calls

theorem defAt_of {p : Program} {loose : List Str} {mean : ExcName → Option Value} {mg mb : Str → Option Value} {h : Heap} (T : Top p loose mean mg mb h) {n : Str} {st : Stmt} {pos : Pos}
    (hf : (recsOf p).find? (fun d => d.name == n) = some ⟨n, fArgs st, fBody st, fScope st, pos⟩) : DefAt h mg n st :=
  T.fn _ (List.mem_of_find?_eq_some hf)

theorem wd_of_top {p : Program} {loose : List Str} {mean : ExcName → Option Value} {mg mb : Str → Option Value} {h : Heap} (T : Top p loose mean mg mb h) {p1 p2 p3 : Pos}
    (h1 : (recsOf p).find? (fun d => d.name == ("_law_rows" : Str)) = some ⟨"_law_rows", fArgs rowsS, fBody rowsS, fScope rowsS, p1⟩)
    (h2 : (recsOf p).find? (fun d => d.name == ("_c3_merge" : Str)) = some ⟨"_c3_merge", fArgs c3S, fBody c3S, fScope c3S, p2⟩)
    (h3 : (recsOf p).find? (fun d => d.name == ("_law_has_ring" : Str)) = some ⟨"_law_has_ring", fArgs ringS, fBody ringS, fScope ringS, p3⟩)
    (hn : ∀ x ∈ (["range", "len", "list", "sorted", "RuntimeError"] : List Str), x ∉ startupNames ∧ x ∉ loose ∧ x ∉ (recsOf p).map (·.name) ∧ x ∉ (litsOf p).map (·.1) ∧ x ∉ (clssOf p loose).map (·.name)) : Wd h := by
  have hfree : ∀ x ∈ (["range", "len", "list", "sorted", "RuntimeError"] : List Str), mg x = none := fun x hx => let ⟨a, b, c, d, e⟩ := hn x hx; T.free x a b c d e
  refine ⟨⟨mg, mb, T.g, T.b, defAt_of T h1, defAt_of T h2, defAt_of T h3, ⟨hfree _ (by decide), hfree _ (by decide), hfree _ (by decide), hfree _ (by decide), hfree _ (by decide)⟩, ?_⟩, T.nolimit⟩
  refine ⟨?_, ?_, ?_, ?_, ?_⟩ <;> (rw [T.builtins _ (by decide)]; decide +kernel)

section
variable {prog : Program} {w : World} {A : Around} {s : Shared}
/-- the law, called -/
theorem law_call {f : Addr} {o : Obj} {pm cd doc : Value} {l : Addr} {vs : List Value} {ns : List Int} (ho : s.heap.get? f = some o) (hd : o.data = .func (docDef "law" (fArgs lawS) (fBody lawS) (fScope lawS) pm cd doc)) (hcd : s.heap.CodeRec cd "law")
    (W0 : Wd s.heap) (hroom : A.depth + 4 < recursionLimit) (hu : A.units + 40 < cLine) (hh : A.handled = none) (hfr : A.frames = some []) (hl : s.heap.IsList l vs.toArray) (hi : All2 (fun d y => RInt d y s.heap) ns vs) (hlen : ns.length ≤ 63)
    {Q : Result → Shared → Prop} (k : ∀ h tk, s.heap.StaysIn h → Q (.ok (.ret (.bool true))) { s with heap := h, toks := tk }) :
    codeAny (model prog w) A (.call (.ref f) ⟨[.ref l], []⟩) Q s := by
  obtain ⟨hb, hrl, hrn⟩ := rowsOf_ok hlen
  obtain ⟨N, OUT, hN, hrun, hp, hq⟩ := all_plain ns hlen
  refine codeAny_call_function (by omega) ho hd rfl rfl rfl hcd ?_
  refine BindsTo.of_eq (s := s) (binds := [("script", .ref l)]) rfl _ _ _ _ ?_
  refine wpAny_newFunctionEnv_cells rfl (by intro x hx; rw [List.mem_singleton.mp hx]; exact .inl rfl) fun env' he s' x => ?_
  subst he
  obtain ⟨h₁, tk, rfl, hk⟩ := x.toInCall.done
  refine ⟨W0.nl.keeps hk, codeAny_func ?_⟩
  have k1 : h₁.IsCell (s.heap.objs.size + 1) none := x.cell "rows" _ rfl
  have k2 : h₁.IsCell (s.heap.objs.size + 2) none := x.cell "row" _ rfl
  have k3 : h₁.IsCell (s.heap.objs.size + 3) none := x.cell "told" _ rfl
  have k4 : h₁.IsCell (s.heap.objs.size + 4) none := x.cell "k" _ rfl
  have k5 : h₁.IsCell (s.heap.objs.size + 5) none := x.cell "left" _ rfl
  refine law_body (A := A.deeper (lenv cd f s.heap.objs.size)) (h₀ := s.heap) (L := s.heap.objs.size) (a := f) (cd := cd) (N := N) (OUT := OUT) hk hh W0 ?_ ?_ ?_ x.toInCall.ns (Nat.le_refl _) rfl hl hi hlen k1 k2 k3 k4 k5 hb hrl hrn hN hrun hp hq fun h tk st => ?_
  · show A.depth + 1 + 3 < recursionLimit
    omega
  · have hz : A.units + 40 < cLine := hu
    show A.units + 3 + 20 < cLine
    omega
  · show A.frames.map _ = _
    rw [hfr]; rfl
  exact k h tk st
end
end C3P

open PySem PySem.W PyProof.Rows
set_option maxRecDepth 100000 in
set_option maxHeartbeats 8000000 in
theorem PySem.Challenge.cw_ko0026_01_holds : PySem.Challenge.rw_ko0026_01.Holds := by
  w_on; o_law; k_head; (case hw => w_witness2)
  k_fill
  intro w s₀ s₁ mg mb G Y fa o pm cd doc dV kV ho hd hcd hD hmg hg args vals as hpre hlay hrd hwl hlo
  have X := (Ground.X G).1
  refine Ground.open G ?_
  intro T B D TE TW
  have W0 : C3P.Wd s₁.heap := by
    refine C3P.wd_of_top T rfl rfl rfl ?_
    decide +kernel
  obtain ⟨fa', o', pm', cd', doc', hmg', ho', hd', hcd'⟩ : C3P.DefAt s₁.heap mg "law" C3P.lawS := C3P.defAt_of T rfl
  have hfa : fa = fa' := by rw [hmg'] at hmg; cases hmg; rfl
  subst hfa
  clear hmg hmg' ho hd hcd hD Y G X T B D TE TW
  wrow_args hpre hlay hrd hwl hlo
  refine enter_call ?_
  rename_i ns _ _ _ _ _ _ _ l vs _ hL _ _ _ hI _ hc _
  refine C3P.law_call (ns := ns) ho' hd' hcd' W0 (by decide) (by decide) rfl rfl hL (C3P.of_intsAre hI) (by omega) fun h tk st => ?_
  refine GoodW.toG ⟨.inl ⟨.bool true, .bool true, [], rfl, raisesW_false ?_, .bool true, ?_, unshared_nil⟩, st, rfl, hg⟩
  · wrow_none_raised
  · wrow_post
