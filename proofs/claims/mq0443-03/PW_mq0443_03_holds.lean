import PyProof.Rows.All
import Wide.All
import OpenK.AllK
import Wide.FinOn
import Lean
import PySem.Challenge.RW_mq0443_03
set_option Elab.async false
section
open PySem PySem.W PyProof.Rows
namespace Mine

/-- everything that lived lives on, unchanged -/
def HK (h h' : Heap) : Prop := ∀ b o, h.get? b = some o → h'.get? b = some o
/-- the same, but for a set of places -/
def HKW (W : Addr → Prop) (h h' : Heap) : Prop := ∀ b o, ¬ W b → h.get? b = some o → h'.get? b = some o
def Live (h : Heap) (a : Addr) : Prop := ∃ o, h.get? a = some o

theorem HK.refl (h : Heap) : HK h h := fun _ _ e => e
theorem HK.trans {a b c : Heap} (x : HK a b) (y : HK b c) : HK a c := fun _ _ e => y _ _ (x _ _ e)
theorem HK.push (h : Heap) (o : Obj) : HK h (h.push o) := fun _ _ e => Heap.get?_push_of_some o e
theorem HK.w {h h' : Heap} (x : HK h h') (W : Addr → Prop) : HKW W h h' := fun _ _ _ e => x _ _ e
theorem HKW.trans {W : Addr → Prop} {a b c : Heap} (x : HKW W a b) (y : HKW W b c) : HKW W a c := fun _ _ n e => y _ _ n (x _ _ n e)
theorem Live.hk {h h' : Heap} {a : Addr} (x : Live h a) (k : HK h h') : Live h' a := let ⟨o, e⟩ := x; ⟨o, k _ _ e⟩
theorem HK.of_same {h h' : Heap} {a : Addr} (x : Heap.SameBut a h h') : HKW (· = a) h h' := fun _ _ n e => (x.2 _ n).trans e

mutual
/-- v stands for d in h, by places outside X -/
inductive Rep (X : Addr → Prop) (h : Heap) : Value → PyData → Prop
  | none : Rep X h .none .none
  | bool (b) : Rep X h (.bool b) (.bool b)
  | int (i t) : Rep X h (.int i t) (.int i)
  | str (x t) : Rep X h (.str x t) (.str x)
  | list {a o vs n xs} : h.get? a = some o → o.cls = .type "list" → o.data = .seq vs n → ¬ X a → Reps X h vs.toList xs → Rep X h (.ref a) (.list xs)
  | tuple {a o vs n xs} : h.get? a = some o → o.cls = .type "tuple" → o.data = .seq vs n → ¬ X a → Reps X h vs.toList xs → Rep X h (.ref a) (.tuple xs)
inductive Reps (X : Addr → Prop) (h : Heap) : List Value → List PyData → Prop
  | nil : Reps X h [] []
  | cons {v vs d ds} : Rep X h v d → Reps X h vs ds → Reps X h (v :: vs) (d :: ds)
end

mutual
theorem Rep.keepW {X Y : Addr → Prop} {h h' : Heap} (hk : HKW X h h') (hY : ∀ a, Y a → X a) : ∀ {v d}, Rep X h v d → Rep Y h' v d
  | _, _, .none => .none
  | _, _, .bool b => .bool b
  | _, _, .int i t => .int i t
  | _, _, .str x t => .str x t
  | _, _, .list e c d n r => .list (hk _ _ n e) c d (fun y => n (hY _ y)) (Reps.keepW hk hY r)
  | _, _, .tuple e c d n r => .tuple (hk _ _ n e) c d (fun y => n (hY _ y)) (Reps.keepW hk hY r)
theorem Reps.keepW {X Y : Addr → Prop} {h h' : Heap} (hk : HKW X h h') (hY : ∀ a, Y a → X a) : ∀ {vs ds}, Reps X h vs ds → Reps Y h' vs ds
  | _, _, .nil => .nil
  | _, _, .cons r rs => .cons (Rep.keepW hk hY r) (Reps.keepW hk hY rs)
end
theorem Rep.keep {X : Addr → Prop} {h h' : Heap} {v d} (r : Rep X h v d) (hk : HK h h') : Rep X h' v d := r.keepW (hk.w X) fun _ x => x
theorem Reps.keep {X : Addr → Prop} {h h' : Heap} {v d} (r : Reps X h v d) (hk : HK h h') : Reps X h' v d := r.keepW (hk.w X) fun _ x => x
theorem Rep.less {X Y : Addr → Prop} {h : Heap} {v d} (r : Rep X h v d) (hY : ∀ a, Y a → X a) : Rep Y h v d := r.keepW (fun _ _ _ e => e) hY
theorem Reps.less {X Y : Addr → Prop} {h : Heap} {v d} (r : Reps X h v d) (hY : ∀ a, Y a → X a) : Reps Y h v d := r.keepW (fun _ _ _ e => e) hY

mutual
/-- new dirty places that were not yet alive do no harm -/
theorem Rep.more {X Y : Addr → Prop} {h : Heap} (hY : ∀ a, Live h a → Y a → X a) : ∀ {v d}, Rep X h v d → Rep Y h v d
  | _, _, .none => .none
  | _, _, .bool b => .bool b
  | _, _, .int i t => .int i t
  | _, _, .str x t => .str x t
  | _, _, .list e c d n r => .list e c d (fun y => n (hY _ ⟨_, e⟩ y)) (Reps.more hY r)
  | _, _, .tuple e c d n r => .tuple e c d (fun y => n (hY _ ⟨_, e⟩ y)) (Reps.more hY r)
theorem Reps.more {X Y : Addr → Prop} {h : Heap} (hY : ∀ a, Live h a → Y a → X a) : ∀ {vs ds}, Reps X h vs ds → Reps Y h vs ds
  | _, _, .nil => .nil
  | _, _, .cons r rs => .cons (Rep.more hY r) (Reps.more hY rs)
end

mutual
theorem Rep.reads {X : Addr → Prop} {h : Heap} : ∀ {v d}, Rep X h v d → ∃ as, Reads h v d as
  | _, _, .none => ⟨_, .none⟩
  | _, _, .bool b => ⟨_, .bool b⟩
  | _, _, .int i t => ⟨_, .int i t⟩
  | _, _, .str x t => ⟨_, .str x t⟩
  | _, _, .list e c d _ r => let ⟨_, r'⟩ := Reps.reads r; ⟨_, .list e c d r'⟩
  | _, _, .tuple e c d _ r => let ⟨_, r'⟩ := Reps.reads r; ⟨_, .tuple e c d r'⟩
theorem Reps.reads {X : Addr → Prop} {h : Heap} : ∀ {vs ds}, Reps X h vs ds → ∃ as, ReadsAll h vs ds as
  | _, _, .nil => ⟨_, .nil⟩
  | _, _, .cons r rs => let ⟨_, r'⟩ := Rep.reads r; let ⟨_, rs'⟩ := Reps.reads rs; ⟨_, .cons r' rs'⟩
end

theorem Reps.length {X : Addr → Prop} {h : Heap} : ∀ {vs ds}, Reps X h vs ds → vs.length = ds.length
  | _, _, .nil => rfl
  | _, _, .cons _ r => by simp [r.length]
theorem Reps.get {X : Addr → Prop} {h : Heap} : ∀ {vs ds} (i : Nat) {d : PyData}, Reps X h vs ds → ds[i]? = some d → ∃ v, vs[i]? = some v ∧ Rep X h v d
  | _, _, _, _, .nil, e => by simp at e
  | _, _, 0, _, .cons r _, e => by simp at e; subst e; exact ⟨_, rfl, r⟩
  | _, _, i + 1, _, .cons _ rs, e => by
    obtain ⟨v, hv, hr⟩ := rs.get i (by simpa using e)
    exact ⟨v, by simpa using hv, hr⟩
theorem Reps.append {X : Addr → Prop} {h : Heap} : ∀ {vs ds us es}, Reps X h vs ds → Reps X h us es → Reps X h (vs ++ us) (ds ++ es)
  | _, _, _, _, .nil, r => r
  | _, _, _, _, .cons a b, r => .cons a (b.append r)
theorem Reps.take {X : Addr → Prop} {h : Heap} : ∀ {vs ds} (n : Nat), Reps X h vs ds → Reps X h (vs.take n) (ds.take n)
  | _, _, 0, _ => by simpa using Reps.nil
  | _, _, _ + 1, .nil => by simpa using Reps.nil
  | _, _, n + 1, .cons a b => by simpa using Reps.cons a (b.take n)
theorem Reps.drop {X : Addr → Prop} {h : Heap} : ∀ {vs ds} (n : Nat), Reps X h vs ds → Reps X h (vs.drop n) (ds.drop n)
  | _, _, 0, r => by simpa using r
  | _, _, _ + 1, .nil => by simpa using Reps.nil
  | _, _, n + 1, .cons _ b => by simpa using b.drop n
theorem Reps.reverse {X : Addr → Prop} {h : Heap} {vs ds} (r : Reps X h vs ds) : Reps X h vs.reverse ds.reverse := by
  induction vs generalizing ds with
  | nil => cases r; exact .nil
  | cons v vs ih => cases r with | cons a b => simpa using (ih b).append (.cons a .nil)
abbrev ils (ns : List Int) : List PyData := ns.map PyData.int
theorem Reps.intsAre {X : Addr → Prop} {h : Heap} : ∀ {vs : List Value} {ns : List Int}, Reps X h vs (ils ns) → IntsAre vs ns
  | _, [], .nil => .nil
  | _, n :: ns, .cons (.int _ t) r => .cons n t r.intsAre
theorem IntsAre.reps {X : Addr → Prop} {h : Heap} : ∀ {vs : List Value} {ns : List Int}, IntsAre vs ns → Reps X h vs (ils ns)
  | _, _, .nil => .nil
  | _, _, .cons n t r => .cons (.int n t) (IntsAre.reps r)
theorem Rep.isList {X : Addr → Prop} {h : Heap} {v xs} (r : Rep X h v (.list xs)) : ∃ a vs, v = .ref a ∧ h.IsList a vs ∧ ¬ X a ∧ Reps X h vs.toList xs := by
  cases r with | list e c d n r => exact ⟨_, _, rfl, ⟨_, e, c, _, d⟩, n, r⟩
theorem rep_list {X : Addr → Prop} {h : Heap} {a : Addr} {vs : Array Value} {xs} (hl : h.IsList a vs) (n : ¬ X a) (r : Reps X h vs.toList xs) : Rep X h (.ref a) (.list xs) :=
  let ⟨_, e, c, _, d⟩ := hl; .list e c d n r
theorem Rep.isTuple {X : Addr → Prop} {h : Heap} {v xs} (r : Rep X h v (.tuple xs)) : ∃ a o vs n, v = .ref a ∧ h.get? a = some o ∧ o.cls = .type "tuple" ∧ o.data = .seq vs n ∧ ¬ X a ∧ Reps X h vs.toList xs := by
  cases r with | tuple e c d n r => exact ⟨_, _, _, _, rfl, e, c, d, n, r⟩

/-- what a step may change: new places, new generators, numbers -/
structure Kp (s s' : Shared) : Prop where
  heap : HK s.heap s'.heap
  gens : ∀ (i : Nat) (g : GenState), s.gens[i]? = some g → s'.gens[i]? = some g
  bare : AllBare s.gens → AllBare s'.gens
  os : s'.os = s.os
theorem Kp.refl (s : Shared) : Kp s s := ⟨.refl _, fun _ _ e => e, id, rfl⟩
theorem Kp.trans {a b c : Shared} (x : Kp a b) (y : Kp b c) : Kp a c := ⟨x.heap.trans y.heap, fun i g e => y.gens i g (x.gens i g e), fun e => y.bare (x.bare e), y.os.trans x.os⟩
theorem Kp.ht {s : Shared} {h' : Heap} {tk : Nat} (k : HK s.heap h') : Kp s { s with heap := h', toks := tk } := ⟨k, fun _ _ e => e, id, rfl⟩
theorem Kp.h {s : Shared} {h' : Heap} (k : HK s.heap h') : Kp s { s with heap := h' } := ⟨k, fun _ _ e => e, id, rfl⟩
theorem Kp.t {s : Shared} {tk : Nat} : Kp s { s with toks := tk } := ⟨.refl _, fun _ _ e => e, id, rfl⟩
theorem Kp.push {s : Shared} {o : Obj} : Kp s { s with heap := s.heap.push o } := .h (.push _ _)

/-- the name x means v to a block whose env is env -/
def Loads (env : Env) (h : Heap) (x : Str) (v : Value) : Prop :=
  (env.kindOf x = some .local ∧ ∃ m, h.Ns env.locals m ∧ m x = some v) ∨
  ((env.kindOf x = some .cell ∨ env.kindOf x = some .free) ∧ ∃ c, env.cells.lookup x = some c ∧ h.IsCell c (some v))
theorem Loads.keep {env : Env} {h h' : Heap} {x : Str} {v : Value} (l : Loads env h x v) (k : HK h h') : Loads env h' x v := by
  rcases l with ⟨a, m, b, c⟩ | ⟨a, c, b, d⟩
  · exact .inl ⟨a, m, b.keeps k, c⟩
  · exact .inr ⟨a, c, b, d.keeps k⟩

abbrev Sto := Str → Option PyData
def Sto.set (σ : Sto) (x : Str) (d : PyData) : Sto := fun y => if y = x then some d else σ y

/-- what an expression may lean on -/
structure Pre (hz : Heap) (env : Env) (X : Addr → Prop) (σ : Sto) (s : Shared) : Prop where
  base : HK hz s.heap
  live : ∀ a, X a → Live s.heap a
  vars : ∀ x d, σ x = some d → ∃ v, Loads env s.heap x v ∧ Rep X s.heap v d
theorem Pre.kp {hz : Heap} {env : Env} {X : Addr → Prop} {σ : Sto} {s s' : Shared} (p : Pre hz env X σ s) (k : Kp s s') : Pre hz env X σ s' :=
  ⟨p.base.trans k.heap, fun a x => (p.live a x).hk k.heap, fun x d e => let ⟨v, l, r⟩ := p.vars x d e; ⟨v, l.keep k.heap, r.keep k.heap⟩⟩
theorem Pre.fresh {hz : Heap} {env : Env} {X : Addr → Prop} {σ : Sto} {s : Shared} (p : Pre hz env X σ s) {a : Addr} (h : s.heap.get? a = none) : ¬ X a := fun x => by
  obtain ⟨o, e⟩ := p.live a x; rw [h] at e; cases e

section
variable (prog : Program) (w : World) (hz : Heap) (A : Around) (env : Env) (σ : Sto)
/-- the expression e yields d -/
def EV (e : Expr) (d : PyData) : Prop :=
  ∀ (X : Addr → Prop) (s : Shared) (E : Value → Shared → Prop), Pre hz env X σ s → wpAny (model prog w) A (eval e env) (fun v s' => Rep X s'.heap v d ∧ Kp s s') E s
/-- the test e comes out as b -/
def EB (e : Expr) (b : Bool) : Prop :=
  ∀ (X : Addr → Prop) (s : Shared) (E : Value → Shared → Prop), Pre hz env X σ s → wpAny (model prog w) A (isTrue e env (eval e env)) (fun b' s' => b' = b ∧ Kp s s') E s
/-- the expressions es yield ds, one after the other -/
def EVs (es : List Expr) (ds : List PyData) : Prop :=
  ∀ (pos : Pos) (X : Addr → Prop) (s : Shared) (E : Value → Shared → Prop), Pre hz env X σ s → wpAny (model prog w) A (spliced (backTo pos (starEach es env))) (fun vs s' => Reps X s'.heap vs ds ∧ Kp s s') E s
end

section
variable {prog : Program} {w : World} {hz : Heap} {A : Around} {env : Env} {σ : Sto}

theorem EV.use {e : Expr} {d : PyData} (h : EV prog w hz A env σ e d) {X : Addr → Prop} {s : Shared} {E : Value → Shared → Prop} {Q : Value → Shared → Prop} (p : Pre hz env X σ s)
    (q : ∀ v s', Rep X s'.heap v d → Kp s s' → Pre hz env X σ s' → Q v s') : wpAny (model prog w) A (eval e env) Q E s :=
  wpAny_mono (h X s E p) (fun v s' x => q v s' x.1 x.2 (p.kp x.2)) fun _ _ e => e
theorem EB.use {e : Expr} {b : Bool} (h : EB prog w hz A env σ e b) {X : Addr → Prop} {s : Shared} {E : Value → Shared → Prop} {Q : Bool → Shared → Prop} (p : Pre hz env X σ s)
    (q : ∀ s', Kp s s' → Pre hz env X σ s' → Q b s') : wpAny (model prog w) A (isTrue e env (eval e env)) Q E s :=
  wpAny_mono (h X s E p) (fun v s' x => x.1 ▸ q s' x.2 (p.kp x.2)) fun _ _ e => e
theorem EVs.use {es : List Expr} {ds : List PyData} (h : EVs prog w hz A env σ es ds) {pos : Pos} {X : Addr → Prop} {s : Shared} {E : Value → Shared → Prop} {Q : List Value → Shared → Prop} (p : Pre hz env X σ s)
    (q : ∀ vs s', Reps X s'.heap vs ds → Kp s s' → Pre hz env X σ s' → Q vs s') : wpAny (model prog w) A (spliced (backTo pos (starEach es env))) Q E s :=
  wpAny_mono (h pos X s E p) (fun v s' x => q v s' x.1 x.2 (p.kp x.2)) fun _ _ e => e

theorem ev_name {x : Str} {pos : Pos} {d : PyData} (hs : σ x = some d) (hk : env.scope.kind = .function := by rfl) (hd : (x == ("__debug__" : Str)) = false := by decide)
    (hn : (x == ("__classdict__" : Str)) = false := by decide) : EV prog w hz A env σ (.Name x pos) d := by
  intro X s E p
  obtain ⟨v, l, r⟩ := p.vars x d hs
  refine wpAny_Name ?_ hd
  rcases l with ⟨a, m, b, c⟩ | ⟨a | a, c, b, e⟩
  · exact wpAny_loadName_local hk a b c ⟨r, .refl _⟩
  · exact wpAny_loadName_cell hk a b e ⟨r, .refl _⟩
  · exact wpAny_loadName_free hk a b e ⟨r, .refl _⟩ hn
theorem ev_int {i : Int} {k : Nat} {pos : Pos} : EV prog w hz A env σ (.Constant (.int i) k pos) (.int i) := fun _ _ _ _ => wpAny_Constant_int ⟨.int _ _, .t⟩
theorem ev_none {k : Nat} {pos : Pos} : EV prog w hz A env σ (.Constant .none k pos) .none := fun _ _ _ _ => wpAny_Constant_none ⟨.none, .refl _⟩
theorem ev_bool {b : Bool} {k : Nat} {pos : Pos} : EV prog w hz A env σ (.Constant (.bool b) k pos) (.bool b) := fun _ _ _ _ => wpAny_Constant_bool ⟨.bool _, .refl _⟩
theorem ev_str {x : Str} {k : Nat} {pos : Pos} : EV prog w hz A env σ (.Constant (.str x) k pos) (.str x) := fun _ _ _ _ => wpAny_Constant_str ⟨.str _ _, .t⟩

theorem evs_nil : EVs prog w hz A env σ [] [] := fun _ _ _ _ _ => wpAny_items_nil ⟨.nil, .refl _⟩
theorem evs_cons {e : Expr} {es : List Expr} {d : PyData} {ds : List PyData} (h : EV prog w hz A env σ e d) (hs : EVs prog w hz A env σ es ds)
    (he : starEach (e :: es) env = (false, eval e env) :: starEach es env := by rfl) : EVs prog w hz A env σ (e :: es) (d :: ds) := by
  intro pos X s E p
  refine wpAny_items_cons (h.use p fun v s' r k p' => hs.use p' fun vs s'' rs k' _ => ⟨.cons (r.keep k'.heap) rs, k.trans k'⟩) he
theorem ev_list {es : List Expr} {ds : List PyData} {pos : Pos} (h : EVs prog w hz A env σ es ds) (hn : ds.length ≤ sizeLine := by (first | decide | simp [sizeLine])) : EV prog w hz A env σ (.List es pos) (.list ds) := by
  intro X s E p
  refine wpAny_List (h.use p fun vs s' r k p' => ⟨by rw [r.length]; exact hn, ?_, k.trans .push⟩)
  refine .list (Heap.get?_push_size _ rfl) rfl rfl (p'.fresh ?_) (by simpa using r.keep (.push _ _))
  cases e : s'.heap.get? s'.heap.objs.size with
  | none => rfl
  | some o => exact absurd (Heap.lt_size e) (Nat.lt_irrefl _)
theorem ev_tuple {es : List Expr} {ds : List PyData} {kk : Nat} {pos : Pos} (h : EVs prog w hz A env σ es ds) (hn : ds.length ≤ sizeLine := by (first | decide | simp [sizeLine])) : EV prog w hz A env σ (.Tuple es kk pos) (.tuple ds) := by
  intro X s E p
  refine wpAny_Tuple (h.use p fun vs s' r k p' => ⟨by rw [r.length]; exact hn, ?_, k.trans .push⟩)
  refine .tuple (Heap.get?_push_size _ rfl) rfl rfl (p'.fresh ?_) (by simpa using r.keep (.push _ _))
  cases e : s'.heap.get? s'.heap.objs.size with
  | none => rfl
  | some o => exact absurd (Heap.lt_size e) (Nat.lt_irrefl _)
end
end Mine
end

section
open PySem PySem.W PyProof.Rows
namespace Mine
section
variable {prog : Program} {w : World} {hz : Heap} {A : Around} {env : Env} {σ : Sto}

/-- an operation on two data: what it gives, from any state -/
def Op2 (prog : Program) (w : World) (hz : Heap) (A : Around) (f : Value → Value → Sem Value) (d₁ d₂ d : PyData) : Prop :=
  ∀ (X : Addr → Prop) (s : Shared) (E : Value → Shared → Prop) (v u : Value), HK hz s.heap → (∀ a, X a → Live s.heap a) → Rep X s.heap v d₁ → Rep X s.heap u d₂ →
    wpAny (model prog w) A (f v u) (fun r s' => Rep X s'.heap r d ∧ Kp s s') E s

theorem ev_bin {a b : Expr} {op : Operator} {pos : Pos} {d₁ d₂ d : PyData} (ha : EV prog w hz A env σ a d₁) (hb : EV prog w hz A env σ b d₂)
    (ho : Op2 prog w hz A (binaryOp op) d₁ d₂ d) : EV prog w hz A env σ (.BinOp a op b pos) d := by
  intro X s E p
  refine wpAny_BinOp (ha.use p fun v s₁ r k p₁ => hb.use p₁ fun u s₂ r' k' p₂ => ?_)
  exact wpAny_mono (ho X s₂ E v u p₂.base p₂.live (r.keep k'.heap) r') (fun x s₃ h => ⟨h.1, (k.trans k').trans h.2⟩) fun _ _ e => e
theorem ev_cmp {a b : Expr} {op : CmpOp} {pos : Pos} {d₁ d₂ d : PyData} (ha : EV prog w hz A env σ a d₁) (hb : EV prog w hz A env σ b d₂)
    (ho : Op2 prog w hz A (compareOp op) d₁ d₂ d) (hm : behindInMarks op b = false := by with_unfolding_all rfl) : EV prog w hz A env σ (.Compare a [op] [b] pos) d := by
  intro X s E p
  refine wpAny_Compare1 (ha.use p fun v s₁ r k p₁ => hb.use p₁ fun u s₂ r' k' p₂ => ?_) hm
  exact wpAny_mono (ho X s₂ E v u p₂.base p₂.live (r.keep k'.heap) r') (fun x s₃ h => ⟨h.1, (k.trans k').trans h.2⟩) fun _ _ e => e
theorem eb_cmp {a b : Expr} {op : CmpOp} {pos : Pos} {d₁ d₂ : PyData} {t : Bool} (ha : EV prog w hz A env σ a d₁) (hb : EV prog w hz A env σ b d₂)
    (ho : Op2 prog w hz A (compareOp op) d₁ d₂ (.bool t)) (hm : behindInMarks op b = false := by with_unfolding_all rfl) : EB prog w hz A env σ (.Compare a [op] [b] pos) t := by
  intro X s E p
  refine wpAny_isTrue_Compare1 (ha.use p fun v s₁ r k p₁ => hb.use p₁ fun u s₂ r' k' p₂ => ?_) hm
  refine wpAny_mono (ho X s₂ E v u p₂.base p₂.live (r.keep k'.heap) r') (fun x s₃ h => ?_) fun _ _ e => e
  obtain ⟨h1, h2⟩ := h
  cases h1
  exact wpAny_truthy_bool ⟨rfl, (k.trans k').trans h2⟩

section ops
variable {x y : Int}
theorem op_add : Op2 prog w hz A (binaryOp .Add) (.int x) (.int y) (.int (x + y)) := by
  intro X s E v u _ _ r r'; cases r; cases r'; exact PyProof.Rows.add_int ⟨.int _ _, .t⟩
theorem op_sub : Op2 prog w hz A (binaryOp .Sub) (.int x) (.int y) (.int (x - y)) := by
  intro X s E v u _ _ r r'; cases r; cases r'; exact PyProof.Rows.sub_int ⟨.int _ _, .t⟩
theorem op_mul (hm : IntMulOk x y) : Op2 prog w hz A (binaryOp .Mult) (.int x) (.int y) (.int (x * y)) := by
  intro X s E v u _ _ r r'; cases r; cases r'; exact PySem.P.mul_int ⟨.int _ _, .t⟩ hm
theorem op_mod (hy : y ≠ 0) : Op2 prog w hz A (binaryOp .Mod) (.int x) (.int y) (.int (x.fmod y)) := by
  intro X s E v u _ _ r r'; cases r; cases r'; exact PyProof.Rows.mod_int' hy ⟨.int _ _, .t⟩
theorem op_div (hy : y ≠ 0) (hs : y.natAbs < 1073741824) : Op2 prog w hz A (binaryOp .FloorDiv) (.int x) (.int y) (.int (x.fdiv y)) := by
  intro X s E v u _ _ r r'; cases r; cases r'; exact PyProof.Rows.floordiv_int hy ⟨.int _ _, .t⟩ (.inl (PyProof.noPylong_small hs))
theorem op_pow (h0 : 0 ≤ y) (h1 : y ≤ 1000000) (hx : x.natAbs < 2 ^ 64) : Op2 prog w hz A (binaryOp .Pow) (.int x) (.int y) (.int (x ^ y.toNat)) := by
  intro X s E v u _ _ r r'; cases r; cases r'; exact PyProof.Rows.pow_int_small h0 h1 hx ⟨.int _ _, .t⟩
theorem op_eq : Op2 prog w hz A (compareOp .Eq) (.int x) (.int y) (.bool (x == y)) := by
  intro X s E v u _ _ r r'; cases r; cases r'; exact PyProof.Rows.eq_int ⟨.bool _, .refl _⟩
theorem op_ne : Op2 prog w hz A (compareOp .NotEq) (.int x) (.int y) (.bool (x != y)) := by
  intro X s E v u _ _ r r'; cases r; cases r'; exact PyProof.Rows.ne_int ⟨.bool _, .refl _⟩
theorem op_lt : Op2 prog w hz A (compareOp .Lt) (.int x) (.int y) (.bool (decide (x < y))) := by
  intro X s E v u _ _ r r'; cases r; cases r'; exact PyProof.Rows.lt_int ⟨.bool _, .refl _⟩
theorem op_le : Op2 prog w hz A (compareOp .LtE) (.int x) (.int y) (.bool (decide (x ≤ y))) := by
  intro X s E v u _ _ r r'; cases r; cases r'; exact PySem.P.le_int ⟨.bool _, .refl _⟩
theorem op_gt : Op2 prog w hz A (compareOp .Gt) (.int x) (.int y) (.bool (decide (x > y))) := by
  intro X s E v u _ _ r r'; cases r; cases r'; exact PySem.P.gt_int ⟨.bool _, .refl _⟩
theorem op_ge : Op2 prog w hz A (compareOp .GtE) (.int x) (.int y) (.bool (decide (x ≥ y))) := by
  intro X s E v u _ _ r r'; cases r; cases r'; exact PySem.P.ge_int ⟨.bool _, .refl _⟩
theorem op_is_none {d : PyData} : Op2 prog w hz A (compareOp .Is) d .none (.bool (match d with | .none => true | _ => false)) := by
  intro X s E v u _ _ r r'; cases r'
  refine is_none ?_
  cases r <;> exact ⟨.bool _, .refl _⟩
theorem op_cat {ds es : List PyData} (hn : ds.length + es.length ≤ sizeLine) : Op2 prog w hz A (binaryOp .Add) (.list ds) (.list es) (.list (ds ++ es)) := by
  intro X s E v u _ hX r r'
  cases r with
  | @list a o vs n _ e c d nx rs =>
    cases r' with
    | @list b o' us n' _ e' c' d' nx' rs' =>
      obtain ⟨cls, dd, data, sl⟩ := o
      obtain ⟨cls', dd', data', sl'⟩ := o'
      simp only at c d c' d'
      subst c d c' d'
      have l1 := rs.length; have l2 := rs'.length
      have hsz : vs.size + us.size ≤ sizeLine := by simpa [← l1, ← l2] using hn
      refine concat_meets ⟨_, e, rfl⟩ ⟨_, e', rfl⟩ noFill_list_add seq_list_add PySem.F.slot_list_add PySem.F.entry_list_add (PySem.F.args_list_add_2 _ _)
        (list_addW a b vs us n n' dd dd' sl sl' hsz) ⟨e, e', ?_, .ht (.push _ _)⟩
      refine .list (Heap.get?_push_size _ rfl) rfl rfl (fun hx => ?_) (by simpa using (rs.append rs').keep (.push _ _))
      obtain ⟨o, eo⟩ := hX _ hx
      exact absurd (Heap.lt_size eo) (Nat.lt_irrefl _)
theorem op_in_ints {ns : List Int} : Op2 prog w hz A (compareOp .In) (.int x) (.list (ils ns)) (.bool (ns.any (· == x))) := by
  intro X s E v u _ _ r r'; cases r
  obtain ⟨a, vs, rfl, hl, _, rs⟩ := r'.isList
  exact in_list_ints (vs := vs.toList) (by simpa using hl) rs.intsAre ⟨.bool _, .refl _⟩
theorem op_notin_tup {ns : List Int} : Op2 prog w hz A (compareOp .NotIn) (.int x) (.tuple (ils ns)) (.bool (!(ns.any (· == x)))) := by
  intro X s E v u _ _ r r'; cases r
  obtain ⟨a, o, vs, n, rfl, e, c, d, _, rs⟩ := r'.isTuple
  exact notin_tuple_ints ⟨o, e, c, n, d⟩ rs.intsAre ⟨.bool _, .refl _⟩
theorem op_eq_ints {ns ms : List Int} (hu : A.units + 64 < cLine) : Op2 prog w hz A (compareOp .Eq) (.list (ils ns)) (.list (ils ms)) (.bool (decide (ns = ms))) := by
  intro X s E v u _ _ r r'
  obtain ⟨a, vs, rfl, hl, _, rs⟩ := r.isList
  obtain ⟨b, us, rfl, hl', _, rs'⟩ := r'.isList
  exact eq_intsK (vs := vs.toList) (us := us.toList) (by simpa using hl) rs.intsAre (by simpa using hl') rs'.intsAre hu ⟨.bool _, .refl _⟩
theorem op_ne_ints {ns ms : List Int} (hu : A.units + 64 < cLine) : Op2 prog w hz A (compareOp .NotEq) (.list (ils ns)) (.list (ils ms)) (.bool (!decide (ns = ms))) := by
  intro X s E v u _ _ r r'
  obtain ⟨a, vs, rfl, hl, _, rs⟩ := r.isList
  obtain ⟨b, us, rfl, hl', _, rs'⟩ := r'.isList
  exact ne_intsK (vs := vs.toList) (us := us.toList) (by simpa using hl) rs.intsAre (by simpa using hl') rs'.intsAre hu ⟨.bool _, .refl _⟩
end ops

theorem ev_neg {a : Expr} {x : Int} {pos : Pos} (ha : EV prog w hz A env σ a (.int x)) : EV prog w hz A env σ (.UnaryOp .USub a pos) (.int (-x)) := by
  intro X s E p
  refine wpAny_UnaryOp (ha.use p fun v s₁ r k p₁ => ?_)
  cases r
  exact PySem.P.neg_int ⟨.int _ _, k.trans .t⟩
theorem ev_ifexp {t a b : Expr} {c : Bool} {d : PyData} {pos : Pos} (ht : EB prog w hz A env σ t c) (ha : c = true → EV prog w hz A env σ a d) (hb : c = false → EV prog w hz A env σ b d) :
    EV prog w hz A env σ (.IfExp t a b pos) d := by
  intro X s E p
  refine wpAny_IfExp (ht.use p fun s₁ k p₁ => ?_)
  cases c
  · exact (hb rfl).use p₁ fun v s₂ r k' _ => ⟨r, k.trans k'⟩
  · exact (ha rfl).use p₁ fun v s₂ r k' _ => ⟨r, k.trans k'⟩

/-- all of the tests, one after the other, as far as is looked -/
def EAll (prog : Program) (w : World) (hz : Heap) (A : Around) (env : Env) (σ : Sto) (op : BoolOp) (es : List Expr) (b : Bool) : Prop :=
  ∀ (X : Addr → Prop) (s : Shared) (E : Value → Shared → Prop), Pre hz env X σ s → wpAny (model prog w) A (allTrue op es env) (fun b' s' => b' = b ∧ Kp s s') E s
theorem eb_boolop {op : BoolOp} {es : List Expr} {b : Bool} {pos : Pos} (h : EAll prog w hz A env σ op es b) : EB prog w hz A env σ (.BoolOp op es pos) b :=
  fun X s E p => wpAny_isTrue_BoolOp (h X s E p)
theorem and_nil : EAll prog w hz A env σ .And [] true := fun _ _ _ _ => wpAny_allTrue_And_nil ⟨rfl, .refl _⟩
theorem or_nil : EAll prog w hz A env σ .Or [] false := fun _ _ _ _ => wpAny_allTrue_Or_nil ⟨rfl, .refl _⟩
theorem and_cons {e : Expr} {es : List Expr} {b c : Bool} (h : EB prog w hz A env σ e b) (hs : b = true → EAll prog w hz A env σ .And es c) : EAll prog w hz A env σ .And (e :: es) (b && c) := by
  intro X s E p
  refine wpAny_allTrue_And_cons (h.use p fun s₁ k p₁ => ?_)
  cases b
  · exact ⟨rfl, k⟩
  · exact wpAny_mono (hs rfl X s₁ E p₁) (fun b' s' x => ⟨by simpa using x.1, k.trans x.2⟩) fun _ _ e => e
theorem or_cons {e : Expr} {es : List Expr} {b c : Bool} (h : EB prog w hz A env σ e b) (hs : b = false → EAll prog w hz A env σ .Or es c) : EAll prog w hz A env σ .Or (e :: es) (b || c) := by
  intro X s E p
  refine wpAny_allTrue_Or_cons (h.use p fun s₁ k p₁ => ?_)
  cases b
  · exact wpAny_mono (hs rfl X s₁ E p₁) (fun b' s' x => ⟨by simpa using x.1, k.trans x.2⟩) fun _ _ e => e
  · exact ⟨rfl, k⟩
theorem EB.cast {e : Expr} {b c : Bool} (h : EB prog w hz A env σ e b) (e' : b = c) : EB prog w hz A env σ e c := e' ▸ h
theorem EV.cast {e : Expr} {b c : PyData} (h : EV prog w hz A env σ e b) (e' : b = c) : EV prog w hz A env σ e c := e' ▸ h
theorem EAll.cast {op : BoolOp} {es : List Expr} {b c : Bool} (h : EAll prog w hz A env σ op es b) (e' : b = c) : EAll prog w hz A env σ op es c := e' ▸ h
end
end Mine
end

section
open PySem PySem.W PyProof.Rows
namespace Mine

theorem fresh_size (h : Heap) : h.get? h.objs.size = none := by
  cases e : h.get? h.objs.size with
  | none => rfl
  | some o => exact absurd (Heap.lt_size e) (Nat.lt_irrefl _)

section pick
theorem pick_upto (items : Array Value) (b : Int) (hb : 0 ≤ b) : slicePick items none (some b) none = (items.toList.take b.toNat).toArray := by
  have e : sliceBounds none (some b) none items.size = sliceBounds none (some ((min b.toNat items.size : Nat) : Int)) none items.size := by
    simp only [sliceBounds, Option.getD_none]
    have h1 : ¬ (b < 0) := by omega
    have h2 : ¬ (((min b.toNat items.size : Nat) : Int) < 0) := by omega
    simp only [h1, h2, if_false, show (1 : Int) > 0 by decide, if_true]
    congr 2; omega
  have := slicePick_upto items (min b.toNat items.size) (Nat.min_le_right _ _)
  unfold slicePick at this ⊢
  rw [e]
  rw [this]
  congr 1
  rw [List.take_eq_take_iff]
  simp
theorem pick_from (items : Array Value) (a : Int) (ha : 0 ≤ a) : slicePick items (some a) none none = (items.toList.drop a.toNat).toArray := by
  have e : sliceBounds (some a) none none items.size = sliceBounds (some ((min a.toNat items.size : Nat) : Int)) none none items.size := by
    simp only [sliceBounds, Option.getD_none]
    have h1 : ¬ (a < 0) := by omega
    have h2 : ¬ (((min a.toNat items.size : Nat) : Int) < 0) := by omega
    simp only [h1, h2, if_false, show (1 : Int) > 0 by decide, if_true]
    congr 1; omega
  have := slicePick_from items (min a.toNat items.size) (Nat.min_le_right _ _)
  unfold slicePick at this ⊢
  rw [e, this]
  congr 1
  by_cases h : a.toNat ≤ items.size
  · rw [Nat.min_eq_left h]
  · rw [List.drop_eq_nil_of_le (by simp; omega), List.drop_eq_nil_of_le (by simp; omega)]
theorem pick_run (items : Array Value) (a b : Int) (ha : 0 ≤ a) (hab : a ≤ b) : slicePick items (some a) (some b) none = ((items.toList.drop a.toNat).take (b.toNat - a.toNat)).toArray := by
  have e : sliceBounds (some a) (some b) none items.size = sliceBounds (some ((min a.toNat items.size : Nat) : Int)) (some ((min b.toNat items.size : Nat) : Int)) none items.size := by
    simp only [sliceBounds, Option.getD_none]
    have h1 : ¬ (a < 0) := by omega
    have h2 : ¬ (((min a.toNat items.size : Nat) : Int) < 0) := by omega
    have h3 : ¬ (b < 0) := by omega
    have h4 : ¬ (((min b.toNat items.size : Nat) : Int) < 0) := by omega
    simp only [h1, h2, h3, h4, if_false, show (1 : Int) > 0 by decide, if_true]
    congr 1
    · omega
    · congr 1; omega
  have := slicePick_run items (min a.toNat items.size) (min b.toNat items.size) (Nat.min_le_right _ _) (by omega)
  unfold slicePick at this ⊢
  rw [e, this]
  congr 1
  by_cases h : a.toNat ≤ items.size
  · rw [Nat.min_eq_left h]
    rw [List.take_eq_take_iff]
    simp; omega
  · rw [List.drop_eq_nil_of_le (by simp; omega), List.drop_eq_nil_of_le (by simp; omega)]; simp
end pick

section
variable {prog : Program} {w : World} {hz : Heap} {A : Around} {env : Env} {σ : Sto}

theorem ev_item {value slice : Expr} {pos : Pos} {ds : List PyData} {d : PyData} {k : Int} (hv : EV prog w hz A env σ value (.list ds)) (hi : EV prog w hz A env σ slice (.int k))
    (h0 : 0 ≤ k) (hk : ds[k.toNat]? = some d) (hfit : k < 2 ^ 63)
    (hs : ∀ o i, subscripted slice false o i = operate [o, i] (getItem o i) := by intro _ _; with_unfolding_all rfl) : EV prog w hz A env σ (.Subscript value slice pos) d := by
  intro X s E p
  refine Subscript_ (hv.use p fun o s₁ r k₁ p₁ => hi.use p₁ fun i s₂ ri k₂ p₂ => ?_)
  obtain ⟨a, vs, rfl, hl, _, rs⟩ := (r.keep k₂.heap).isList
  cases ri
  obtain ⟨x, hx, rx⟩ := rs.get _ hk
  exact tail_any hl.typeIs slot_list_getitem.lookup (wpAny_getItem_list (x := x) hl h0 hfit (by simpa using hx) ⟨rx, k₁.trans k₂⟩) (hs _ _)
theorem ev_item_neg {value slice : Expr} {pos : Pos} {ds : List PyData} {d : PyData} {k : Int} (hv : EV prog w hz A env σ value (.list ds)) (hi : EV prog w hz A env σ slice (.int k))
    (h0 : k < 0) (h1 : -(ds.length : Int) ≤ k) (hk : ds[(k + ds.length).toNat]? = some d) (hfit : -(2 ^ 63) ≤ k)
    (hs : ∀ o i, subscripted slice false o i = operate [o, i] (getItem o i) := by intro _ _; with_unfolding_all rfl) : EV prog w hz A env σ (.Subscript value slice pos) d := by
  intro X s E p
  refine Subscript_ (hv.use p fun o s₁ r k₁ p₁ => hi.use p₁ fun i s₂ ri k₂ p₂ => ?_)
  obtain ⟨a, vs, rfl, hl, _, rs⟩ := (r.keep k₂.heap).isList
  cases ri
  have hlen : (vs.size : Int) = ds.length := by have := rs.length; simp at this; omega
  obtain ⟨x, hx, rx⟩ := rs.get _ hk
  exact tail_any hl.typeIs slot_list_getitem.lookup (wpAny_getItem_list_neg (x := x) hl h0 (by rw [hlen]; exact h1) hfit (by rw [hlen]; simpa using hx) ⟨rx, k₁.trans k₂⟩) (hs _ _)
theorem ev_titem {value slice : Expr} {pos : Pos} {ds : List PyData} {d : PyData} {k : Int} (hv : EV prog w hz A env σ value (.tuple ds)) (hi : EV prog w hz A env σ slice (.int k))
    (h0 : 0 ≤ k) (hk : ds[k.toNat]? = some d) (hfit : k < 2 ^ 63)
    (hs : ∀ o i, subscripted slice false o i = operate [o, i] (getItem o i) := by intro _ _; with_unfolding_all rfl) : EV prog w hz A env σ (.Subscript value slice pos) d := by
  intro X s E p
  refine Subscript_ (hv.use p fun o s₁ r k₁ p₁ => hi.use p₁ fun i s₂ ri k₂ p₂ => ?_)
  obtain ⟨a, o, vs, n, rfl, e, c, dd, _, rs⟩ := (r.keep k₂.heap).isTuple
  cases ri
  obtain ⟨x, hx, rx⟩ := rs.get _ hk
  have hlt : k.toNat < vs.size := by
    have := rs.length
    have h2 : k.toNat < ds.length := by
      rcases Nat.lt_or_ge k.toNat ds.length with h | h
      · exact h
      · rw [List.getElem?_eq_none h] at hk; cases hk
    simp at this; omega
  have ht : IsTup s₂.heap a vs := ⟨o, e, c, n, dd⟩
  exact tail_any ht.typeIs slot_tuple_getitem.lookup (getItem_tuple (j := k.toNat) (x := x) ht (by omega) hfit (seqIndex_of h0 (by omega)) (by simpa using hx) ⟨rx, k₁.trans k₂⟩) (hs _ _)

/-- one end of a slice -/
inductive Part (prog : Program) (w : World) (hz : Heap) (A : Around) (env : Env) (σ : Sto) : Option Expr → Option Int → Prop
  | none : Part prog w hz A env σ none none
  | some {e i} : EV prog w hz A env σ e (.int i) → Part prog w hz A env σ (some e) (some i)
theorem Part.use {o : Option Expr} {k : Option Int} (h : Part prog w hz A env σ o k) {X : Addr → Prop} {s : Shared} {E : Value → Shared → Prop} {Q : Value → Shared → Prop} (p : Pre hz env X σ s)
    (q : ∀ v s', IsPart v k → Kp s s' → Pre hz env X σ s' → Q v s') : wpAny (model prog w) A (evalPart o env) Q E s := by
  cases h with
  | none => exact wpAny_pure (q _ _ .none (.refl _) p)
  | some h => exact h.use p fun v s' r k p' => by cases r; exact q _ _ (.int _ _) k p'

theorem ev_slice_pick {value : Expr} {lo hi st : Option Expr} {p₀ pos : Pos} {ds es : List PyData} {l u t : Option Int} (hv : EV prog w hz A env σ value (.list ds)) (hl : Part prog w hz A env σ lo l) (hu : Part prog w hz A env σ hi u)
    (ht : Part prog w hz A env σ st t) (ht0 : t ≠ some 0) (hn : ds.length ≤ sizeLine)
    (hp : ∀ (X : Addr → Prop) (h : Heap) (vs : Array Value), Reps X h vs.toList ds → Reps X h (slicePick vs l u t).toList es) : EV prog w hz A env σ (.Subscript value (.Slice lo hi st p₀) pos) (.list es) := by
  intro X s E p
  refine Subscript_ (hv.use p fun o s₁ r k₁ p₁ => wpAny_Slice (hl.use p₁ fun v₁ s₂ i₁ k₂ p₂ => hu.use p₂ fun v₂ s₃ i₂ k₃ p₃ => ht.use p₃ fun v₃ s₄ i₃ k₄ p₄ => ?_))
  obtain ⟨a, vs, rfl, hli, _, rs⟩ := (r.keep ((k₂.heap.trans k₃.heap).trans (k₄.heap.trans (.push _ { cls := .type "slice", data := .fields #[v₁, v₂, v₃] })))).isList
  have hsz : vs.size ≤ sizeLine := by have := rs.length; simp at this; omega
  have hk : Kp s { s₄ with heap := s₄.heap.push { cls := .type "slice", data := .fields #[v₁, v₂, v₃] } } := ((k₁.trans k₂).trans (k₃.trans k₄)).trans .push
  have fin : ∀ (E : Value → Shared → Prop), wpAny (model prog w) A (getItem (.ref a) (.ref s₄.heap.objs.size)) (fun v s' => Rep X s'.heap v (.list es) ∧ Kp s s') E
      { s₄ with heap := s₄.heap.push { cls := .type "slice", data := .fields #[v₁, v₂, v₃] } } := fun E =>
    wpAny_getItem_list_slice hli (.new _ _ _ _) i₁ i₂ i₃ ht0 ⟨.list (Heap.get?_push_size _ rfl) rfl rfl ((p.kp hk).fresh (fresh_size _)) ((hp _ _ _ rs).keep (.push _ _)), hk.trans .push⟩ hsz
  cases st with
  | none => exact tail_any hli.typeIs slot_list_getitem.lookup (fin E) (ops := [.ref s₄.heap.objs.size, .ref a]) rfl
  | some _ => exact tail_any hli.typeIs slot_list_getitem.lookup (fin E) (ops := [.ref a, .ref s₄.heap.objs.size]) rfl

theorem ev_upto {value e : Expr} {p₀ pos : Pos} {ds : List PyData} {k : Int} (hv : EV prog w hz A env σ value (.list ds)) (he : EV prog w hz A env σ e (.int k)) (h0 : 0 ≤ k) (hn : ds.length ≤ sizeLine) :
    EV prog w hz A env σ (.Subscript value (.Slice none (some e) none p₀) pos) (.list (ds.take k.toNat)) :=
  ev_slice_pick hv .none (.some he) .none (by decide) hn fun X h vs r => by rw [pick_upto _ _ h0]; simpa using r.take _
theorem ev_from {value e : Expr} {p₀ pos : Pos} {ds : List PyData} {k : Int} (hv : EV prog w hz A env σ value (.list ds)) (he : EV prog w hz A env σ e (.int k)) (h0 : 0 ≤ k) (hn : ds.length ≤ sizeLine) :
    EV prog w hz A env σ (.Subscript value (.Slice (some e) none none p₀) pos) (.list (ds.drop k.toNat)) :=
  ev_slice_pick hv (.some he) .none .none (by decide) hn fun X h vs r => by rw [pick_from _ _ h0]; simpa using r.drop _
theorem ev_run {value e f : Expr} {p₀ pos : Pos} {ds : List PyData} {k m : Int} (hv : EV prog w hz A env σ value (.list ds)) (he : EV prog w hz A env σ e (.int k)) (hf : EV prog w hz A env σ f (.int m)) (h0 : 0 ≤ k) (hkm : k ≤ m) (hn : ds.length ≤ sizeLine) :
    EV prog w hz A env σ (.Subscript value (.Slice (some e) (some f) none p₀) pos) (.list ((ds.drop k.toNat).take (m.toNat - k.toNat))) :=
  ev_slice_pick hv (.some he) (.some hf) .none (by decide) hn fun X h vs r => by rw [pick_run _ _ _ h0 hkm]; simpa using (r.drop _).take _

/-- what stands at the base: the text's own names, the built-in ones -/
structure Gl (hz : Heap) (mg mb : Str → Option Value) : Prop where
  g : hz.Ns mainGlobals mg
  b : hz.Ns builtinsNs mb
  nolimit : hz.NoLimit

variable {mg mb : Str → Option Value}
theorem glob_name {x : Str} {np : Pos} {v : Value} {X : Addr → Prop} {s : Shared} {E : Value → Shared → Prop} {Q : Value → Shared → Prop} (G : Gl hz mg mb) (p : Pre hz env X σ s) (hv : mg x = some v) (hq : Q v s)
    (hk : env.scope.kind = .function := by rfl) (hx : env.kindOf x = some .globalImplicit := by rfl) (hg : env.globals = mainGlobals := by rfl) (hd : (x == ("__debug__" : Str)) = false := by decide) :
    wpAny (model prog w) A (eval (.Name x np) env) Q E s :=
  Calls.Name_function_global hk hx (Calls.loadGlobal_global (hg ▸ G.g.keeps p.base) hv hq) hd
theorem built_name {x : Str} {np : Pos} {v : Value} {X : Addr → Prop} {s : Shared} {E : Value → Shared → Prop} {Q : Value → Shared → Prop} (G : Gl hz mg mb) (p : Pre hz env X σ s) (hv : mg x = none) (hb : mb x = some v) (hq : Q v s)
    (hk : env.scope.kind = .function := by rfl) (hx : env.kindOf x = some .globalImplicit := by rfl) (hg : env.globals = mainGlobals := by rfl) (hbn : env.builtins = builtinsNs := by rfl) (hd : (x == ("__debug__" : Str)) = false := by decide) :
    wpAny (model prog w) A (eval (.Name x np) env) Q E s :=
  Calls.Name_function_global hk hx (Calls.loadGlobal_builtin (hg ▸ G.g.keeps p.base) hv (hbn ▸ G.b.keeps p.base) hb hq) hd

/-- a built-in function of one argument, called by its name -/
theorem ev_builtin1 {x : Str} {id : String} {np pos : Pos} {e : Expr} {d r : PyData} (G : Gl hz mg mb) (he : EV prog w hz A env σ e d) (hv : mg x = none) (hb : mb x = some (.builtin id))
    (hc : ∀ (X : Addr → Prop) (s : Shared) (E : Value → Shared → Prop) (v : Value), HK hz s.heap → (∀ a, X a → Live s.heap a) → Rep X s.heap v d → wpAny (model prog w) A (call (.builtin id) [v]) (fun v s' => Rep X s'.heap v r ∧ Kp s s') E s)
    (hk : env.scope.kind = .function := by rfl) (hx : env.kindOf x = some .globalImplicit := by rfl) (hg : env.globals = mainGlobals := by rfl) (hbn : env.builtins = builtinsNs := by rfl) (hd : (x == ("__debug__" : Str)) = false := by decide)
    (hse : starEach [e] env = (false, eval e env) :: starEach [] env := by rfl) :
    EV prog w hz A env σ (.Call (.Name x np) [e] [] pos) r := by
  intro X s E p
  refine Call_ (built_name G p hv hb (callWith_builtin1 ((evs_cons he evs_nil hse).use p fun vs s₁ rs k p₁ => ?_) hse) hk hx hg hbn hd)
  cases rs with
  | cons r1 rs =>
    cases rs
    exact wpAny_mono (hc X s₁ E _ p₁.base p₁.live r1) (fun v s' h => ⟨h.1, k.trans h.2⟩) fun _ _ e => e
theorem call_len {A : Around} {ds : List PyData} (hn : ds.length ≤ sizeLine) (X : Addr → Prop) (s : Shared) (E : Value → Shared → Prop) (v : Value) (r : Rep X s.heap v (.list ds)) :
    wpAny (model prog w) A (call (.builtin "len") [v]) (fun v s' => Rep X s'.heap v (.int ds.length) ∧ Kp s s') E s := by
  obtain ⟨a, vs, rfl, hl, _, rs⟩ := r.isList
  have hlen : vs.size = ds.length := by have := rs.length; simpa using this
  refine len_list hl ?_ ⟨by rw [hlen]; exact .int _ _, .t⟩
  rw [hlen]; have : sizeLine = 16777216 := rfl; omega
end
end Mine
end

section
open PySem PySem.W PyProof.Rows
namespace Mine

theorem ns_fun {h : Heap} {a : Addr} {m m' : Str → Option Value} (x : h.Ns a m) (y : h.Ns a m') : m = m' := by
  obtain ⟨o, es, ep, e, d, _, f⟩ := x
  obtain ⟨o', es', ep', e', d', _, f'⟩ := y
  rw [e] at e'; cases e'
  rw [d] at d'; cases d'
  funext z; rw [← f z, ← f' z]

/-- what a run of statements may change beside: the places in W -/
structure KpW (W : Addr → Prop) (s s' : Shared) : Prop where
  heap : HKW W s.heap s'.heap
  gens : ∀ (i : Nat) (g : GenState), s.gens[i]? = some g → s'.gens[i]? = some g
  bare : AllBare s.gens → AllBare s'.gens
  os : s'.os = s.os
theorem KpW.then {W : Addr → Prop} {a b c : Shared} (x : KpW W a b) (y : Kp b c) : KpW W a c :=
  ⟨fun d o n e => y.heap _ _ (x.heap d o n e), fun i g e => y.gens i g (x.gens i g e), fun e => y.bare (x.bare e), y.os.trans x.os⟩
theorem KpW.trans {W : Addr → Prop} {a b c : Shared} (x : KpW W a b) (y : KpW W b c) : KpW W a c :=
  ⟨x.heap.trans y.heap, fun i g e => y.gens i g (x.gens i g e), fun e => y.bare (x.bare e), y.os.trans x.os⟩
theorem KpW.of {W : Addr → Prop} {a b : Shared} (y : Kp a b) : KpW W a b := ⟨y.heap.w W, y.gens, y.bare, y.os⟩

abbrev Own := Option (Str × List PyData)

/-- a block at work: env its names, Y what others may still change, W what it may change itself, sb where it began, pr and pg what it must leave alone -/
structure FSW (hz : Heap) (env : Env) (Y : Addr → Prop) (sb : Shared) (pr : List (Addr × Obj)) (pg : List (Nat × GenState)) (W : Addr → Prop) (σ : Sto) (own : Own) (s : Shared) : Prop where
  base : HK hz s.heap
  ylive : ∀ a, Y a → Live s.heap a
  wnew : ∀ a, W a → ¬ Y a ∧ hz.get? a = none ∧ Live s.heap a ∧ sb.heap.get? a = none
  wl : W env.locals
  wc : ∀ x c, env.cells.lookup x = some c → W c ∧ c ≠ env.locals
  apart : ∀ x y c, env.cells.lookup x = some c → env.cells.lookup y = some c → x = y
  ns : ∃ m, s.heap.Ns env.locals m
  cells : ∀ x c, env.cells.lookup x = some c → ∃ v, s.heap.IsCell c v
  vars : ∀ x d, σ x = some d → ∃ v, Loads env s.heap x v ∧ Rep (fun a => Y a ∨ W a) s.heap v d
  own : ∀ x ds, own = some (x, ds) → ∃ a vs, Loads env s.heap x (.ref a) ∧ s.heap.PlainList a vs ∧ Reps (fun a => Y a ∨ W a) s.heap vs.toList ds ∧ W a ∧ a ≠ env.locals ∧ ∀ y c, env.cells.lookup y = some c → c ≠ a
  prot : ∀ p ∈ pr, s.heap.get? p.1 = some p.2 ∧ ¬ W p.1
  protg : ∀ p ∈ pg, s.gens[p.1]? = some p.2
  kp : KpW W sb s

def FS (hz : Heap) (env : Env) (Y : Addr → Prop) (sb : Shared) (pr : List (Addr × Obj)) (pg : List (Nat × GenState)) (σ : Sto) (own : Own) (s : Shared) : Prop :=
  ∃ W, FSW hz env Y sb pr pg W σ own s

section
variable {hz : Heap} {env : Env} {Y W : Addr → Prop} {sb s s' : Shared} {pr : List (Addr × Obj)} {pg : List (Nat × GenState)} {σ : Sto} {own : Own}

theorem FSW.pre (F : FSW hz env Y sb pr pg W σ own s) : Pre hz env (fun a => Y a ∨ W a) σ s :=
  ⟨F.base, fun a h => h.elim (F.ylive a) fun h => (F.wnew a h).2.2.1, F.vars⟩
/-- the list at hand may be looked at too -/
def Sto.and (σ : Sto) : Own → Sto
  | none => σ
  | some (x, ds) => σ.set x (.list ds)
theorem FSW.preY (F : FSW hz env Y sb pr pg W σ own s) : Pre hz env Y (σ.and own) s := by
  refine ⟨F.base, F.ylive, fun x d e => ?_⟩
  cases ho : own with
  | none =>
    rw [ho] at e
    obtain ⟨v, l, r⟩ := F.vars x d e
    exact ⟨v, l, r.less fun a h => .inl h⟩
  | some q =>
    obtain ⟨y, ds⟩ := q
    rw [ho] at e
    simp only [Sto.and, Sto.set] at e
    split at e
    · rename_i hxy
      subst hxy
      cases e
      obtain ⟨a, vs, l, hp, rs, hw, _, _⟩ := F.own _ _ ho
      exact ⟨_, l, rep_list hp.isList (F.wnew a hw).1 (rs.less fun a h => .inl h)⟩
    · obtain ⟨v, l, r⟩ := F.vars x d e
      exact ⟨v, l, r.less fun a h => .inl h⟩
theorem FSW.kpd (F : FSW hz env Y sb pr pg W σ own s) (k : Kp s s') : FSW hz env Y sb pr pg W σ own s' where
  base := F.base.trans k.heap
  ylive := fun a h => (F.ylive a h).hk k.heap
  wnew := fun a h => let ⟨a1, a2, a3, a4⟩ := F.wnew a h; ⟨a1, a2, a3.hk k.heap, a4⟩
  wl := F.wl
  wc := F.wc
  apart := F.apart
  ns := let ⟨m, e⟩ := F.ns; ⟨m, e.keeps k.heap⟩
  cells := fun x c e => let ⟨v, h⟩ := F.cells x c e; ⟨v, h.keeps k.heap⟩
  vars := fun x d e => let ⟨v, l, r⟩ := F.vars x d e; ⟨v, l.keep k.heap, r.keep k.heap⟩
  own := fun x ds e => let ⟨a, vs, l, p, r, t⟩ := F.own x ds e; ⟨a, vs, l.keep k.heap, p.at fun _ e => k.heap _ _ e, r.keep k.heap, t⟩
  prot := fun p hp => ⟨k.heap _ _ (F.prot p hp).1, (F.prot p hp).2⟩
  protg := fun p hp => k.gens _ _ (F.protg p hp)
  kp := F.kp.then k
theorem FS.kpd (F : FS hz env Y sb pr pg σ own s) (k : Kp s s') : FS hz env Y sb pr pg σ own s' := let ⟨W, f⟩ := F; ⟨W, f.kpd k⟩

def Sto.del (σ : Sto) (x : Str) : Sto := fun y => if y = x then none else σ y
theorem Sto.del_set (σ : Sto) (x : Str) (d : PyData) : (σ.del x).set x d = σ.set x d := by
  funext y; simp only [Sto.set, Sto.del]; split <;> rfl
theorem FSW.addVar {x : Str} {v : Value} {d : PyData} (F : FSW hz env Y sb pr pg W σ own s) (l : Loads env s.heap x v) (r : Rep (fun a => Y a ∨ W a) s.heap v d) : FSW hz env Y sb pr pg W (σ.set x d) own s := by
  refine { F with vars := fun y e hy => ?_ }
  simp only [Sto.set] at hy
  split at hy
  · rename_i hyx
    subst hyx
    cases hy
    exact ⟨v, l, r⟩
  · exact F.vars y e hy
theorem FSW.addOwn {x : Str} {a : Addr} {vs : Array Value} {ds : List PyData} (F : FSW hz env Y sb pr pg W σ none s) (l : Loads env s.heap x (.ref a)) (p : s.heap.PlainList a vs) (r : Reps (fun a => Y a ∨ W a) s.heap vs.toList ds)
    (hw : W a) (hal : a ≠ env.locals) (hac : ∀ y c, env.cells.lookup y = some c → c ≠ a) : FSW hz env Y sb pr pg W σ (some (x, ds)) s := by
  refine { F with own := fun y es e => ?_ }
  cases e
  exact ⟨a, vs, l, p, r, hw, hal, hac⟩
/-- behind a store of x -/
theorem FSW.stored {x : Str} {t : Addr} {h' : Heap} {tk : Nat} (F : FSW hz env Y sb pr pg W σ own s) (hsb : Heap.SameBut t s.heap h')
    (ht : t = env.locals ∨ env.cells.lookup x = some t) (hown : ∀ y ds, own = some (y, ds) → y ≠ x)
    (hns : ∀ m, s.heap.Ns env.locals m → ∃ m', h'.Ns env.locals m' ∧ ∀ y, y ≠ x → m' y = m y)
    (hcell : ∀ y c, env.cells.lookup y = some c → y ≠ x → ∀ v, s.heap.IsCell c v → h'.IsCell c v) (hcx : ∀ c, env.cells.lookup x = some c → ∃ v, h'.IsCell c v) :
    FSW hz env Y sb pr pg W (σ.del x) own { s with heap := h', toks := tk } ∧ HKW W s.heap h' := by
  have tW : W t := by
    rcases ht with rfl | h
    · exact F.wl
    · exact (F.wc _ _ h).1
  have hk : HKW (fun a => Y a ∨ W a) s.heap h' := fun b o n e => (hsb.2 b fun hbt => n (.inr (hbt ▸ tW))).trans e
  have hkW : HKW W s.heap h' := fun b o n e => (hsb.2 b fun hbt => n (hbt ▸ tW)).trans e
  have hlive : ∀ a, Live s.heap a → Live h' a := fun a ⟨o, e⟩ => by
    by_cases hat : a = t
    · subst hat
      rcases ht with rfl | hc
      · obtain ⟨m, hm⟩ := F.ns
        obtain ⟨m', ⟨o', _, _, e', _⟩, _⟩ := hns m hm
        exact ⟨o', e'⟩
      · obtain ⟨v, o', e', _⟩ := hcx _ hc
        exact ⟨o', e'⟩
    · exact ⟨o, (hsb.2 a hat).trans e⟩
  have hload : ∀ y u, y ≠ x → Loads env s.heap y u → Loads env h' y u := fun y u hyx l => by
    rcases l with ⟨a, m, b, c⟩ | ⟨a, c, b, d⟩
    · obtain ⟨m', e1, e2⟩ := hns m b
      exact .inl ⟨a, m', e1, (e2 y hyx).trans c⟩
    · exact .inr ⟨a, c, b, hcell y c b hyx _ d⟩
  refine ⟨⟨fun b o e => ?_, fun a h => hlive a (F.ylive a h), fun a h => ?_, F.wl, F.wc, F.apart, ?_, fun y c e => ?_, fun y e hy => ?_, fun y ds e => ?_, fun p hp => ?_, F.protg, F.kp.trans ⟨hkW, fun _ _ e => e, id, rfl⟩⟩, hkW⟩
  · have : ¬ W b := fun hw => by have := (F.wnew b hw).2.1; rw [e] at this; cases this
    exact hkW b o this (F.base b o e)
  · obtain ⟨a1, a2, a3, a4⟩ := F.wnew a h
    exact ⟨a1, a2, hlive a a3, a4⟩
  · obtain ⟨m, hm⟩ := F.ns
    obtain ⟨m', hm', _⟩ := hns m hm
    exact ⟨m', hm'⟩
  · by_cases hyx : y = x
    · subst hyx; exact hcx c e
    · obtain ⟨v, hv⟩ := F.cells y c e
      exact ⟨v, hcell y c e hyx v hv⟩
  · simp only [Sto.del] at hy
    split at hy
    · cases hy
    · rename_i hyx
      obtain ⟨u, l, ru⟩ := F.vars y e hy
      exact ⟨u, hload y u hyx l, ru.keepW hk fun _ h => h⟩
  · obtain ⟨a, vs, l, pl, rs, hw, hal, hac⟩ := F.own y ds e
    have hat : a ≠ t := by
      rcases ht with rfl | hc
      · exact hal
      · exact fun h => hac _ _ hc h.symm
    exact ⟨a, vs, hload y _ (hown y ds e) l, pl.at fun o e => (hsb.2 a hat).trans e, rs.keepW hk fun _ h => h, hw, hal, hac⟩
  · obtain ⟨p1, p2⟩ := F.prot p hp
    exact ⟨(hsb.2 p.1 fun h => p2 (by rw [h]; exact tW)).trans p1, p2⟩

variable {prog : Program} {w : World} {A : Around}
theorem FSW.store {x : Str} {v : Value} {E : Value → Shared → Prop} {Q : Unit → Shared → Prop} (F : FSW hz env Y sb pr pg W σ own s)
    (hown : ∀ y ds, own = some (y, ds) → y ≠ x)
    (hkind : env.kindOf x = some .local ∨ (env.kindOf x = some .cell ∧ ∃ c, env.cells.lookup x = some c)) (hnc : env.kindOf x = some .local → env.cells.lookup x = none) (hk : env.scope.kind = .function)
    (q : ∀ s' t, FSW hz env Y sb pr pg W (σ.del x) own s' → Loads env s'.heap x v → (t = env.locals ∨ env.cells.lookup x = some t) → Heap.SameBut t s.heap s'.heap → HKW W s.heap s'.heap → Q () s') : wpAny (model prog w) A (storeName env x v) Q E s := by
  rcases hkind with hl | ⟨hl, c, hc⟩
  · obtain ⟨m, hm⟩ := F.ns
    refine wpAny_storeName_local hl hm (fun h' hn hs => ?_) (by rw [hk]; rfl)
    obtain ⟨G, hk⟩ := F.stored (tk := s.toks + 1) hs (.inl rfl) hown (fun m₂ hm₂ => ⟨_, hn, fun y hy => by rw [ns_fun hm₂ hm]; simp [hy]⟩) (fun y c e hyx v hv => hv.sameBut hs (F.wc y c e).2) (fun c e => by rw [hnc hl] at e; cases e)
    exact q _ _ G (.inl ⟨hl, _, hn, by simp⟩) (.inl rfl) hs hk
  · obtain ⟨v₀, hv₀⟩ := F.cells x c hc
    have hcl := (F.wc x c hc).2
    refine wpAny_storeName_cell hk hl hc hv₀ fun h' hn hs => ?_
    obtain ⟨G, hk⟩ := F.stored (tk := s.toks) hs (.inr hc) hown (fun m₂ hm₂ => ⟨m₂, hm₂.sameBut hs (fun e => hcl e.symm), fun y hy => rfl⟩) (fun y c' e hyx v hv => hv.sameBut hs fun hcc => hyx (F.apart _ _ _ e (hcc ▸ hc)))
      (fun c' e => by rw [hc] at e; cases e; exact ⟨_, hn⟩)
    exact q _ _ G (.inr ⟨.inl hl, c, hc, hn⟩) (.inr hc) hs hk
end

/-- the side facts of a name that a block stores -/
structure Stores (env : Env) (x : Str) : Prop where
  kind : env.kindOf x = some .local ∨ (env.kindOf x = some .cell ∧ ∃ c, env.cells.lookup x = some c)
  nocell : env.kindOf x = some .local → env.cells.lookup x = none
  fn : env.scope.kind = .function
end Mine
end

section
open PySem PySem.W PyProof.Rows
namespace Mine
section
variable {hz : Heap} {env : Env} {Y : Addr → Prop} {sb s s' : Shared} {pr : List (Addr × Obj)} {pg : List (Nat × GenState)} {σ : Sto} {own : Own}
variable {prog : Program} {w : World} {A : Around} {E : Value → Shared → Prop} {Q : Flow → Shared → Prop}

theorem FS.drop (F : FS hz env Y sb pr pg σ own s) : FS hz env Y sb pr pg σ none s := by
  obtain ⟨W, F⟩ := F
  exact ⟨W, { F with own := fun _ _ e => by cases e }⟩
/-- fewer names -/
theorem FS.less {τ : Sto} (F : FS hz env Y sb pr pg σ own s) (h : ∀ x d, τ x = some d → σ x = some d) : FS hz env Y sb pr pg τ own s := by
  obtain ⟨W, F⟩ := F
  exact ⟨W, { F with vars := fun x d e => F.vars x d (h x d e) }⟩
/-- the list at hand is changed no more -/
theorem FS.freeze {x : Str} {ds : List PyData} (F : FS hz env Y sb pr pg σ (some (x, ds)) s) : FS hz env Y sb pr pg (σ.set x (.list ds)) none s := by
  obtain ⟨W, F⟩ := F
  obtain ⟨a, vs, l, pl, rs, hw, hal, hac⟩ := F.own x ds rfl
  have less : ∀ b, (Y b ∨ (W b ∧ b ≠ a)) → (Y b ∨ W b) := fun b h => h.imp id fun h => h.1
  refine ⟨fun b => W b ∧ b ≠ a, F.base, F.ylive, fun b h => F.wnew b h.1, ⟨F.wl, fun h => hal h.symm⟩, fun y c e => ⟨⟨(F.wc y c e).1, hac y c e⟩, (F.wc y c e).2⟩, F.apart, F.ns, F.cells, fun y d e => ?_, (fun _ _ e => by cases e),
    fun p hp => ⟨(F.prot p hp).1, fun h => (F.prot p hp).2 h.1⟩, F.protg, ⟨fun b o n e => ?_, F.kp.gens, F.kp.bare, F.kp.os⟩⟩
  · simp only [Sto.set] at e
    split at e
    · rename_i hyx
      subst hyx
      cases e
      exact ⟨_, l, rep_list pl.isList (fun h => h.elim (F.wnew a hw).1 fun h => h.2 rfl) (rs.less less)⟩
    · obtain ⟨v, l, r⟩ := F.vars y d e
      exact ⟨v, l, r.less less⟩
  · refine F.kp.heap b o (fun hwb => ?_) e
    by_cases hba : b = a
    · subst hba; rw [(F.wnew b hwb).2.2.2] at e; cases e
    · exact n ⟨hwb, hba⟩

theorem FS.pre (F : FS hz env Y sb pr pg σ own s) : ∃ X, (∀ a, Y a → X a) ∧ Pre hz env X σ s := let ⟨_, f⟩ := F; ⟨_, fun _ h => .inl h, f.pre⟩
theorem FS.preY (F : FS hz env Y sb pr pg σ own s) : Pre hz env Y (σ.and own) s := let ⟨_, f⟩ := F; f.preY

theorem ex_nil (h : Q .next s) : wpAny (model prog w) A (execs [] env) Q E s := wpAny_execs_nil h

theorem ex_store {x : Str} {d : PyData} {v : Value} {W : Addr → Prop} {q : Unit → Shared → Prop} (F : FSW hz env Y sb pr pg W σ own s) (r : Rep (fun a => Y a ∨ W a) s.heap v d) (hs : Stores env x)
    (hown : ∀ y ds, own = some (y, ds) → y ≠ x) (k : ∀ s', FS hz env Y sb pr pg (σ.set x d) own s' → q () s') : wpAny (model prog w) A (storeName env x v) q E s :=
  F.store hown hs.kind hs.nocell hs.fn fun s' t G l ht hsb hk => k s' ⟨W, by
    rw [← Sto.del_set]
    exact G.addVar l (r.keepW (fun b o n e => hk b o (fun h => n (.inr h)) e) fun _ h => h)⟩

theorem ex_assign {x : Str} {e : Expr} {p₁ p₂ : Pos} {rest : List Stmt} {d : PyData} (F : FS hz env Y sb pr pg σ own s) (he : EV prog w hz A env σ e d)
    (k : ∀ s', FS hz env Y sb pr pg (σ.set x d) own s' → wpAny (model prog w) A (execs rest env) Q E s')
    (hown : ∀ y ds, own = some (y, ds) → y ≠ x) (hs : Stores env x)
    (hsw : swapsWith e (some (.Name x p₁)) p₂.line env = pure false := by rfl) : wpAny (model prog w) A (execs (.Assign [.Name x p₁] e p₂ :: rest) env) Q E s := by
  obtain ⟨W, F⟩ := F
  refine wpAny_execs_cons (wpAny_Assign_Name (he.use F.pre fun v s₁ r k₁ _ => ?_) hsw)
  exact ex_store (F.kpd k₁) r hs hown fun s' F' => k s' F'

/-- data without places -/
def flat : PyData → Bool
  | .none | .bool _ | .int _ | .str _ => true
  | _ => false
theorem Rep.flat {X X' : Addr → Prop} {h h' : Heap} {v : Value} {d : PyData} (r : Rep X h v d) (hd : flat d = true) : Rep X' h' v d := by
  cases r with
  | none => exact .none
  | bool b => exact .bool b
  | int i t => exact .int i t
  | str x t => exact .str x t
  | list => cases hd
  | tuple => cases hd
/-- the same where the list at hand is looked at -/
theorem ex_assign_flat {x : Str} {e : Expr} {p₁ p₂ : Pos} {rest : List Stmt} {d : PyData} (F : FS hz env Y sb pr pg σ own s) (he : EV prog w hz A env (σ.and own) e d) (hd : flat d = true)
    (k : ∀ s', FS hz env Y sb pr pg (σ.set x d) own s' → wpAny (model prog w) A (execs rest env) Q E s')
    (hown : ∀ y ds, own = some (y, ds) → y ≠ x) (hs : Stores env x)
    (hsw : swapsWith e (some (.Name x p₁)) p₂.line env = pure false := by rfl) : wpAny (model prog w) A (execs (.Assign [.Name x p₁] e p₂ :: rest) env) Q E s := by
  obtain ⟨W, F⟩ := F
  refine wpAny_execs_cons (wpAny_Assign_Name (he.use F.preY fun v s₁ r k₁ _ => ?_) hsw)
  exact ex_store (F.kpd k₁) (r.flat hd) hs hown fun s' F' => k s' F'
theorem ex_aug {x : Str} {op : Operator} {e : Expr} {p₁ p₂ : Pos} {rest : List Stmt} {a b c : PyData} (F : FS hz env Y sb pr pg σ own s) (hx : σ x = some a) (he : EV prog w hz A env σ e b) (ho : Op2 prog w hz A (inplaceOp op) a b c)
    (k : ∀ s', FS hz env Y sb pr pg (σ.set x c) own s' → wpAny (model prog w) A (execs rest env) Q E s')
    (hown : ∀ y ds, own = some (y, ds) → y ≠ x) (hs : Stores env x) (hn : (x == ("__classdict__" : Str)) = false := by decide) :
    wpAny (model prog w) A (execs (.AugAssign (.Name x p₁) op e p₂ :: rest) env) Q E s := by
  obtain ⟨W, F⟩ := F
  have ev : ∀ (Q' : Value → Shared → Prop), (∀ v, Rep (fun a => Y a ∨ W a) s.heap v a → Q' v s) → wpAny (model prog w) A (loadName env x) Q' E s := by
    intro Q' q
    obtain ⟨v, l, r⟩ := F.vars x a hx
    rcases l with ⟨a, m, b, c⟩ | ⟨a | a, c, b, e⟩
    · exact wpAny_loadName_local hs.fn a b c (q v r)
    · exact wpAny_loadName_cell hs.fn a b e (q v r)
    · exact wpAny_loadName_free hs.fn a b e (q v r) hn
  refine wpAny_execs_cons (wpAny_AugAssign_Name (ev _ fun v r => he.use F.pre fun u s₁ r' k₁ p₁ => wpAny_mono (ho _ s₁ E v u p₁.base p₁.live (r.keep k₁.heap) r') (fun y s₂ h => ?_) fun _ _ e => e))
  exact ex_store ((F.kpd k₁).kpd h.2) h.1 hs hown fun s' F' => k s' F'
theorem op_iadd {x y : Int} : Op2 prog w hz A (inplaceOp .Add) (.int x) (.int y) (.int (x + y)) := by
  intro X s E v u _ _ r r'; cases r; cases r'; exact PyProof.Rows.iadd_int ⟨.int _ _, .t⟩
theorem op_isub {x y : Int} : Op2 prog w hz A (inplaceOp .Sub) (.int x) (.int y) (.int (x - y)) := by
  intro X s E v u _ _ r r'; cases r; cases r'; exact PySem.P.isub_int ⟨.int _ _, .t⟩

theorem ex_if {t : Expr} {body orelse rest : List Stmt} {pos : Pos} {b : Bool} (F : FS hz env Y sb pr pg σ own s) (ht : EB prog w hz A env (σ.and own) t b)
    (k : ∀ s', FS hz env Y sb pr pg σ own s' → wpAny (model prog w) A (execs (if b then body else orelse) env) (fun f s₂ => match f with | .next => wpAny (model prog w) A (execs rest env) Q E s₂ | f => Q f s₂) E s') :
    wpAny (model prog w) A (execs (.If t body orelse pos :: rest) env) Q E s := by
  obtain ⟨W, F⟩ := F
  refine wpAny_execs_cons (wpAny_If (ht.use F.preY fun s₁ k₁ _ => ?_))
  have := k s₁ ⟨W, F.kpd k₁⟩
  cases b <;> exact this
theorem ex_ret {e : Expr} {rest : List Stmt} {pos : Pos} {d : PyData} (F : FS hz env Y sb pr pg σ own s) (he : EV prog w hz A env (σ.and own) e d)
    (k : ∀ v s', Rep Y s'.heap v d → FS hz env Y sb pr pg σ own s' → Q (.ret v) s') : wpAny (model prog w) A (execs (.Return (some e) pos :: rest) env) Q E s := by
  obtain ⟨W, F⟩ := F
  exact wpAny_execs_cons (wpAny_Return_some (he.use F.preY fun v s₁ r k₁ _ => k v s₁ r ⟨W, F.kpd k₁⟩))
theorem ex_break {rest : List Stmt} {pos : Pos} (k : Q .brk s) : wpAny (model prog w) A (execs (.Break pos :: rest) env) Q E s := wpAny_execs_cons (wpAny_Break k)

/-- a list of its own is bound to x -/
def EVF (prog : Program) (w : World) (hz : Heap) (A : Around) (env : Env) (σ : Sto) (e : Expr) (ds : List PyData) : Prop :=
  ∀ (X : Addr → Prop) (s : Shared) (E : Value → Shared → Prop), Pre hz env X σ s → wpAny (model prog w) A (eval e env) (fun v s' => ∃ a vs, v = .ref a ∧ s.heap.get? a = none ∧ s'.heap.PlainList a vs ∧ Reps (fun b => X b ∨ b = a) s'.heap vs.toList ds ∧ Kp s s') E s
theorem evf_nil {pos : Pos} : EVF prog w hz A env σ (.List [] pos) [] := by
  intro X s E p
  exact wpAny_List (wpAny_items_nil ⟨by simp, _, _, rfl, fresh_size _, ⟨0, Heap.get?_push_size _ rfl⟩, by simpa using Reps.nil, .push⟩)
theorem evf_cat {a b : Expr} {pos : Pos} {ds es : List PyData} (ha : EV prog w hz A env σ a (.list ds)) (hb : EV prog w hz A env σ b (.list es)) (hn : ds.length + es.length ≤ sizeLine) :
    EVF prog w hz A env σ (.BinOp a .Add b pos) (ds ++ es) := by
  intro X s E p
  refine wpAny_BinOp (ha.use p fun v s₁ r k p₁ => hb.use p₁ fun u s₂ r' k' p₂ => ?_)
  replace r := r.keep k'.heap
  cases r with
  | @list a o vs n _ e c d nx rs =>
    cases r' with
    | @list b o' us n' _ e' c' d' nx' rs' =>
      obtain ⟨cls, dd, data, sl⟩ := o
      obtain ⟨cls', dd', data', sl'⟩ := o'
      simp only at c d c' d'
      subst c d c' d'
      have l1 := rs.length; have l2 := rs'.length
      have hsz : vs.size + us.size ≤ sizeLine := by simpa [← l1, ← l2] using hn
      refine concat_meets ⟨_, e, rfl⟩ ⟨_, e', rfl⟩ noFill_list_add seq_list_add PySem.F.slot_list_add PySem.F.entry_list_add (PySem.F.args_list_add_2 _ _)
        (list_addW a b vs us n n' dd dd' sl sl' hsz) ⟨e, e', _, _, rfl, ?_, ⟨0, Heap.get?_push_size _ rfl⟩, by simpa using ((rs.append rs').more fun b ⟨o, hb⟩ h => h.elim id fun h => absurd (Heap.lt_size hb) (by rw [h]; exact Nat.lt_irrefl _)).keep (.push _ _), (k.trans k').trans (.ht (.push _ _))⟩
      cases hq : s.heap.get? s₂.heap.objs.size with
      | none => rfl
      | some o => exact absurd (Heap.lt_size (k'.heap _ _ (k.heap _ _ hq))) (Nat.lt_irrefl _)

/-- to have a new list at hand, before its name is stored -/
theorem FSW.grow {W : Addr → Prop} {a : Addr} (F : FSW hz env Y sb pr pg W σ none s) (hl : Live s'.heap a) (hf : s.heap.get? a = none) (k : Kp s s') (hb : sb.heap.get? a = none) (hzf : hz.get? a = none) :
    FSW hz env Y sb pr pg (fun b => W b ∨ b = a) σ none s' := by
  have F' := F.kpd k
  have hne : ∀ b, Live s.heap b → b ≠ a := fun b ⟨o, e⟩ h => by subst h; rw [hf] at e; cases e
  have more : ∀ b, Live s.heap b → (Y b ∨ (W b ∨ b = a)) → (Y b ∨ W b) := fun b hb h => h.imp id fun h => h.elim id fun h => (hne b hb h).elim
  refine ⟨F'.base, F'.ylive, fun b h => ?_, .inl F.wl, fun y c e => ⟨.inl (F.wc y c e).1, (F.wc y c e).2⟩, F.apart, F'.ns, F'.cells, fun y d e => ?_, (fun _ _ e => by cases e), fun p hp => ⟨(F'.prot p hp).1, fun h => ?_⟩, F'.protg,
    ⟨fun b o n e => F'.kp.heap b o (fun h => n (.inl h)) e, F'.kp.gens, F'.kp.bare, F'.kp.os⟩⟩
  · rcases h with h | rfl
    · exact F'.wnew b h
    · refine ⟨fun hy => hne b (F.ylive b hy) rfl, hzf, hl, hb⟩
  · obtain ⟨v, l, r⟩ := F.vars y d e
    exact ⟨v, l.keep k.heap, (r.more more).keep k.heap⟩
  · rcases h with h | h
    · exact (F'.prot p hp).2 h
    · exact hne p.1 ⟨_, (F.prot p hp).1⟩ h

theorem ex_own {x : Str} {e : Expr} {p₁ p₂ : Pos} {rest : List Stmt} {ds : List PyData} (F : FS hz env Y sb pr pg σ none s) (he : EVF prog w hz A env σ e ds)
    (k : ∀ s', FS hz env Y sb pr pg σ (some (x, ds)) s' → wpAny (model prog w) A (execs rest env) Q E s') (hx : σ x = none)
    (hs : Stores env x)
    (hsw : swapsWith e (some (.Name x p₁)) p₂.line env = pure false := by rfl) : wpAny (model prog w) A (execs (.Assign [.Name x p₁] e p₂ :: rest) env) Q E s := by
  obtain ⟨W, F⟩ := F
  refine wpAny_execs_cons (wpAny_Assign_Name (wpAny_mono (he _ s E F.pre) (fun v s₁ h => ?_) fun _ _ e => e) hsw)
  obtain ⟨a, vs, rfl, hf, hp, rs, k₁⟩ := h
  have hba : ∀ b, Live s.heap b → b ≠ a := fun b ⟨o, e⟩ h => by subst h; rw [hf] at e; cases e
  have hsb : sb.heap.get? a = none := by
    cases hq : sb.heap.get? a with
    | none => rfl
    | some o =>
      by_cases hw : W a
      · exact ((hba a (F.wnew a hw).2.2.1) rfl).elim
      · exact ((hba a ⟨o, F.kp.heap a o hw hq⟩) rfl).elim
  have hzf : hz.get? a = none := by
    cases hq : hz.get? a with
    | none => rfl
    | some o => exact ((hba a ⟨o, F.base a o hq⟩) rfl).elim
  have hal : a ≠ env.locals := fun h => hba a (h ▸ (F.wnew _ F.wl).2.2.1) rfl
  have hac : ∀ y c, env.cells.lookup y = some c → c ≠ a := fun y c e => hba c (F.wnew _ (F.wc y c e).1).2.2.1
  have G : FSW hz env Y sb pr pg (fun b => W b ∨ b = a) σ none s₁ := F.grow (a := a) (by obtain ⟨n, e⟩ := hp; exact ⟨_, e⟩) hf k₁ hsb hzf
  refine G.store (by intro _ _ e; cases e) hs.kind hs.nocell hs.fn fun s' t G' l ht hsb' hk' => k s' ⟨fun b => W b ∨ b = a, ?_⟩
  have hat : a ≠ t := by
    rcases ht with rfl | hc
    · exact hal
    · exact fun h => hac _ _ hc h.symm
  have hσ : σ.del x = σ := by
    funext y; simp only [Sto.del]; split
    · rename_i h; rw [h, hx]
    · rfl
  rw [hσ] at G'
  refine G'.addOwn l (hp.at fun o e => (hsb'.2 a hat).trans e) (rs.keepW (Y := fun b => Y b ∨ (W b ∨ b = a)) (fun b o n e => hk' b o (fun h => n (h.elim (fun h => .inl (.inr h)) .inr)) e) fun b h => ?_) (.inr rfl) hal hac
  rcases h with h | h | h
  · exact .inl (.inl h)
  · exact .inl (.inr h)
  · exact .inr h
end
end Mine
end

section
open PySem PySem.W PyProof.Rows
namespace Mine
section
variable {hz : Heap} {env : Env} {Y : Addr → Prop} {sb s s' : Shared} {pr : List (Addr × Obj)} {pg : List (Nat × GenState)} {σ : Sto} {own : Own}
variable {prog : Program} {w : World} {A : Around} {E : Value → Shared → Prop} {Q : Flow → Shared → Prop}

/-- the list at hand has become another one -/
theorem FSW.changed {W : Addr → Prop} {x : Str} {ds es : List PyData} {a : Addr} {us : Array Value} {h' : Heap} (F : FSW hz env Y sb pr pg W σ (some (x, ds)) s) (l : Loads env s.heap x (.ref a))
    (hw : W a) (hal : a ≠ env.locals) (hac : ∀ y c, env.cells.lookup y = some c → c ≠ a) (hsb : Heap.SameBut a s.heap h') (hp : h'.PlainList a us) (rs : Reps (fun b => Y b ∨ W b) s.heap us.toList es) :
    FSW hz env Y sb pr pg W σ (some (x, es)) { s with heap := h' } := by
  have hkW : HKW W s.heap h' := fun b o n e => (hsb.2 b fun hbt => n (hbt ▸ hw)).trans e
  have hk : HKW (fun a => Y a ∨ W a) s.heap h' := fun b o n e => hkW b o (fun h => n (.inr h)) e
  have hlive : ∀ b, Live s.heap b → Live h' b := fun b ⟨o, e⟩ => by
    by_cases hb : b = a
    · subst hb; obtain ⟨n, e'⟩ := hp; exact ⟨_, e'⟩
    · exact ⟨o, (hsb.2 b hb).trans e⟩
  have hns : ∀ m, s.heap.Ns env.locals m → h'.Ns env.locals m := fun m hm => hm.sameBut hsb fun h => hal h.symm
  have hcell : ∀ y c, env.cells.lookup y = some c → ∀ v, s.heap.IsCell c v → h'.IsCell c v := fun y c e v hv => hv.sameBut hsb (hac y c e)
  have hload : ∀ y u, Loads env s.heap y u → Loads env h' y u := fun y u l => by
    rcases l with ⟨a, m, b, c⟩ | ⟨a, c, b, d⟩
    · exact .inl ⟨a, m, hns m b, c⟩
    · exact .inr ⟨a, c, b, hcell y c b _ d⟩
  refine ⟨fun b o e => ?_, fun b h => hlive b (F.ylive b h), fun b h => ?_, F.wl, F.wc, F.apart, ?_, fun y c e => ?_, fun y e hy => ?_, fun y es' e => ?_, fun p hp => ?_, F.protg, F.kp.trans ⟨hkW, fun _ _ e => e, id, rfl⟩⟩
  · have : ¬ W b := fun hw => by have := (F.wnew b hw).2.1; rw [e] at this; cases this
    exact hkW b o this (F.base b o e)
  · obtain ⟨a1, a2, a3, a4⟩ := F.wnew b h
    exact ⟨a1, a2, hlive b a3, a4⟩
  · obtain ⟨m, hm⟩ := F.ns
    exact ⟨m, hns m hm⟩
  · obtain ⟨v, hv⟩ := F.cells y c e
    exact ⟨v, hcell y c e v hv⟩
  · obtain ⟨u, l, ru⟩ := F.vars y e hy
    exact ⟨u, hload y u l, ru.keepW hk fun _ h => h⟩
  · cases e
    exact ⟨a, us, hload _ _ l, hp, rs.keepW hk fun _ h => h, hw, hal, hac⟩
  · obtain ⟨p1, p2⟩ := F.prot p hp
    exact ⟨(hsb.2 p.1 fun h => p2 (by rw [h]; exact hw)).trans p1, p2⟩

theorem load_own {x : Str} {a : Addr} {np : Pos} {q : Value → Shared → Prop} (l : Loads env s.heap x (.ref a)) (h : q (.ref a) s) (hk : env.scope.kind = .function) (hd : (x == ("__debug__" : Str)) = false)
    (hn : (x == ("__classdict__" : Str)) = false) : wpAny (model prog w) A (eval (.Name x np) env) q E s := by
  refine wpAny_Name ?_ hd
  rcases l with ⟨a, m, b, c⟩ | ⟨a | a, c, b, e⟩
  · exact wpAny_loadName_local hk a b c h
  · exact wpAny_loadName_cell hk a b e h
  · exact wpAny_loadName_free hk a b e h hn

theorem ex_append {x : Str} {e : Expr} {np apos pos spos : Pos} {rest : List Stmt} {ds : List PyData} {d : PyData} (F : FS hz env Y sb pr pg σ (some (x, ds)) s) (he : EV prog w hz A env σ e d)
    (k : ∀ s', FS hz env Y sb pr pg σ (some (x, ds ++ [d])) s' → wpAny (model prog w) A (execs rest env) Q E s') (hn : ds.length ≤ sizeLine)
    (hk : env.scope.kind = .function := by rfl) (hd : (x == ("__debug__" : Str)) = false := by decide) (hcd : (x == ("__classdict__" : Str)) = false := by decide)
    (hbase : attributeBase (.Name x np) "append" env (eval (.Name x np) env) = eval (.Name x np) env := by rfl)
    (hline : (apos.endLine == pos.line) = true := by rfl) (hse : backTo pos (starEach [e] env) = [(false, eval e env)] := by rfl)
    (hi : interactive env = false := by rfl) (hsw : swapsWith (.Call (.Attribute (.Name x np) "append" apos) [e] [] pos) none spos.line env = pure false := by rfl) :
    wpAny (model prog w) A (execs (.Expr (.Call (.Attribute (.Name x np) "append" apos) [e] [] pos) spos :: rest) env) Q E s := by
  obtain ⟨W, F⟩ := F
  obtain ⟨a, vs, l, pl, rs, hw, hal, hac⟩ := F.own x ds rfl
  obtain ⟨n, pe⟩ := id pl
  refine wpAny_execs_cons (wpAny_Expr_any (wpAny_Call_method1_late hbase hline hse (load_own l ?_ hk hd hcd)) hi hsw)
  refine ⟨"list", "list.append", PySem.F.plainAttrs_list, PySem.F.slot_list_append, PySem.F.type_list_append, ⟨_, pe, rfl⟩, fun b e => by cases e; exact ⟨_, pe, rfl⟩, ?_⟩
  refine Calls.callWith_builtin rfl (Calls.evalArgs_plain (Calls.spliced_cons (he.use F.pre fun v s₁ r k₁ p₁ => Calls.spliced_nil ?_)))
  have hsz : vs.size ≤ sizeLine := by have := rs.length; simp at this; omega
  refine wpAny_list_append_plain (pl.at fun o e => k₁.heap _ _ e) (fun h' hp' hs' => ?_) hsz
  refine k _ ⟨W, (F.kpd k₁).changed (l.keep k₁.heap) hw hal hac hs' hp' ?_⟩
  simpa using (rs.keep k₁.heap).append (.cons r .nil)


mutual
theorem Rep.foot {X : Addr → Prop} {h : Heap} : ∀ {v d}, Rep X h v d → ∃ l : List (Addr × Obj), (∀ p ∈ l, h.get? p.1 = some p.2 ∧ ¬ X p.1) ∧ ∀ (X' : Addr → Prop) (h' : Heap), (∀ p ∈ l, h'.get? p.1 = some p.2 ∧ ¬ X' p.1) → Rep X' h' v d
  | _, _, .none => ⟨[], by simp, fun _ _ _ => .none⟩
  | _, _, .bool b => ⟨[], by simp, fun _ _ _ => .bool b⟩
  | _, _, .int i t => ⟨[], by simp, fun _ _ _ => .int i t⟩
  | _, _, .str x t => ⟨[], by simp, fun _ _ _ => .str x t⟩
  | _, _, .list (a := a) (o := o) e c d n r => by
    obtain ⟨l, h1, h2⟩ := Reps.foot r
    refine ⟨(a, o) :: l, fun p hp => ?_, fun X' h' hl => .list (hl (a, o) (by simp)).1 c d (hl (a, o) (by simp)).2 (h2 X' h' fun p hp => hl p (List.mem_cons_of_mem _ hp))⟩
    rcases List.mem_cons.mp hp with rfl | hp
    · exact ⟨e, n⟩
    · exact h1 p hp
  | _, _, .tuple (a := a) (o := o) e c d n r => by
    obtain ⟨l, h1, h2⟩ := Reps.foot r
    refine ⟨(a, o) :: l, fun p hp => ?_, fun X' h' hl => .tuple (hl (a, o) (by simp)).1 c d (hl (a, o) (by simp)).2 (h2 X' h' fun p hp => hl p (List.mem_cons_of_mem _ hp))⟩
    rcases List.mem_cons.mp hp with rfl | hp
    · exact ⟨e, n⟩
    · exact h1 p hp
theorem Reps.foot {X : Addr → Prop} {h : Heap} : ∀ {vs ds}, Reps X h vs ds → ∃ l : List (Addr × Obj), (∀ p ∈ l, h.get? p.1 = some p.2 ∧ ¬ X p.1) ∧ ∀ (X' : Addr → Prop) (h' : Heap), (∀ p ∈ l, h'.get? p.1 = some p.2 ∧ ¬ X' p.1) → Reps X' h' vs ds
  | _, _, .nil => ⟨[], by simp, fun _ _ _ => .nil⟩
  | _, _, .cons r rs => by
    obtain ⟨l, h1, h2⟩ := Rep.foot r
    obtain ⟨l', h1', h2'⟩ := Reps.foot rs
    refine ⟨l ++ l', fun p hp => (List.mem_append.mp hp).elim (h1 p) (h1' p), fun X' h' hl => .cons (h2 X' h' fun p hp => hl p (List.mem_append_left _ hp)) (h2' X' h' fun p hp => hl p (List.mem_append_right _ hp))⟩
end

/-- others have changed what is theirs -/
theorem FSW.moved {W : Addr → Prop} {q q' : List (Addr × Obj)} {wr : List Addr} {h' : Heap} {tk : Nat} (F : FSW hz env Y sb (q ++ pr) pg W σ own s) (hk : ∀ b o, b ∉ wr → s.heap.get? b = some o → h'.get? b = some o)
    (hwr : ∀ b ∈ wr, Y b) (hnew : ∀ b ∈ wr, hz.get? b = none ∧ sb.heap.get? b = none) (hl : ∀ b ∈ wr, Live h' b) (hpr : ∀ p ∈ pr, p.1 ∉ wr) (hq : ∀ p ∈ q', h'.get? p.1 = some p.2 ∧ ∃ p' ∈ q, p'.1 = p.1) :
    FSW hz env Y sb (q' ++ pr) pg W σ own { s with heap := h', toks := tk } := by
  have hkX : HKW (fun a => Y a ∨ W a) s.heap h' := fun b o n e => hk b o (fun h => n (.inl (hwr b h))) e
  have hww : ∀ b, W b → b ∉ wr := fun b h hb => (F.wnew b h).1 (hwr b hb)
  have hkw : ∀ b, W b → ∀ o, s.heap.get? b = some o → h'.get? b = some o := fun b h o e => hk b o (hww b h) e
  have hlive : ∀ b, Live s.heap b → Live h' b := fun b ⟨o, e⟩ => by
    by_cases hb : b ∈ wr
    · exact hl b hb
    · exact ⟨o, hk b o hb e⟩
  have hns : ∀ m, s.heap.Ns env.locals m → h'.Ns env.locals m := fun m hm => hm.at' fun o e => hkw _ F.wl o e
  have hcell : ∀ y c, env.cells.lookup y = some c → ∀ v, s.heap.IsCell c v → h'.IsCell c v := fun y c e v ⟨o, ho, hd⟩ => ⟨o, hkw c (F.wc y c e).1 o ho, hd⟩
  have hload : ∀ y u, Loads env s.heap y u → Loads env h' y u := fun y u l => by
    rcases l with ⟨a, m, b, c⟩ | ⟨a, c, b, d⟩
    · exact .inl ⟨a, m, hns m b, c⟩
    · exact .inr ⟨a, c, b, hcell y c b _ d⟩
  refine ⟨fun b o e => ?_, fun b h => hlive b (F.ylive b h), fun b h => ?_, F.wl, F.wc, F.apart, ?_, fun y c e => ?_, fun y e hy => ?_, fun y es' e => ?_, fun p hp => ?_, F.protg, ⟨fun b o n e => hk b o (fun hb => by have := (hnew b hb).2; rw [e] at this; cases this) (F.kp.heap b o n e), F.kp.gens, F.kp.bare, F.kp.os⟩⟩
  · exact hk b o (fun hb => by have := (hnew b hb).1; rw [e] at this; cases this) (F.base b o e)
  · obtain ⟨a1, a2, a3, a4⟩ := F.wnew b h
    exact ⟨a1, a2, hlive b a3, a4⟩
  · obtain ⟨m, hm⟩ := F.ns
    exact ⟨m, hns m hm⟩
  · obtain ⟨v, hv⟩ := F.cells y c e
    exact ⟨v, hcell y c e v hv⟩
  · obtain ⟨u, l, ru⟩ := F.vars y e hy
    exact ⟨u, hload y u l, ru.keepW hkX fun _ h => h⟩
  · obtain ⟨a, vs, l, pl, rs, hw, hal, hac⟩ := F.own y es' e
    exact ⟨a, vs, hload _ _ l, pl.at fun o e => hkw a hw o e, rs.keepW hkX fun _ h => h, hw, hal, hac⟩
  · rcases List.mem_append.mp hp with hp | hp
    · obtain ⟨e, p', hp', hpe⟩ := hq p hp
      exact ⟨e, hpe ▸ (F.prot p' (List.mem_append_left _ hp')).2⟩
    · obtain ⟨e, n⟩ := F.prot p (List.mem_append_right _ hp)
      exact ⟨hk _ _ (hpr p hp) e, n⟩

/-- the same, at the last change: their places are asked for no more -/
theorem FSW.movedOut {W : Addr → Prop} {q : List (Addr × Obj)} {wr : List Addr} {h' : Heap} {tk : Nat} (F : FSW hz env (fun b => Y b ∨ b ∈ wr) sb q pg W σ own s) (hk : ∀ b o, b ∉ wr → s.heap.get? b = some o → h'.get? b = some o)
    (hnew : ∀ b ∈ wr, hz.get? b = none ∧ sb.heap.get? b = none ∧ ¬ Y b) (hpr : ∀ p ∈ pr, p.1 ∉ wr ∧ p ∈ q) :
    FSW hz env Y sb pr pg W σ own { s with heap := h', toks := tk } := by
  have hkX : HKW (fun a => (Y a ∨ a ∈ wr) ∨ W a) s.heap h' := fun b o n e => hk b o (fun h => n (.inl (.inr h))) e
  have le : ∀ a, (Y a ∨ W a) → ((Y a ∨ a ∈ wr) ∨ W a) := fun a h => h.imp .inl id
  have hww : ∀ b, W b → b ∉ wr := fun b h hb => (F.wnew b h).1 (.inr hb)
  have hkw : ∀ b, W b → ∀ o, s.heap.get? b = some o → h'.get? b = some o := fun b h o e => hk b o (hww b h) e
  have hns : ∀ m, s.heap.Ns env.locals m → h'.Ns env.locals m := fun m hm => hm.at' fun o e => hkw _ F.wl o e
  have hcell : ∀ y c, env.cells.lookup y = some c → ∀ v, s.heap.IsCell c v → h'.IsCell c v := fun y c e v ⟨o, ho, hd⟩ => ⟨o, hkw c (F.wc y c e).1 o ho, hd⟩
  have hload : ∀ y u, Loads env s.heap y u → Loads env h' y u := fun y u l => by
    rcases l with ⟨a, m, b, c⟩ | ⟨a, c, b, d⟩
    · exact .inl ⟨a, m, hns m b, c⟩
    · exact .inr ⟨a, c, b, hcell y c b _ d⟩
  refine ⟨fun b o e => ?_, fun b h => ?_, fun b h => ?_, F.wl, F.wc, F.apart, ?_, fun y c e => ?_, fun y e hy => ?_, fun y es' e => ?_, fun p hp => ?_, F.protg, ⟨fun b o n e => hk b o (fun hb => by have := (hnew b hb).2.1; rw [e] at this; cases this) (F.kp.heap b o n e), F.kp.gens, F.kp.bare, F.kp.os⟩⟩
  · exact hk b o (fun hb => by have := (hnew b hb).1; rw [e] at this; cases this) (F.base b o e)
  · obtain ⟨o, e⟩ := F.ylive b (.inl h)
    exact ⟨o, hk b o (fun hb => (hnew b hb).2.2 h) e⟩
  · obtain ⟨a1, a2, ⟨o, e⟩, a4⟩ := F.wnew b h
    exact ⟨fun y => a1 (.inl y), a2, ⟨o, hkw b h o e⟩, a4⟩
  · obtain ⟨m, hm⟩ := F.ns
    exact ⟨m, hns m hm⟩
  · obtain ⟨v, hv⟩ := F.cells y c e
    exact ⟨v, hcell y c e v hv⟩
  · obtain ⟨u, l, ru⟩ := F.vars y e hy
    exact ⟨u, hload y u l, ru.keepW hkX le⟩
  · obtain ⟨a, vs, l, pl, rs, hw, hal, hac⟩ := F.own y es' e
    exact ⟨a, vs, hload _ _ l, pl.at fun o e => hkw a hw o e, rs.keepW hkX le, hw, hal, hac⟩
  · obtain ⟨e, n⟩ := F.prot p (hpr p hp).2
    exact ⟨hk _ _ (hpr p hp).1 e, n⟩

theorem FSW.lessY {W Y' : Addr → Prop} (F : FSW hz env Y' sb pr pg W σ own s) (hY : ∀ a, Y a → Y' a) : FSW hz env Y sb pr pg W σ own s := by
  have le : ∀ b, (Y b ∨ W b) → (Y' b ∨ W b) := fun b h => h.imp (hY b) id
  exact { F with
    ylive := fun a h => F.ylive a (hY a h)
    wnew := fun a h => let ⟨a1, a2⟩ := F.wnew a h; ⟨fun y => a1 (hY a y), a2⟩
    vars := fun x d e => let ⟨v, l, r⟩ := F.vars x d e; ⟨v, l, r.less le⟩
    own := fun x ds e => let ⟨a, vs, l, p, r, t⟩ := F.own x ds e; ⟨a, vs, l, p, r.less le, t⟩ }
theorem FSW.lessPr {W : Addr → Prop} {q : List (Addr × Obj)} (F : FSW hz env Y sb q pg W σ own s) (h : ∀ p ∈ pr, p ∈ q) : FSW hz env Y sb pr pg W σ own s :=
  { F with prot := fun p hp => F.prot p (h p hp) }
theorem FS.lessY {Y' : Addr → Prop} (F : FS hz env Y' sb pr pg σ own s) (hY : ∀ a, Y a → Y' a) : FS hz env Y sb pr pg σ own s := let ⟨W, f⟩ := F; ⟨W, f.lessY hY⟩
theorem FS.lessPr {q : List (Addr × Obj)} (F : FS hz env Y sb q pg σ own s) (h : ∀ p ∈ pr, p ∈ q) : FS hz env Y sb pr pg σ own s := let ⟨W, f⟩ := F; ⟨W, f.lessPr h⟩
/-- new places become others' -/
theorem FSW.moreY {W : Addr → Prop} {wr : List Addr} (F : FSW hz env Y sb pr pg W σ own s) (k : Kp s s') (hf : ∀ b ∈ wr, s.heap.get? b = none) (hl : ∀ b ∈ wr, Live s'.heap b) :
    FSW hz env (fun b => Y b ∨ b ∈ wr) sb pr pg W σ own s' := by
  have hne : ∀ b, Live s.heap b → b ∉ wr := fun b ⟨o, e⟩ h => by have := hf b h; rw [e] at this; cases this
  have more : ∀ b, Live s.heap b → ((Y b ∨ b ∈ wr) ∨ W b) → (Y b ∨ W b) := fun b hb h => h.imp (fun h => h.elim id fun h => (hne b hb h).elim) id
  have F' := F.kpd k
  exact { F' with
    ylive := fun a h => h.elim (F'.ylive a) (hl a)
    wnew := fun a h => let ⟨a1, a2, a3, a4⟩ := F.wnew a h; ⟨fun y => y.elim a1 (hne a a3), a2, a3.hk k.heap, a4⟩
    vars := fun x d e => let ⟨v, l, r⟩ := F.vars x d e; ⟨v, l.keep k.heap, (r.more more).keep k.heap⟩
    own := fun x ds e => let ⟨a, vs, l, p, r, t⟩ := F.own x ds e; ⟨a, vs, l.keep k.heap, p.at fun _ e => k.heap _ _ e, (r.more more).keep k.heap, t⟩ }
theorem FSW.addPr {W : Addr → Prop} {q : List (Addr × Obj)} (F : FSW hz env Y sb pr pg W σ own s) (h : ∀ p ∈ q, s.heap.get? p.1 = some p.2 ∧ ¬ W p.1) : FSW hz env Y sb (q ++ pr) pg W σ own s :=
  { F with prot := fun p hp => (List.mem_append.mp hp).elim (h p) (F.prot p) }
/-- behind the block: all that was there before it stands -/
theorem FS.out (F : FS hz env Y sb pr pg σ own s) : Kp sb s := by
  obtain ⟨W, F⟩ := F
  exact ⟨fun b o e => F.kp.heap b o (fun hw => by have := (F.wnew b hw).2.2.2; rw [e] at this; cases this) e, F.kp.gens, F.kp.bare, F.kp.os⟩

theorem ex_while {t : Expr} {body rest : List Stmt} {pos : Pos} (I : Nat → Sto → Own → Prop) {n : Nat} (hI : I n σ own) (F : FS hz env Y sb pr pg σ own s)
    (turn : ∀ n σ own, I n σ own → ∃ b, EB prog w hz A env (σ.and own) t b ∧
      (b = true → ∀ s E', FS hz env Y sb pr pg σ own s → wpAny (model prog w) A (execs body env) (fun f s₃ => match f with
        | .next | .cont => ∃ m σ' own', m < n ∧ I m σ' own' ∧ FS hz env Y sb pr pg σ' own' s₃
        | .brk => wpAny (model prog w) A (execs rest env) Q E s₃
        | .ret v => Q (.ret v) s₃) E' s) ∧
      (b = false → ∀ s, FS hz env Y sb pr pg σ own s → wpAny (model prog w) A (execs rest env) Q E s)) :
    wpAny (model prog w) A (execs (.While t body [] pos :: rest) env) Q E s := by
  refine wpAny_execs_cons (wpAny_While (codeAny_whileLoop (fun n s => ∃ σ own, I n σ own ∧ FS hz env Y sb pr pg σ own s) (fun n s h => ?_) n ⟨σ, own, hI, F⟩))
  obtain ⟨σ, own, hI, F⟩ := h
  obtain ⟨b, hb, h1, h2⟩ := turn n σ own hI
  refine hb.use F.preY fun s₁ k₁ _ => ?_
  cases b
  · exact wpAny_execs_nil (h2 rfl s₁ (F.kpd k₁))
  · refine wpAny_mono (h1 rfl s₁ _ (F.kpd k₁)) (fun f s₃ h => ?_) fun _ _ e => e
    cases f with
    | next => obtain ⟨m, σ', own', h⟩ := h; exact ⟨m, h.1, σ', own', h.2⟩
    | cont => obtain ⟨m, σ', own', h⟩ := h; exact ⟨m, h.1, σ', own', h.2⟩
    | brk => exact h
    | ret v => exact h

/-- it walks the data ds -/
def Iter (prog : Program) (w : World) (A : Around) (X : Addr → Prop) (ds : List PyData) (s s₂ : Shared) (it : Value) : Prop :=
  ∃ I fp wr P St, ∃ l : List (Addr × Obj), it = .ref I ∧ Walks prog w A I fp wr ds.length P St ∧ St 0 s₂.heap ∧ (∀ i h, St i h → ∀ b ∈ fp, Live h b) ∧ (∀ b ∈ wr, s.heap.get? b = none) ∧ (∀ b ∈ fp, ¬ X b) ∧
    (∀ p ∈ l, s₂.heap.get? p.1 = some p.2 ∧ ¬ X p.1 ∧ p.1 ∉ wr) ∧
    (∀ i v d, P i v → ds[i]? = some d → ∀ (X' : Addr → Prop) (h' : Heap), (∀ p ∈ l, h'.get? p.1 = some p.2 ∧ ¬ X' p.1) → Rep X' h' v d) ∧ Kp s s₂
def IT (prog : Program) (w : World) (hz : Heap) (A : Around) (env : Env) (σ : Sto) (e : Expr) (ds : List PyData) : Prop :=
  ∀ (X : Addr → Prop) (s : Shared) (E : Value → Shared → Prop), Pre hz env X σ s → wpAny (model prog w) A (eval e env) (fun v s₁ => wpAny (model prog w) A (pyIter v) (fun it s₂ => Iter prog w A X ds s s₂ it) E s₁) E s

def protOf (h : Heap) (fp : List Addr) : List (Addr × Obj) := fp.filterMap fun b => (h.get? b).map fun o => (b, o)
theorem mem_protOf {h : Heap} {fp : List Addr} {p : Addr × Obj} : p ∈ protOf h fp ↔ p.1 ∈ fp ∧ h.get? p.1 = some p.2 := by
  obtain ⟨a, o⟩ := p
  simp only [protOf, List.mem_filterMap, Option.map_eq_some_iff]
  constructor
  · rintro ⟨b, hb, o', e, he⟩
    cases he; exact ⟨hb, e⟩
  · rintro ⟨h1, h2⟩
    exact ⟨a, h1, o, h2, rfl⟩

theorem ex_for {x : Str} {px pos : Pos} {iter : Expr} {body rest : List Stmt} {ds : List PyData} (F : FS hz env Y sb pr pg σ own s) (hit : IT prog w hz A env σ iter ds)
    (J : Nat → Sto → Own → Prop) (JB : Sto → Own → Prop) (h0 : J 0 σ own)
    (turn : ∀ i d σ own Y' pr' s E', ds[i]? = some d → J i σ own → (∀ a, Y a → Y' a) → FS hz env Y' sb pr' pg (σ.set x d) own s → wpAny (model prog w) A (execs body env) (fun f s₃ => match f with
        | .next | .cont => ∃ σ' own', J (i + 1) σ' own' ∧ FS hz env Y' sb pr' pg σ' own' s₃
        | .brk => ∃ σ' own', JB σ' own' ∧ FS hz env Y' sb pr' pg σ' own' s₃
        | .ret v => Q (.ret v) s₃) E' s)
    (done : ∀ σ own s, J ds.length σ own → FS hz env Y sb pr pg σ own s → wpAny (model prog w) A (execs rest env) Q E s)
    (broke : ∀ σ own s, JB σ own → FS hz env Y sb pr pg σ own s → wpAny (model prog w) A (execs rest env) Q E s)
    (hown : ∀ i σ y es, J i σ (some (y, es)) → y ≠ x) (hs : Stores env x)
    (hfs : ∀ v, foldedSetIterable iter env v = pure v := by intro _; rfl) :
    wpAny (model prog w) A (execs (.For (.Name x px) iter body [] pos :: rest) env) Q E s := by
  obtain ⟨W, F⟩ := F
  refine wpAny_execs_cons (wpAny_For (wpAny_mono (hit _ s E F.pre) (fun v s₁ h₁ => wpAny_mono h₁ (fun it s₂ h₂ => ?_) fun _ _ e => e) fun _ _ e => e) hfs)
  obtain ⟨I, fp, wr, P, St, l, rfl, Wk, hst, hfl, hwr, hfX, hl1, hl2, k₂⟩ := h₂
  have hwf : ∀ b ∈ wr, b ∈ fp := Wk.sub
  have hnew : ∀ b ∈ wr, hz.get? b = none ∧ sb.heap.get? b = none := fun b hb => by
    constructor
    · cases hq : hz.get? b with
      | none => rfl
      | some o => have := hwr b hb; rw [F.base b o hq] at this; cases this
    · cases hq : sb.heap.get? b with
      | none => rfl
      | some o =>
        by_cases hw : W b
        · have := (F.wnew b hw).2.2.2; rw [hq] at this; cases this
        · have := hwr b hb; rw [F.kp.heap b o hw hq] at this; cases this
  have F2 : FSW hz env (fun b => Y b ∨ b ∈ wr) sb (protOf s₂.heap fp ++ (l ++ pr)) pg W σ own s₂ := by
    refine FSW.addPr (FSW.addPr (F.moreY k₂ hwr fun b hb => hfl 0 _ hst b (hwf b hb)) fun p hp => ⟨(hl1 p hp).1, fun h => (hl1 p hp).2.1 (.inr h)⟩) fun p hp => ?_
    obtain ⟨h1, h2⟩ := mem_protOf.mp hp
    exact ⟨h2, fun h => hfX _ h1 (.inr h)⟩
  have hprw : ∀ p ∈ l ++ pr, p.1 ∉ wr := fun p hp hw => by
    rcases List.mem_append.mp hp with hp | hp
    · exact (hl1 p hp).2.2 hw
    · have := hwr _ hw; rw [(F.prot p hp).1] at this; cases this
  have back : ∀ {q : List (Addr × Obj)} {σ' own' s'}, FS hz env (fun b => Y b ∨ b ∈ wr) sb (q ++ (l ++ pr)) pg σ' own' s' → FS hz env Y sb pr pg σ' own' s' := fun G =>
    (G.lessY fun a h => .inl h).lessPr fun p hp => List.mem_append_right _ (List.mem_append_right _ hp)
  refine codeAny_forLoop (fun n s => ∃ i σ own, n = ds.length - i ∧ i ≤ ds.length ∧ J i σ own ∧ St i s.heap ∧ FS hz env (fun b => Y b ∨ b ∈ wr) sb (protOf s.heap fp ++ (l ++ pr)) pg σ own s) (fun n s h => ?_) ds.length
    ⟨0, σ, own, by omega, Nat.zero_le _, h0, hst, W, F2⟩
  obtain ⟨i, σ, own, rfl, hi, hJ, hst, W', G⟩ := h
  by_cases hlt : i < ds.length
  · refine Wk.item i s _ _ hlt hst fun v h' tk hPv hst' hk' => ?_
    have G1 : FSW hz env (fun b => Y b ∨ b ∈ wr) sb (protOf h' fp ++ (l ++ pr)) pg W' σ own { s with heap := h', toks := tk } := by
      refine G.moved hk' (fun b hb => .inr hb) hnew (fun b hb => hfl _ _ hst' b (hwf b hb)) hprw fun p hp => ?_
      obtain ⟨h1, h2⟩ := mem_protOf.mp hp
      obtain ⟨o, ho⟩ := hfl _ _ hst p.1 h1
      exact ⟨h2, (p.1, o), mem_protOf.mpr ⟨h1, ho⟩, rfl⟩
    obtain ⟨d, hd⟩ : ∃ d, ds[i]? = some d := ⟨ds[i], by simp [hlt]⟩
    have rv : Rep (fun a => (Y a ∨ a ∈ wr) ∨ W' a) h' v d := hl2 i v d hPv hd _ _ fun p hp => by
      obtain ⟨e, nw⟩ := G1.prot p (List.mem_append_right _ (List.mem_append_left _ hp))
      refine ⟨e, fun h => ?_⟩
      rcases h with (h | h) | h
      · exact (hl1 p hp).2.1 (.inl h)
      · exact (hl1 p hp).2.2 h
      · exact nw h
    refine wpAny_assign_Name (ex_store G1 rv hs (fun y es e => ?_) fun s₃ G3 => ?_)
    · subst e; exact hown i σ y es hJ
    refine wpAny_mono (turn i d σ own _ _ s₃ _ hd hJ (fun a h => .inl h) G3) (fun f s₄ h => ?_) fun _ _ e => e
    have nxt : (∃ σ' own', J (i + 1) σ' own' ∧ FS hz env (fun b => Y b ∨ b ∈ wr) sb (protOf h' fp ++ (l ++ pr)) pg σ' own' s₄) →
        ∃ m, m < ds.length - i ∧ ∃ i' σ own, m = ds.length - i' ∧ i' ≤ ds.length ∧ J i' σ own ∧ St i' s₄.heap ∧ FS hz env (fun b => Y b ∨ b ∈ wr) sb (protOf s₄.heap fp ++ (l ++ pr)) pg σ own s₄ := by
      rintro ⟨σ', own', hJ', W4, G4⟩
      have same : ∀ b ∈ fp, ∀ o, h'.get? b = some o → s₄.heap.get? b = some o := fun b hb o e => (G4.prot (b, o) (List.mem_append_left _ (mem_protOf.mpr ⟨hb, e⟩))).1
      refine ⟨ds.length - (i + 1), by omega, i + 1, σ', own', rfl, hlt, hJ', Wk.frame _ _ _ hst' same, W4, G4.lessPr fun p hp => ?_⟩
      rcases List.mem_append.mp hp with hp | hp
      · obtain ⟨h1, h2⟩ := mem_protOf.mp hp
        obtain ⟨o, ho⟩ := hfl _ _ hst' p.1 h1
        have := same _ h1 o ho
        rw [h2] at this; cases this
        exact List.mem_append_left _ (mem_protOf.mpr ⟨h1, ho⟩)
      · exact List.mem_append_right _ hp
    cases f with
    | next => exact nxt h
    | cont => exact nxt h
    | brk => obtain ⟨σ', own', hB, G4⟩ := h; exact broke σ' own' s₄ hB (back G4)
    | ret v => exact h
  · have hin : i = ds.length := by omega
    subst hin
    refine Wk.done s _ _ hst fun h' tk hk' => wpAny_execs_nil (done σ own _ hJ ?_)
    refine ⟨W', G.movedOut hk' (fun b hb => ⟨(hnew b hb).1, (hnew b hb).2, fun hy => ?_⟩) fun p hp => ⟨hprw p (List.mem_append_right _ hp), List.mem_append_right _ (List.mem_append_right _ hp)⟩⟩
    obtain ⟨o, e⟩ := F.ylive b hy
    have := hwr b hb; rw [e] at this; cases this
end
end Mine
end

section
open PySem PySem.W PyProof.Rows
namespace Mine
section
variable {hz : Heap} {env : Env} {σ : Sto} {prog : Program} {w : World} {A : Around} {mg mb : Str → Option Value}

theorem it_list {e : Expr} {ds : List PyData} (he : EV prog w hz A env σ e (.list ds)) (hh : A.handled = none) : IT prog w hz A env σ e ds := by
  intro X s E p
  refine he.use p fun v s₁ r k₁ p₁ => ?_
  obtain ⟨a, vs, rfl, hl, hX, rs⟩ := r.isList
  have hlen : vs.size = ds.length := by have := rs.length; simpa using this
  refine wpAny_pyIter_list hl ?_
  have hlive : ∀ b, Live s₁.heap b → b ≠ s₁.heap.objs.size := fun b ⟨o, e⟩ h => absurd (Heap.lt_size e) (by rw [h]; exact Nat.lt_irrefl _)
  have hal : Live s₁.heap a := let ⟨o, e, _⟩ := hl; ⟨o, e⟩
  obtain ⟨l, h1, h2⟩ := rs.foot
  refine ⟨s₁.heap.objs.size, [s₁.heap.objs.size, a], [s₁.heap.objs.size], _, _, l, rfl, hlen ▸ Walks.list hh _ a (hlive a hal) vs, ⟨⟨_, Heap.get?_push_size _ rfl, rfl, rfl⟩, hl.push _⟩, fun i h st b hb => ?_, fun b hb => ?_, fun b hb => ?_, fun p hp => ?_, fun i v d hP hd X' h' hl' => ?_, k₁.trans .push⟩
  · simp at hb
    rcases hb with rfl | rfl
    · obtain ⟨⟨o, e, _⟩, _⟩ := st; exact ⟨o, e⟩
    · obtain ⟨_, ⟨o, e, _⟩⟩ := st; exact ⟨o, e⟩
  · simp at hb; subst hb
    cases hq : s.heap.get? s₁.heap.objs.size with
    | none => rfl
    | some o => exact absurd rfl (hlive _ ⟨o, k₁.heap _ _ hq⟩)
  · simp at hb
    rcases hb with rfl | rfl
    · exact p₁.fresh (fresh_size _)
    · exact hX
  · exact ⟨Heap.get?_push_of_some _ (h1 p hp).1, (h1 p hp).2, by simp; exact hlive _ ⟨_, (h1 p hp).1⟩⟩
  · obtain ⟨v', hv', rv⟩ := (h2 X' h' hl').get i hd
    have : vs.toList[i]? = some v := by simpa using hP
    rw [this] at hv'; cases hv'
    exact rv
theorem it_tuple {e : Expr} {ds : List PyData} (he : EV prog w hz A env σ e (.tuple ds)) (hh : A.handled = none) : IT prog w hz A env σ e ds := by
  intro X s E p
  refine he.use p fun v s₁ r k₁ p₁ => ?_
  obtain ⟨a, o, vs, n, rfl, eo, ec, ed, hX, rs⟩ := r.isTuple
  have hl : s₁.heap.IsTuple a vs := ⟨o, eo, ec, n, ed⟩
  have hlen : vs.size = ds.length := by have := rs.length; simpa using this
  refine wpAny_pyIter_tuple hl ?_
  have hlive : ∀ b, Live s₁.heap b → b ≠ s₁.heap.objs.size := fun b ⟨o, e⟩ h => absurd (Heap.lt_size e) (by rw [h]; exact Nat.lt_irrefl _)
  have hal : Live s₁.heap a := ⟨o, eo⟩
  obtain ⟨l, h1, h2⟩ := rs.foot
  refine ⟨s₁.heap.objs.size, [s₁.heap.objs.size, a], [s₁.heap.objs.size], _, _, l, rfl, hlen ▸ Walks.tuple hh _ a (hlive a hal) vs, ⟨⟨_, Heap.get?_push_size _ rfl, rfl, rfl⟩, ⟨o, Heap.get?_push_of_some _ eo, ec, n, ed⟩⟩, fun i h st b hb => ?_, fun b hb => ?_, fun b hb => ?_, fun p hp => ?_, fun i v d hP hd X' h' hl' => ?_, k₁.trans .push⟩
  · simp at hb
    rcases hb with rfl | rfl
    · obtain ⟨⟨o, e, _⟩, _⟩ := st; exact ⟨o, e⟩
    · obtain ⟨_, ⟨o, e, _⟩⟩ := st; exact ⟨o, e⟩
  · simp at hb; subst hb
    cases hq : s.heap.get? s₁.heap.objs.size with
    | none => rfl
    | some o => exact absurd rfl (hlive _ ⟨o, k₁.heap _ _ hq⟩)
  · simp at hb
    rcases hb with rfl | rfl
    · exact p₁.fresh (fresh_size _)
    · exact hX
  · exact ⟨Heap.get?_push_of_some _ (h1 p hp).1, (h1 p hp).2, by simp; exact hlive _ ⟨_, (h1 p hp).1⟩⟩
  · obtain ⟨v', hv', rv⟩ := (h2 X' h' hl').get i hd
    have : vs.toList[i]? = some v := by simpa using hP
    rw [this] at hv'; cases hv'
    exact rv

def upFrom (a : Int) (n : Nat) : List Int := (List.range n).map fun (i : Nat) => a + i
theorem small_one {a b : Int} (ha : -(2 ^ 62) ≤ a) (hb : b < 2 ^ 62) (ha' : a < 2 ^ 62) (hb' : -(2 ^ 62) ≤ b) : Builtin.Range.small a b 1 = true := by
  have h := rangeSize_one a b
  unfold Builtin.Range.small Builtin.Range.rangeFitsLong
  rw [h]
  simp only [Bool.and_eq_true, Bool.or_eq_true, decide_eq_true_eq, show (1 : Int) > 0 by decide, if_true]
  split <;> simp <;> omega
theorem iter_range {X : Addr → Prop} {s s₁ : Shared} {E : Value → Shared → Prop} {r : Addr} {a b : Int} {m : Nat} {t u v : Tok} (p₁ : Pre hz env X σ s₁) (hr : IsRange s₁.heap r a b 1 t u v) (k₁ : Kp s s₁) (hh : A.handled = none)
    (ha : -(2 ^ 62) ≤ a) (hb : b < 2 ^ 62) (ha' : a < 2 ^ 62) (hb' : -(2 ^ 62) ≤ b) (hm : m = (b - a).toNat) : wpAny (model prog w) A (pyIter (.ref r)) (fun it s₂ => Iter prog w A X (ils (upFrom a m)) s s₂ it) E s₁ := by
  subst hm
  refine wpAny_pyIter_range hr (small_one ha hb ha' hb') ?_
  have hlive : ∀ b, Live s₁.heap b → b ≠ s₁.heap.objs.size := fun b ⟨o, e⟩ h => absurd (Heap.lt_size e) (by rw [h]; exact Nat.lt_irrefl _)
  have hlen : (b - a).toNat = (ils (upFrom a (b - a).toNat)).length := by simp [upFrom]
  have hst : IsRangeIter (s₁.heap.push { cls := .type "range_iterator", data := .fields #[rawInt a, rawInt (Builtin.Range.rangeSize a b 1), rawInt 1] }) s₁.heap.objs.size (a + ((0 : Nat) : Int) * 1) (((b - a).toNat : Int) - ((0 : Nat) : Int)) 1 := by
    have e1 : a + ((0 : Nat) : Int) * 1 = a := by simp
    have e2 : ((b - a).toNat : Int) - ((0 : Nat) : Int) = Builtin.Range.rangeSize a b 1 := by rw [rangeSize_nat]; simp
    rw [e1, e2]
    exact Heap.get?_push_size _ rfl
  refine ⟨s₁.heap.objs.size, [s₁.heap.objs.size], [s₁.heap.objs.size], fun i v => ∃ t, v = .int (a + (i : Nat) * 1) t, fun i h => IsRangeIter h s₁.heap.objs.size (a + (i : Nat) * 1) (((b - a).toNat : Int) - (i : Nat)) 1, [], rfl, by rw [← hlen]; exact Walks.range hh s₁.heap.objs.size a 1 (b - a).toNat, hst, fun i h st b hb => ?_, fun b hb => ?_, fun b hb => ?_, by simp, fun i v d hP hd X' h' hl' => ?_, k₁.trans .push⟩
  · simp at hb; subst hb; exact ⟨_, st⟩
  · simp at hb; subst hb
    cases hq : s.heap.get? s₁.heap.objs.size with
    | none => rfl
    | some o => exact absurd rfl (hlive _ ⟨o, k₁.heap _ _ hq⟩)
  · simp at hb; subst hb; exact p₁.fresh (fresh_size _)
  · obtain ⟨t, rfl⟩ := hP
    simp only [List.getElem?_map, upFrom, Option.map_eq_some_iff] at hd
    obtain ⟨x, ⟨y, hy, rfl⟩, rfl⟩ := hd
    have : y = i := by
      rw [List.getElem?_range] at hy
      · simpa using hy.symm
      · rcases Nat.lt_or_ge i (b - a).toNat with h | h
        · exact h
        · rw [List.getElem?_eq_none (by simpa using h)] at hy; cases hy
    subst this
    rw [Int.mul_one]
    exact .int _ _

theorem it_range1 {x : Str} {np pos : Pos} {e : Expr} {b : Int} (G : Gl hz mg mb) (he : EV prog w hz A env σ e (.int b)) (hv : mg x = none) (hb : mb x = some (.type "range")) (hh : A.handled = none) (h0 : -(2 ^ 62) ≤ b) (h1 : b < 2 ^ 62)
    (hk : env.scope.kind = .function := by rfl) (hx : env.kindOf x = some .globalImplicit := by rfl) (hg : env.globals = mainGlobals := by rfl) (hbn : env.builtins = builtinsNs := by rfl) (hd : (x == ("__debug__" : Str)) = false := by decide)
    (hse : starEach [e] env = (false, eval e env) :: starEach [] env := by rfl) :
    IT prog w hz A env σ (.Call (.Name x np) [e] [] pos) (ils (upFrom 0 b.toNat)) := by
  intro X s E p
  refine Call_ (built_name G p hv hb (PyProof.Rows.callWith_type1 ((evs_cons he evs_nil hse).use p fun vs s₁ rs k p₁ => ?_) hse) hk hx hg hbn hd)
  cases rs with
  | cons r1 rs =>
    cases rs; cases r1
    refine call_range_1 ?_
    exact iter_range (prog := prog) (w := w) (A := A) (E := E) (p₁.kp (Kp.ht (tk := s₁.toks + 1 + 1) (.push _ _))) (IsRange.new ..) (k.trans (.ht (tk := s₁.toks + 1 + 1) (.push _ _))) hh (by decide) h1 (by decide) h0 (by simp)
theorem it_range2 {x : Str} {np pos : Pos} {e f : Expr} {a b : Int} (G : Gl hz mg mb) (he : EV prog w hz A env σ e (.int a)) (hf : EV prog w hz A env σ f (.int b)) (hv : mg x = none) (hb : mb x = some (.type "range")) (hh : A.handled = none)
    (h0 : -(2 ^ 62) ≤ b) (h1 : b < 2 ^ 62) (h2 : -(2 ^ 62) ≤ a) (h3 : a < 2 ^ 62)
    (hk : env.scope.kind = .function := by rfl) (hx : env.kindOf x = some .globalImplicit := by rfl) (hg : env.globals = mainGlobals := by rfl) (hbn : env.builtins = builtinsNs := by rfl) (hd : (x == ("__debug__" : Str)) = false := by decide)
    (hse : starEach [e, f] env = (false, eval e env) :: starEach [f] env := by rfl) (hse' : starEach [f] env = (false, eval f env) :: starEach [] env := by rfl) :
    IT prog w hz A env σ (.Call (.Name x np) [e, f] [] pos) (ils (upFrom a (b - a).toNat)) := by
  intro X s E p
  refine Call_ (built_name G p hv hb (PyProof.Rows.callWith_type1 ((evs_cons he (evs_cons hf evs_nil hse') hse).use p fun vs s₁ rs k p₁ => ?_) hse (by rw [hse']; rfl)) hk hx hg hbn hd)
  cases rs with
  | cons r1 rs =>
    cases rs with
    | cons r2 rs =>
      cases rs; cases r1; cases r2
      refine call_range_2 ?_
      exact iter_range (prog := prog) (w := w) (A := A) (E := E) (p₁.kp (Kp.ht (tk := s₁.toks + 1) (.push _ _))) (IsRange.new ..) (k.trans (.ht (tk := s₁.toks + 1) (.push _ _))) hh h2 h1 h3 h0 rfl
end
end Mine
end

section
open PySem PySem.W PyProof.Rows
namespace Mine

/-- room for n frames more -/
structure Ok (A : Around) (n : Nat) : Prop where
  handled : A.handled = none
  depth : A.depth + n < recursionLimit
  units : A.units + 8 * n + 200 < cLine
theorem Ok.deeper {A : Around} {n : Nat} (h : Ok A (n + 1)) (env : Env) : Ok (A.deeper env) n :=
  ⟨h.handled, by have := h.depth; show A.depth + 1 + n < _; omega, by have := h.units; show A.units + 3 + 8 * n + 200 < _; omega⟩
theorem Ok.less {A : Around} {n m : Nat} (h : Ok A n) (hm : m ≤ n) : Ok A m := ⟨h.handled, by have := h.depth; omega, by have := h.units; omega⟩
theorem Ok.u64 {A : Around} {n : Nat} (h : Ok A n) : A.units + 64 < cLine := by have := h.units; omega

/-- the def at f, called upon ds, gives d back and changes nothing that was there -/
def FN (prog : Program) (w : World) (hz : Heap) (n : Nat) (f : Addr) (ds : List PyData) (d : PyData) : Prop :=
  ∀ (A : Around) (X : Addr → Prop) (s : Shared) (E : Value → Shared → Prop) (vs : List Value), Ok A n → HK hz s.heap → (∀ a, X a → Live s.heap a) → Reps X s.heap vs ds →
    wpAny (model prog w) A (call (.ref f) vs) (fun v s' => Rep X s'.heap v d ∧ Kp s s') E s

theorem bindL_at (kindOf : Str → Option NameKind) : ∀ (binds : List (Str × Value)) (m : Str → Option Value) (x : Str), (∀ v, (x, v) ∉ binds) → bindL kindOf binds m x = m x
  | [], _, _, _ => rfl
  | (n, v) :: r, m, x, h => by
    rw [bindL, bindL_at kindOf r _ x fun v hv => h v (List.mem_cons_of_mem _ hv)]
    have hxn : x ≠ n := fun e => h v (by rw [e]; exact List.mem_cons_self)
    split
    · simp [hxn]
    · rfl
theorem bindC_at (kindOf : Str → Option NameKind) : ∀ (binds : List (Str × Value)) (m : Str → Option Value) (x : Str), (∀ v, (x, v) ∉ binds) → bindC kindOf binds m x = m x
  | [], _, _, _ => rfl
  | (n, v) :: r, m, x, h => by
    rw [bindC, bindC_at kindOf r _ x fun v hv => h v (List.mem_cons_of_mem _ hv)]
    have hxn : x ≠ n := fun e => h v (by rw [e]; exact List.mem_cons_self)
    split
    · rfl
    · simp [hxn]
theorem bindL_mem (kindOf : Str → Option NameKind) {x : Str} {v : Value} (hk : kindOf x = some .local) : ∀ (binds : List (Str × Value)) (m : Str → Option Value), (binds.map (·.1)).Nodup → (x, v) ∈ binds → bindL kindOf binds m x = some v
  | (n, u) :: r, m, hn, h => by
    rw [List.map_cons, List.nodup_cons] at hn
    rcases List.mem_cons.mp h with e | h
    · cases e
      rw [bindL, bindL_at kindOf r _ _ fun v hv => hn.1 (List.mem_map.mpr ⟨_, hv, rfl⟩)]
      simp [hk]
    · rw [bindL]; exact bindL_mem kindOf hk r _ hn.2 h
theorem bindC_mem (kindOf : Str → Option NameKind) {x : Str} {v : Value} (hk : kindOf x ≠ some .local) : ∀ (binds : List (Str × Value)) (m : Str → Option Value), (binds.map (·.1)).Nodup → (x, v) ∈ binds → bindC kindOf binds m x = some v
  | (n, u) :: r, m, hn, h => by
    rw [List.map_cons, List.nodup_cons] at hn
    rcases List.mem_cons.mp h with e | h
    · cases e
      rw [bindC, bindC_at kindOf r _ _ fun v hv => hn.1 (List.mem_map.mpr ⟨_, hv, rfl⟩)]
      simp [hk]
    · rw [bindC]; exact bindC_mem kindOf hk r _ hn.2 h

def stoOf (names : List Str) (ds : List PyData) : Sto := fun x => (names.zip ds).lookup x
theorem zip_reps {X : Addr → Prop} {h : Heap} {x : Str} {d : PyData} : ∀ {names : List Str} {vs : List Value} {ds : List PyData}, Reps X h vs ds → (names.zip ds).lookup x = some d → ∃ v, (x, v) ∈ names.zip vs ∧ Rep X h v d
  | [], _, _, _, e => by simp at e
  | _ :: _, _, _, .nil, e => by simp at e
  | n :: ns, _, _, .cons r rs, e => by
    rw [List.zip_cons_cons, List.lookup_cons] at e
    cases hx : x == n with
    | true =>
      rw [hx] at e; cases e
      rw [beq_iff_eq.mp hx]
      exact ⟨_, List.mem_cons_self, r⟩
    | false =>
      rw [hx] at e
      obtain ⟨v, hv, rv⟩ := zip_reps rs e
      exact ⟨v, List.mem_cons_of_mem _ hv, rv⟩

section
variable {hz : Heap} {prog : Program} {w : World}

/-- the frame at a call's begin -/
theorem fs_enter {fd : FuncData} {f : Addr} {s s₁ : Shared} {X : Addr → Prop} {vs : List Value} {ds : List PyData} {names : List Str} (hb : HK hz s.heap) (hX : ∀ a, X a → Live s.heap a) (rs : Reps X s.heap vs ds) (hnd : names.Nodup) (hlen : names.length = ds.length)
    (hkind : ∀ x ∈ names, (callEnvC fd s.heap.objs.size f).kindOf x = some .local ∨ ((callEnvC fd s.heap.objs.size f).kindOf x = some .cell ∧ ∃ c, (callEnvC fd s.heap.objs.size f).cells.lookup x = some c))
    (x : InCallC s (callEnvC fd s.heap.objs.size f).locals (bindL (callEnvC fd s.heap.objs.size f).kindOf (names.zip vs) fun _ => none) (callEnvC fd s.heap.objs.size f).cells
        (bindC (callEnvC fd s.heap.objs.size f).kindOf (names.zip vs) fun _ => none) s₁) :
    FS hz (callEnvC fd s.heap.objs.size f) X s [] [] (stoOf names ds) none s₁ := by
  generalize callEnvC fd s.heap.objs.size f = env at *
  obtain ⟨⟨⟨h₁, tk, rfl⟩, hns, hkeep, hfresh⟩, hcell, hap, hab⟩ := x
  dsimp only at hns hkeep hcell
  have hL : s.heap.get? env.locals = none := by
    cases e : s.heap.get? env.locals with
    | none => rfl
    | some o => exact absurd (Heap.lt_size e) (Nat.not_lt.mpr hfresh)
  have hC : ∀ y c, env.cells.lookup y = some c → s.heap.get? c = none ∧ c ≠ env.locals := fun y c e => by
    have h : env.locals < c := hab y c (mem_of_lookup e)
    refine ⟨?_, Nat.ne_of_gt h⟩
    cases e : s.heap.get? c with
    | none => rfl
    | some o => exact absurd (Heap.lt_size e) (Nat.not_lt.mpr (Nat.le_trans hfresh (Nat.le_of_lt h)))
  have new : ∀ a, (a = env.locals ∨ ∃ y, env.cells.lookup y = some a) → s.heap.get? a = none := fun a h => by
    rcases h with rfl | ⟨y, e⟩
    · exact hL
    · exact (hC y a e).1
  have more : ∀ a, Live s.heap a → (X a ∨ (a = env.locals ∨ ∃ y, env.cells.lookup y = some a)) → X a := fun a ⟨o, e⟩ h => h.elim id fun h => by rw [new a h] at e; cases e
  have nd : ((names.zip vs).map (·.1)).Nodup := by
    rw [List.map_fst_zip (Nat.le_of_eq (by rw [hlen, rs.length]))]; exact hnd
  refine ⟨fun a => a = env.locals ∨ ∃ y, env.cells.lookup y = some a, hb.trans hkeep, fun a h => (hX a h).hk hkeep, fun a h => ⟨fun hx => ?_, ?_, ?_, new a h⟩, .inl rfl, fun y c e => ⟨.inr ⟨y, e⟩, (hC y c e).2⟩, fun y z c e e' => name_of_addr hap (mem_of_lookup e) (mem_of_lookup e'),
    ⟨_, hns⟩, fun y c e => ⟨_, hcell y c e⟩, fun y d e => ?_, (fun _ _ e => by cases e), (fun p hp => by cases hp), (fun p hp => by cases hp), ⟨fun b o _ e => hkeep b o e, fun _ _ e => e, id, rfl⟩⟩
  · obtain ⟨o, e⟩ := hX a hx; rw [new a h] at e; cases e
  · cases e : hz.get? a with
    | none => rfl
    | some o => have := hb a o e; rw [new a h] at this; cases this
  · rcases h with rfl | ⟨y, e⟩
    · obtain ⟨o, _, _, e, _⟩ := hns; exact ⟨o, e⟩
    · obtain ⟨o, e, _⟩ := hcell y a e; exact ⟨o, e⟩
  · obtain ⟨v, hv, rv⟩ := zip_reps rs e
    have hyn : y ∈ names := (List.of_mem_zip hv).1
    refine ⟨v, ?_, (rv.more more).keep hkeep⟩
    rcases hkind y hyn with hk | ⟨hk, c, hc⟩
    · exact .inl ⟨hk, _, hns, bindL_mem _ hk _ _ nd hv⟩
    · refine .inr ⟨.inl hk, c, hc, ?_⟩
      have := hcell y c hc
      rwa [bindC_mem _ (by rw [hk]; decide) _ _ nd hv] at this

theorem fn_intro {f : Addr} {o : Obj} {fd : FuncData} {body : List Stmt} {n : Nat} {ds : List PyData} {d : PyData} (names : List Str) (ho : hz.get? f = some o) (hd : o.data = .func fd) (hnl : hz.NoLimit) (hcd : hz.CodeRec fd.code fd.qualname) (hbody : fd.body = .stmts body)
    (hclo : fd.closure = []) (hbind : ∀ vs : List Value, vs.length = ds.length → bindArgs fd ⟨vs, []⟩ = pure (names.zip vs)) (hnd : names.Nodup) (hlen : names.length = ds.length)
    (hkind : ∀ L, ∀ x ∈ names, (callEnvC fd L f).kindOf x = some .local ∨ ((callEnvC fd L f).kindOf x = some .cell ∧ ∃ c, (callEnvC fd L f).cells.lookup x = some c))
    (h : ∀ (A : Around) (L : Addr) (Y : Addr → Prop) (sb s : Shared) (E : Value → Shared → Prop), Ok A n → FS hz (callEnvC fd L f) Y sb [] [] (stoOf names ds) none s →
      wpAny (model prog w) A (execs body (callEnvC fd L f)) (fun fl s' => ∃ v, fl = .ret v ∧ Rep Y s'.heap v d ∧ Kp sb s') E s)
    (hco : fd.scope.isCoroutine = false := by rfl) (hgen : fd.scope.isGenerator = false := by rfl) (hk : fd.scope.kind = .function := by rfl) : FN prog w hz (n + 1) f ds d := by
  intro A X s E vs hA hb hX rs
  refine wpAny_call (codeAny_call_cells (by have := hA.depth; omega) (hb _ _ ho) hd (hnl.keeps hb) (hcd.keeps hb) hbody (hbind vs rs.length) hclo (fun x hx => ?_) (fun s₁ x => ?_) hco hgen hk)
  · have hxn : x.1 ∈ names := (List.of_mem_zip hx).1
    rcases hkind s.heap.objs.size x.1 hxn with h1 | ⟨h1, c, hc⟩
    · exact .inl h1
    · exact .inr ⟨h1, Option.isSome_iff_exists.mpr ⟨c, hc⟩⟩
  · refine wpAny_mono (h (A.deeper (callEnvC fd s.heap.objs.size f)) _ X s s₁ _ (hA.deeper _) (fs_enter hb hX rs hnd hlen (hkind _) x)) (fun fl s' h' => ?_) fun _ _ e => e
    obtain ⟨v, rfl, r, k⟩ := h'
    exact ⟨r, k⟩

variable {A : Around} {env : Env} {σ : Sto} {mg mb : Str → Option Value}
theorem ev_call {x : Str} {np pos : Pos} {e : Expr} {es : List Expr} {f : Addr} {o : Obj} {fd : FuncData} {n : Nat} {ds : List PyData} {d : PyData} (G : Gl hz mg mb) (hv : mg x = some (.ref f)) (ho : hz.get? f = some o) (hdat : o.data = .func fd)
    (he : EVs prog w hz A env σ (e :: es) ds) (hf : FN prog w hz n f ds d) (hA : Ok A n)
    (hk : env.scope.kind = .function := by rfl) (hx : env.kindOf x = some .globalImplicit := by rfl) (hg : env.globals = mainGlobals := by rfl) (hd : (x == ("__debug__" : Str)) = false := by decide)
    (hse : starEach (e :: es) env = (false, eval e env) :: starEach es env := by rfl) :
    EV prog w hz A env σ (.Call (.Name x np) (e :: es) [] pos) d := by
  intro X s E p
  refine Call_ (glob_name G p hv (callWith_def hdat (he.use p fun vs s₁ rs k p₁ => ⟨p₁.base _ _ ho, ?_⟩) hse) hk hx hg hd)
  exact wpAny_mono (hf A X s₁ E vs hA p₁.base p₁.live rs) (fun v s' h => ⟨h.1, k.trans h.2⟩) fun _ _ e => e
theorem ev_len {x : Str} {np pos : Pos} {e : Expr} {ds : List PyData} (G : Gl hz mg mb) (he : EV prog w hz A env σ e (.list ds)) (hn : ds.length ≤ sizeLine) (hv : mg x = none) (hb : mb x = some (.builtin "len"))
    (hk : env.scope.kind = .function := by rfl) (hx : env.kindOf x = some .globalImplicit := by rfl) (hg : env.globals = mainGlobals := by rfl) (hbn : env.builtins = builtinsNs := by rfl) (hd : (x == ("__debug__" : Str)) = false := by decide)
    (hse : starEach [e] env = (false, eval e env) :: starEach [] env := by rfl) :
    EV prog w hz A env σ (.Call (.Name x np) [e] [] pos) (.int ds.length) :=
  ev_builtin1 G he hv hb (fun X s E v _ _ r => call_len hn X s E v r) hk hx hg hbn hd hse
end
end Mine
end

section
open PySem PySem.W PyProof.Rows
namespace Mine
section
variable {hz : Heap} {prog : Program} {w : World} {A : Around} {env : Env} {σ : Sto} {mg mb : Str → Option Value}

/-- a comprehension's tests -/
def TS (prog : Program) (w : World) (hz : Heap) (A : Around) (env : Env) (σ : Sto) (ifs : List Expr) (b : Bool) : Prop :=
  ∀ (X : Addr → Prop) (s : Shared) (E : Value → Shared → Prop), Pre hz env X σ s →
    wpAny (model prog w) A (forIn ifs true fun c r => if r = true then do let ok ← isTrue c env (eval c env); pure (ForInStep.yield ok) else pure (ForInStep.yield r)) (fun ok s' => ok = b ∧ Kp s s') E s
theorem ts_nil : TS prog w hz A env σ [] true := fun _ _ _ _ => wpAny_tests_nil ⟨rfl, .refl _⟩
theorem ts_one {c : Expr} {b : Bool} (h : EB prog w hz A env σ c b) : TS prog w hz A env σ [c] b := fun _ _ _ p => wpAny_tests_one (h.use p fun _ k _ => ⟨rfl, k⟩)
theorem TS.use {ifs : List Expr} {b : Bool} (h : TS prog w hz A env σ ifs b) {X : Addr → Prop} {s : Shared} {E : Value → Shared → Prop} {Q : Bool → Shared → Prop} (p : Pre hz env X σ s)
    (q : ∀ s', Kp s s' → Pre hz env X σ s' → Q b s') : wpAny (model prog w) A (forIn ifs true fun c r => if r = true then do let ok ← isTrue c env (eval c env); pure (ForInStep.yield ok) else pure (ForInStep.yield r)) Q E s :=
  wpAny_mono (h X s E p) (fun _ s' x => x.1 ▸ q s' x.2 (p.kp x.2)) fun _ _ e => e

/-- what a comprehension leaves: its list at D, its block's names at C -/
def CompRes (X : Addr → Prop) (es : List PyData) (s s' : Shared) (D C : Addr) : Prop :=
  s.heap.get? D = none ∧ s.heap.get? C = none ∧ D ≠ C ∧ ∃ ys m, s'.heap.PlainList D ys ∧ s'.heap.Ns C m ∧ Reps (fun b => X b ∨ b = D ∨ b = C) s'.heap ys.toList es ∧ Kp s s'

theorem Reps.snoc {X : Addr → Prop} {h : Heap} {vs : List Value} {ds : List PyData} {v : Value} {d : PyData} (r : Reps X h vs ds) (r' : Rep X h v d) : Reps X h (vs ++ [v]) (ds ++ [d]) := r.append (.cons r' .nil)

theorem comp_core {elt iter : Expr} {x : Str} {px : Pos} {ifs : List Expr} {scope : Scope} {cl : List (Str × Addr)} {pos : Pos} {ds : List PyData} {τ : Sto} {X : Addr → Prop} {s : Shared} {E : Value → Shared → Prop} (pp : PyData → Bool) (f : PyData → PyData)
    (hit : IT prog w hz A env σ iter ds) (p : Pre hz env X σ s)
    (hcell : ∀ y ∈ scope.names, y.2 ≠ .cell) (hkind : scope.kind = .function) (hx : scope.names.lookup x = some .local) (hsz : ds.length ≤ sizeLine)
    (hτ : ∀ y d, τ y = some d → σ y = some d ∧ env.kindOf y = some .cell ∧ (∀ C, (compEnvC scope cl C env).kindOf y = some .cell) ∧ ∀ c, env.cells.lookup y = some c → cl.lookup y = some c)
    (htests : ∀ C d, d ∈ ds → TS prog w hz A (compEnvC scope cl C env) (τ.set x d) ifs (pp d))
    (helt : ∀ C d, d ∈ ds → pp d = true → EV prog w hz A (compEnvC scope cl C env) (τ.set x d) elt (f d)) :
    wpAny (model prog w) A (eval iter env) (fun xv s₁ => wpAny (model prog w) A (pyIter xv) (fun it s₂ => wpAny (model prog w) A (newList []) (fun acc s₃ =>
      wpAny (model prog w) A (newFunctionEnv scope env.globals cl [] env.qual none .none (some env)) (fun cenv s₄ =>
        codeAny (model prog w) A (.compStart (.ListComp elt [⟨.Name x px, iter, ifs, 0⟩] scope pos) 0 it acc { cenv with scope := relabel scope env })
          (fun r s' => ∃ D, acc = .ref D ∧ r = .ok .next ∧ CompRes X ((ds.filter pp).map f) s s' D cenv.locals) s₄) E s₃) E s₂) E s₁) E s := by
  refine wpAny_mono (hit X s E p) (fun xv s₁ h₁ => wpAny_mono h₁ (fun it s₂ h₂ => ?_) fun _ _ e => e) fun _ _ e => e
  obtain ⟨I, fp, wr, P, St, l, rfl, Wk, hst, hfl, hwr, hfX, hl1, hl2, k₂⟩ := h₂
  refine wpAny_newObj_type (wpAny_newFunctionEnv hcell (by intro y hy; simp at hy) (fun h₁ hns₁ hsb₁ => ?_) hkind)
  dsimp only at hns₁ hsb₁ ⊢
  generalize hH2 : s₂.heap.push { cls := .type "list", dict := none, data := .seq ([] : List Value).toArray } = H2 at hns₁ hsb₁ ⊢
  have hC : H2.objs.size = s₂.heap.objs.size + 1 := by rw [← hH2, Heap.size_push]
  have hold0 : HKW (· = H2.objs.size) s₂.heap h₁ := fun b o n e => hsb₁.extBut b o n (Heap.get?_push_of_some _ (hH2 ▸ Heap.get?_push_of_some _ e))
  have hacc0 : h₁.PlainList s₂.heap.objs.size #[] := ⟨0, hsb₁.extBut _ _ (Nat.ne_of_lt (by rw [hC]; exact Nat.lt_succ_self _)) (Heap.get?_push_of_some _ (hH2 ▸ Heap.get?_push_size _ rfl))⟩
  have below0 : ∀ b, Live s₂.heap b → b ≠ H2.objs.size ∧ b ≠ s₂.heap.objs.size := fun b ⟨o, e⟩ => ⟨Nat.ne_of_lt (by rw [hC]; exact Nat.lt_succ_of_lt (Heap.lt_size e)), Nat.ne_of_lt (Heap.lt_size e)⟩
  have hDC0 : s₂.heap.objs.size ≠ H2.objs.size := Nat.ne_of_lt (by rw [hC]; exact Nat.lt_succ_self _)
  clear hsb₁ hH2 hC
  generalize s₂.heap.objs.size = D at *
  generalize H2.objs.size = C at *
  have below := below0
  have hDC := hDC0
  have old : HK s₂.heap h₁ := fun b o e => hold0 b o (below b ⟨o, e⟩).1 e
  have hacc := hacc0
  have hst₁ : St 0 h₁ := Wk.frame _ _ _ hst fun b _ o e => old b o e
  have hsD : s.heap.get? D = none := by
    cases hq : s.heap.get? D with
    | none => rfl
    | some o => exact absurd rfl (below D ⟨o, k₂.heap _ _ hq⟩).2
  have hsC : s.heap.get? C = none := by
    cases hq : s.heap.get? C with
    | none => rfl
    | some o => exact absurd rfl (below C ⟨o, k₂.heap _ _ hq⟩).1
  have hfpl : ∀ b ∈ fp, Live s₂.heap b := fun b hb => hfl 0 _ hst b hb
  have hDf : D ∉ fp := fun h => (below D (hfpl D h)).2 rfl
  have hCf : C ∉ fp := fun h => (below C (hfpl C h)).1 rfl
  have hDw : D ∉ wr := fun h => hDf (Wk.sub _ h)
  have hCw : C ∉ wr := fun h => hCf (Wk.sub _ h)
  -- the dirty places of the block
  let X' : Addr → Prop := fun b => (X b ∨ b ∈ wr) ∨ b = D ∨ b = C
  have dirty : ∀ b, Live s.heap b → X' b → X b := fun b ⟨o, e⟩ h => by
    rcases h with (h | h) | rfl | rfl
    · exact h
    · rw [hwr b h] at e; cases e
    · rw [hsD] at e; cases e
    · rw [hsC] at e; cases e
  have upd : ∀ {s' : Shared} {h₃ : Heap} {tk : Nat}, Kp s s' → (∀ b o, b ∉ wr → b ≠ D → b ≠ C → s'.heap.get? b = some o → h₃.get? b = some o) → Kp s { s' with heap := h₃, toks := tk } := fun {s' h₃ tk} K hk =>
    ⟨fun b o e => hk b o (fun h => by rw [hwr b h] at e; cases e) (fun h => by rw [h, hsD] at e; cases e) (fun h => by rw [h, hsC] at e; cases e) (K.heap b o e), K.gens, K.bare, K.os⟩
  have loop : ∀ s₃ : Shared, s₃ = { s₂ with heap := h₁, toks := s₂.toks + ([] : List (Str × Value)).length } →
      codeAny (model prog w) A (.compLoop (.ListComp elt [⟨.Name x px, iter, ifs, 0⟩] scope pos) 0 (.ref I) (.ref D) (compEnvC scope cl C env))
        (fun r s' => ∃ D', Value.ref D = .ref D' ∧ r = .ok .next ∧ CompRes X ((ds.filter pp).map f) s s' D' C) s₃ := by
    rintro s₃ rfl
    refine codeAny_compLoop_tests
      (fun k s' => ∃ i m ys, k = ds.length + 1 - i ∧ i ≤ ds.length ∧ St i s'.heap ∧ s'.heap.PlainList D ys ∧ s'.heap.Ns C m ∧ Reps X' s'.heap ys.toList (((ds.take i).filter pp).map f) ∧
        (∀ b o, b ∉ wr → b ≠ D → b ≠ C → s₂.heap.get? b = some o → s'.heap.get? b = some o) ∧ Kp s s') ?_ (ds.length + 1)
      ⟨0, _, #[], rfl, Nat.zero_le _, hst₁, hacc, hns₁, by simpa using Reps.nil, fun b o _ _ _ e => old b o e, k₂.trans (.ht old)⟩
    rintro k s' ⟨i, m, ys, rfl, hi, hst', hacc', hns', hR', hk', K'⟩
    have live' : ∀ b, X' b → Live s'.heap b := fun b h => by
      rcases h with (h | h) | rfl | rfl
      · exact (p.live b h).hk K'.heap
      · exact hfl i _ hst' b (Wk.sub _ h)
      · obtain ⟨n, e⟩ := hacc'; exact ⟨_, e⟩
      · obtain ⟨o, _, _, e, _⟩ := hns'; exact ⟨o, e⟩
    by_cases hlt : i < ds.length
    · refine Wk.item i s' _ _ hlt hst' fun v h₂ tk₂ hPv hst₂ hk₂ => ?_
      obtain ⟨d, hd⟩ : ∃ d, ds[i]? = some d := ⟨ds[i], by simp [hlt]⟩
      have hdm : d ∈ ds := List.mem_of_getElem? hd
      have hns₂ : h₂.Ns C m := hns'.at' fun o e => hk₂ _ _ hCw e
      refine wpAny_assign_Name (wpAny_storeName_local (lookup_relabel_local hx) hns₂ (fun h₃ hns₃ hsb₃ => ?_) (by simp [compEnvC, relabel, hkind]))
      have hsb₃ : Heap.SameBut C h₂ h₃ := hsb₃
      have hns₃ : h₃.Ns C (fun y => if y = x then some v else m y) := hns₃
      -- what has been kept until here
      have k₃ : ∀ b o, b ∉ wr → b ≠ C → s'.heap.get? b = some o → h₃.get? b = some o := fun b o hb hbC e => (hsb₃.2 b hbC).trans (hk₂ b o hb e)
      have K₃ : Kp s { s' with heap := h₃, toks := tk₂ + 1 } := upd K' fun b o h1 _ h3 e => k₃ b o h1 h3 e
      have hst₃ : St (i + 1) h₃ := Wk.frame _ _ _ hst₂ fun b hb o e => (hsb₃.2 b fun h => hCf (h ▸ hb)).trans e
      have hacc₃ : h₃.PlainList D ys := hacc'.at fun o e => k₃ D o hDw hDC e
      have hk₃ : ∀ b o, b ∉ wr → b ≠ D → b ≠ C → s₂.heap.get? b = some o → h₃.get? b = some o := fun b o h1 h2 h3 e => k₃ b o h1 h3 (hk' b o h1 h2 h3 e)
      have hR₃ : Reps X' h₃ ys.toList (((ds.take i).filter pp).map f) := hR'.keepW (fun b o n e => k₃ b o (fun h => n (.inl (.inr h))) (fun h => n (.inr (.inr h))) e) fun _ h => h
      have P₃ : Pre hz (compEnvC scope cl C env) X' (τ.set x d) { s' with heap := h₃, toks := tk₂ + 1 } := by
        refine ⟨p.base.trans K₃.heap, fun b h => ?_, fun y dd hy => ?_⟩
        · by_cases hbC : b = C
          · subst hbC; obtain ⟨o, _, _, e, _⟩ := hns₃; exact ⟨o, e⟩
          · by_cases hbw : b ∈ wr
            · exact hfl _ _ hst₃ b (Wk.sub _ hbw)
            · obtain ⟨o, e⟩ := live' b h
              exact ⟨o, k₃ b o hbw hbC e⟩
        · simp only [Sto.set] at hy
          split at hy
          · rename_i hyx
            subst hyx
            cases hy
            refine ⟨v, .inl ⟨lookup_relabel_local hx, _, hns₃, by simp⟩, hl2 i v d hPv hd _ _ fun q hq => ?_⟩
            obtain ⟨q1, q2, q3⟩ := hl1 q hq
            have hb := below q.1 ⟨_, q1⟩
            refine ⟨hk₃ _ _ q3 hb.2 hb.1 q1, fun h => ?_⟩
            rcases h with (h | h) | h | h
            · exact q2 h
            · exact q3 h
            · exact hb.2 h
            · exact hb.1 h
          · obtain ⟨h1, h2, h3, h4⟩ := hτ y dd hy
            obtain ⟨u, lu, ru⟩ := p.vars y dd h1
            refine ⟨u, ?_, (ru.more dirty).keep K₃.heap⟩
            rcases lu with ⟨a, _⟩ | ⟨_, c, hc, hcell⟩
            · rw [h2] at a; cases a
            · exact .inr ⟨.inl (h3 C), c, h4 c hc, hcell.keeps K₃.heap⟩
      refine (htests C d hdm).use P₃ fun s₄ K₄ P₄ => ?_
      have hst₄ : St (i + 1) s₄.heap := Wk.frame _ _ _ hst₃ fun b _ o e => K₄.heap b o e
      have hn : ds.take (i + 1) = ds.take i ++ [d] := by rw [List.take_add_one, hd]; rfl
      cases hpd : pp d with
      | false =>
        simp only [Bool.false_eq_true, if_false]
        refine ⟨ds.length + 1 - (i + 1), by omega, i + 1, _, ys, rfl, hlt, hst₄, hacc₃.at fun o e => K₄.heap _ _ e, hns₃.keeps K₄.heap, ?_, fun b o h1 h2 h3 e => K₄.heap _ _ (hk₃ b o h1 h2 h3 e), K₃.trans K₄⟩
        rw [hn, List.filter_append, List.map_append]
        simpa [hpd] using hR₃.keep K₄.heap
      | true =>
        simp only [if_true]
        refine (helt C d hdm hpd).use P₄ fun y s₅ ry K₅ P₅ => ?_
        have hys : ys.size ≤ sizeLine := by
          have e1 := hR₃.length
          have e2 : ((ds.take i).filter pp).length ≤ (ds.take i).length := List.length_filter_le _ _
          have e3 : (ds.take i).length ≤ ds.length := by simp; omega
          simp at e1; omega
        refine wpAny_list_append_plain (hacc₃.at fun o e => K₅.heap _ _ (K₄.heap _ _ e)) (fun h₆ hp₆ hs₆ => ?_) hys
        have k₆ : ∀ b o, b ≠ D → s₅.heap.get? b = some o → h₆.get? b = some o := fun b o hb e => (hs₆.2 b hb).trans e
        refine ⟨ds.length + 1 - (i + 1), by omega, i + 1, _, ys.push y, rfl, hlt, Wk.frame _ _ _ hst₄ fun b hb o e => k₆ b o (fun h => hDf (h ▸ hb)) (K₅.heap _ _ e), hp₆, ((hns₃.keeps K₄.heap).keeps K₅.heap).sameBut hs₆ (Ne.symm hDC), ?_,
          fun b o h1 h2 h3 e => k₆ b o h2 (K₅.heap _ _ (K₄.heap _ _ (hk₃ b o h1 h2 h3 e))), upd (tk := s₅.toks) ((K₃.trans K₄).trans K₅) fun b o _ h2 _ e => k₆ b o h2 e⟩
        rw [hn, List.filter_append, List.map_append]
        have r1 : Reps X' s₅.heap (ys.toList ++ [y]) (((ds.take i).filter pp).map f ++ [f d]) := ((hR₃.keep K₄.heap).keep K₅.heap).snoc ry
        have r2 := r1.keepW (Y := X') (h' := h₆) (fun b o n e => k₆ b o (fun h => n (.inr (.inl h))) e) fun _ h => h
        simpa [hpd] using r2
    · have hin : i = ds.length := by omega
      subst hin
      refine Wk.done s' _ _ hst' fun h₂ tk₂ hk₂ => ?_
      refine ⟨D, rfl, rfl, hsD, hsC, hDC, ys, m, hacc'.at fun o e => hk₂ _ _ hDw e, hns'.at' fun o e => hk₂ _ _ hCw e, ?_, upd K' fun b o h1 _ _ e => hk₂ b o h1 e⟩
      rw [List.take_length] at hR'
      refine hR'.keepW (fun b o n e => hk₂ b o (fun h => n (.inl (.inr h))) e) fun b h => ?_
      rcases h with h | h | h
      · exact .inl (.inl h)
      · exact .inr (.inl h)
      · exact .inr (.inr h)
  exact codeAny_compStart_list (loop _ rfl) (Wk.self 0 _ _ _ hst₁ (loop _ rfl))

/-- the side facts of a comprehension's block -/
structure Block (env : Env) (scope : Scope) (cl : List (Str × Addr)) (x : Str) (σ τ : Sto) : Prop where
  clos : closureFor scope env = pure cl
  cell : ∀ y ∈ scope.names, y.2 ≠ .cell
  kind : scope.kind = .function
  names : ∀ y ∈ scope.names, y.2 = .local → scope.names.lookup y.1 = some .local
  here : scope.names.lookup x = some .local
  sees : ∀ y d, τ y = some d → σ y = some d ∧ env.kindOf y = some .cell ∧ (∀ C, (compEnvC scope cl C env).kindOf y = some .cell) ∧ ∀ c, env.cells.lookup y = some c → cl.lookup y = some c

theorem evf_comp {elt iter : Expr} {x : Str} {px : Pos} {ifs : List Expr} {scope : Scope} {cl : List (Str × Addr)} {pos : Pos} {ds : List PyData} {τ : Sto} (pp : PyData → Bool) (f : PyData → PyData)
    (hB : Block env scope cl x σ τ) (hit : IT prog w hz A env σ iter ds) (hsz : ds.length ≤ sizeLine)
    (htests : ∀ C d, d ∈ ds → TS prog w hz A (compEnvC scope cl C env) (τ.set x d) ifs (pp d))
    (helt : ∀ C d, d ∈ ds → pp d = true → EV prog w hz A (compEnvC scope cl C env) (τ.set x d) elt (f d))
    (hfs : ∀ v, foldedSetIterable iter env v = pure v := by intro _; rfl) :
    EVF prog w hz A env σ (.ListComp elt [⟨.Name x px, iter, ifs, 0⟩] scope pos) ((ds.filter pp).map f) := by
  intro X s E p
  rw [eval_ListComp]
  refine wpAny_comprehension_free (use := none) rfl hfs hB.clos hB.kind hB.names ?_
  refine wpAny_mono (comp_core (pos := pos) (px := px) pp f hit p hB.cell hB.kind hB.here hsz hB.sees htests helt) (fun xv s₁ h₁ => wpAny_mono h₁ (fun it s₂ h₂ => wpAny_mono h₂ (fun acc s₃ h₃ => wpAny_mono h₃ (fun cenv s₄ h₄ => codeAny_mono h₄ ?_) fun _ _ e => e) fun _ _ e => e) fun _ _ e => e) fun _ _ e => e
  rintro r s' ⟨D, rfl, rfl, hD, hC, hDC, ys, m, hp, hn, rs, k⟩
  refine ⟨m, hn, fun h' hs' => ⟨D, ys, rfl, hD, hp.at fun o e => (hs'.2 D hDC).trans e, rs.keepW (fun b o n e => (hs'.2 b fun h => n (.inr (.inr h))).trans e) fun b h => ?_, ?_⟩⟩
  · rcases h with h | h
    · exact .inl h
    · exact .inr (.inl h)
  · exact ⟨fun b o e => (hs'.2 b fun h => by rw [h, hC] at e; cases e).trans (k.heap b o e), k.gens, k.bare, k.os⟩
theorem EVF.ev {e : Expr} {ds : List PyData} (h : EVF prog w hz A env σ e ds) : EV prog w hz A env σ e (.list ds) := by
  intro X s E p
  refine wpAny_mono (h X s E p) (fun v s' h' => ?_) fun _ _ e => e
  obtain ⟨a, vs, rfl, hf, hp, rs, k⟩ := h'
  exact ⟨rep_list hp.isList (p.fresh hf) (rs.less fun b h => .inl h), k⟩

variable {Y : Addr → Prop} {sb s s' : Shared} {pr : List (Addr × Obj)} {pg : List (Nat × GenState)} {own : Own} {E : Value → Shared → Prop} {Q : Flow → Shared → Prop}
theorem FSW.grow2 {W : Addr → Prop} {a C : Addr} (F : FSW hz env Y sb pr pg W σ none s) (hl : Live s'.heap a) (hf : s.heap.get? a = none) (hlC : Live s'.heap C) (hfC : s.heap.get? C = none) (hne' : a ≠ C) (k : Kp s s') (hb : sb.heap.get? a = none) (hzf : hz.get? a = none) :
    FSW hz env (fun b => Y b ∨ b ∈ [C]) sb pr pg (fun b => W b ∨ b = a) σ none s' := by
  have F' := F.kpd k
  have hne : ∀ b, Live s.heap b → b ≠ a := fun b ⟨o, e⟩ h => by subst h; rw [hf] at e; cases e
  have hnC : ∀ b, Live s.heap b → b ≠ C := fun b ⟨o, e⟩ h => by subst h; rw [hfC] at e; cases e
  have more : ∀ b, Live s.heap b → ((Y b ∨ b ∈ [C]) ∨ (W b ∨ b = a)) → (Y b ∨ W b) := fun b hb h => by
    rcases h with (h | h) | h | h
    · exact .inl h
    · exact (hnC b hb (by simpa using h)).elim
    · exact .inr h
    · exact (hne b hb h).elim
  refine ⟨F'.base, fun b h => ?_, fun b h => ?_, .inl F.wl, fun y c e => ⟨.inl (F.wc y c e).1, (F.wc y c e).2⟩, F.apart, F'.ns, F'.cells, fun y d e => ?_, (fun _ _ e => by cases e), fun p hp => ⟨(F'.prot p hp).1, fun h => ?_⟩, F'.protg,
    ⟨fun b o n e => F'.kp.heap b o (fun h => n (.inl h)) e, F'.kp.gens, F'.kp.bare, F'.kp.os⟩⟩
  · rcases h with h | h
    · exact F'.ylive b h
    · have : b = C := by simpa using h
      subst this; exact hlC
  · rcases h with h | rfl
    · obtain ⟨a1, a2, a3, a4⟩ := F.wnew b h
      refine ⟨fun hy => ?_, a2, a3.hk k.heap, a4⟩
      rcases hy with hy | hy
      · exact a1 hy
      · exact hnC b a3 (by simpa using hy)
    · refine ⟨fun hy => ?_, hzf, hl, hb⟩
      rcases hy with hy | hy
      · exact hne b (F.ylive b hy) rfl
      · exact hne' (by simpa using hy)
  · obtain ⟨v, l, r⟩ := F.vars y d e
    exact ⟨v, l.keep k.heap, (r.more more).keep k.heap⟩
  · rcases h with h | h
    · exact (F'.prot p hp).2 h
    · exact hne p.1 ⟨_, (F.prot p hp).1⟩ h
/-- y = [.. for x in ..], where the two stores change places -/
theorem ex_comp {elt iter : Expr} {x y : Str} {px py : Pos} {ifs : List Expr} {scope : Scope} {cl : List (Str × Addr)} {pos spos : Pos} {ds : List PyData} {τ : Sto} {rest : List Stmt} (pp : PyData → Bool) (f : PyData → PyData)
    (F : FS hz env Y sb pr pg σ none s)
    (hB : Block env scope cl x σ τ) (hit : IT prog w hz A env σ iter ds) (hsz : ds.length ≤ sizeLine)
    (htests : ∀ C d, d ∈ ds → TS prog w hz A (compEnvC scope cl C env) (τ.set x d) ifs (pp d))
    (helt : ∀ C d, d ∈ ds → pp d = true → EV prog w hz A (compEnvC scope cl C env) (τ.set x d) elt (f d))
    (k : ∀ s', FS hz env Y sb pr pg σ (some (y, (ds.filter pp).map f)) s' → wpAny (model prog w) A (execs rest env) Q E s') (hy : σ y = none) (hs : Stores env y)
    (hsw : swapsWith (.ListComp elt [⟨.Name x px, iter, ifs, 0⟩] scope pos) (some (.Name y py)) spos.line env = pure true := by rfl)
    (hfs : ∀ v, foldedSetIterable iter env v = pure v := by intro _; rfl) :
    wpAny (model prog w) A (execs (.Assign [.Name y py] (.ListComp elt [⟨.Name x px, iter, ifs, 0⟩] scope pos) spos :: rest) env) Q E s := by
  obtain ⟨W, F⟩ := F
  refine wpAny_execs_cons ?_
  rw [exec_Assign_Name_used _ _ _ _ hsw]
  refine wpAny_bind (wpAny_standAt (wpAny_bind ?_))
  show wpAny _ A (do let _ ← comprehension (.ListComp elt [⟨.Name x px, iter, ifs, 0⟩] scope pos) scope env _ (newList []) false (eval iter env) (some (assign (.Name y py) env))) _ _ s
  refine wpAny_bind (wpAny_mono (wpAny_comprehension_free (use := some (assign (.Name y py) env)) (Q := fun _ s' => wpAny (model prog w) A (execs rest env) Q E s') rfl hfs hB.clos hB.kind hB.names ?_) (fun _ s' hq => wpAny_pure (wpAny_pure hq)) fun _ _ e => e)
  refine wpAny_mono (comp_core (pos := pos) (px := px) pp f hit F.pre hB.cell hB.kind hB.here hsz hB.sees htests helt) (fun xv s₁ h₁ => wpAny_mono h₁ (fun it s₂ h₂ => wpAny_mono h₂ (fun acc s₃ h₃ => wpAny_mono h₃ (fun cenv s₄ h₄ => codeAny_mono h₄ ?_) fun _ _ e => e) fun _ _ e => e) fun _ _ e => e) fun _ _ e => e
  rintro r s₁ ⟨D, rfl, rfl, hD, hC, hDC, ys, m, hp, hn, rs, k₁⟩
  generalize cenv.locals = C at *
  show wpAny _ A (assign (.Name y py) env (.ref D)) _ _ _
  have hne : ∀ b, Live s.heap b → b ≠ D ∧ b ≠ C := fun b ⟨o, e⟩ => ⟨(fun h => by rw [h, hD] at e; cases e), (fun h => by rw [h, hC] at e; cases e)⟩
  have new : ∀ a, (∀ b, Live s.heap b → b ≠ a) → sb.heap.get? a = none ∧ hz.get? a = none := fun a hba => by
    constructor
    · cases hq : sb.heap.get? a with
      | none => rfl
      | some o =>
        by_cases hw : W a
        · exact ((hba a (F.wnew a hw).2.2.1) rfl).elim
        · exact ((hba a ⟨o, F.kp.heap a o hw hq⟩) rfl).elim
    · cases hq : hz.get? a with
      | none => rfl
      | some o => exact ((hba a ⟨o, F.base a o hq⟩) rfl).elim
  have nD := new D fun b h => (hne b h).1
  have nC := new C fun b h => (hne b h).2
  have hal : D ≠ env.locals := fun h => (hne D (h ▸ (F.wnew _ F.wl).2.2.1)).1 rfl
  have hac : ∀ y c, env.cells.lookup y = some c → c ≠ D := fun y c e => (hne c (F.wnew _ (F.wc y c e).1).2.2.1).1
  have hCY : ¬ Y C := fun h => (hne C (F.ylive C h)).2 rfl
  have lD : Live s₁.heap D := let ⟨n, e⟩ := hp; ⟨_, e⟩
  have lC : Live s₁.heap C := let ⟨o, _, _, e, _⟩ := hn; ⟨o, e⟩
  have G := F.grow2 (a := D) (C := C) lD hD lC hC hDC k₁ nD.1 nD.2
  refine wpAny_assign_Name (G.store (by intro _ _ e; cases e) hs.kind hs.nocell hs.fn fun s₂ t G' l ht hsb' hk' => ?_)
  have lt : Live s.heap t := by
    rcases ht with rfl | hc
    · exact (F.wnew _ F.wl).2.2.1
    · exact (F.wnew _ (F.wc _ _ hc).1).2.2.1
  have tD : D ≠ t := fun h => (hne t lt).1 h.symm
  have tC : C ≠ t := fun h => (hne t lt).2 h.symm
  have hσ : σ.del y = σ := by
    funext z; simp only [Sto.del]; split
    · rename_i h; rw [h, hy]
    · rfl
  rw [hσ] at G'
  have G2 := G'.addOwn (ds := (ds.filter pp).map f) l (hp.at fun o e => (hsb'.2 D tD).trans e)
    (rs.keepW (Y := fun b => (Y b ∨ b ∈ [C]) ∨ (W b ∨ b = D)) (fun b o n e => hk' b o (fun h => n (h.elim (fun h => .inl (.inr h)) fun h => .inr (.inl h))) e) fun b h => by
      rcases h with (h | h) | h | h
      · exact .inl (.inl h)
      · exact .inr (.inr (by simpa using h))
      · exact .inl (.inr h)
      · exact .inr (.inl h)) (.inr rfl) hal hac
  refine ⟨m, hn.at' fun o e => (hsb'.2 C tC).trans e, fun h' hs' => k _ ⟨fun b => W b ∨ b = D, ?_⟩⟩
  exact G2.movedOut (tk := s₂.toks) (fun b o hb e => (hs'.2 b (by simpa using hb)).trans e) (fun b hb => (List.mem_singleton.mp hb) ▸ ⟨nC.2, nC.1, hCY⟩) fun p hp => ⟨by simpa using (hne p.1 ⟨_, (F.prot p hp).1⟩).2, hp⟩
end
end Mine
end

section
open PySem PySem.W PyProof.Rows PySem.Calls
namespace Mine
/-- the i-th statement of a program, a def, as what stands on the heap -/
def bodyOf (p : Program) (i : Nat) : List Stmt := match p.main.body[i]? with
  | some (.FunctionDef _ _ body _ _ _ _ _ _ _) => body
  | _ => []
def scopeOf (p : Program) (i : Nat) : Scope := match p.main.body[i]? with
  | some (.FunctionDef _ _ _ _ _ _ scope _ _ _) => scope
  | _ => default
def argsOf (p : Program) (i : Nat) : Arguments := match p.main.body[i]? with
  | some (.FunctionDef _ args _ _ _ _ _ _ _ _) => args
  | _ => default
def nameOf (p : Program) (i : Nat) : Str := match p.main.body[i]? with
  | some (.FunctionDef name _ _ _ _ _ _ _ _ _) => name
  | _ => default
abbrev fdOf (p : Program) (i : Nat) (pm cd doc : Value) : FuncData := docDef (nameOf p i) (argsOf p i) (bodyOf p i) (scopeOf p i) pm cd doc
/-- the i-th statement's def stands at f -/
def Def (p : Program) (hz : Heap) (i : Nat) (f : Addr) : Prop := ∃ o pm cd doc, hz.get? f = some o ∧ o.data = .func (fdOf p i pm cd doc) ∧ hz.CodeRec cd (nameOf p i)

def stoL (l : List (Str × PyData)) : Sto := fun x => l.lookup x
theorem stoOf_eq (names : List Str) (ds : List PyData) : stoOf names ds = stoL (names.zip ds) := rfl
section
variable {hz : Heap} {prog : Program} {w : World} {A : Around} {env : Env} {σ : Sto} {mg mb : Str → Option Value}
variable {Y : Addr → Prop} {sb s : Shared} {pr : List (Addr × Obj)} {pg : List (Nat × GenState)} {own : Own}
def Agree (σ : Sto) : List (Str × PyData) → Prop
  | [] => True
  | (x, d) :: r => σ x = some d ∧ Agree σ r
theorem Agree.of {l : List (Str × PyData)} (h : Agree σ l) : ∀ x d, stoL l x = some d → σ x = some d := by
  induction l with
  | nil => intro x d e; simp [stoL] at e
  | cons p r ih =>
    obtain ⟨y, e⟩ := p
    intro x d hx
    simp only [stoL, List.lookup_cons] at hx
    cases hxy : x == y with
    | true => rw [hxy] at hx; cases hx; rw [beq_iff_eq.mp hxy]; exact h.1
    | false => rw [hxy] at hx; exact ih h.2 x d hx
theorem FS.as (l : List (Str × PyData)) (F : FS hz env Y sb pr pg σ own s) (h : Agree σ l) : FS hz env Y sb pr pg (stoL l) own s := F.less h.of

theorem ils_get {ns : List Int} {i : Nat} (h : i < ns.length) : (ils ns)[i]? = some (.int (ns.getD i 0)) := by
  rw [List.getElem?_map, List.getElem?_eq_getElem h, List.getD_eq_getElem?_getD, List.getElem?_eq_getElem h]; rfl
theorem ev_item_int {value slice : Expr} {pos : Pos} {ns : List Int} {k : Int} (hv : EV prog w hz A env σ value (.list (ils ns))) (hi : EV prog w hz A env σ slice (.int k))
    (h0 : 0 ≤ k) (hk : k < ns.length) (hn : ns.length ≤ sizeLine)
    (hs : ∀ o i, subscripted slice false o i = operate [o, i] (getItem o i) := by intro _ _; with_unfolding_all rfl) : EV prog w hz A env σ (.Subscript value slice pos) (.int (ns.getD k.toNat 0)) :=
  ev_item hv hi h0 (ils_get (by omega)) (by have : sizeLine = 16777216 := rfl; omega) hs
theorem ils_take (ns : List Int) (k : Nat) : (ils ns).take k = ils (ns.take k) := by simp [List.map_take]
theorem ils_drop (ns : List Int) (k : Nat) : (ils ns).drop k = ils (ns.drop k) := by simp [List.map_drop]
theorem ils_append (ns ms : List Int) : ils ns ++ ils ms = ils (ns ++ ms) := by simp
theorem ev_upto_int {value e : Expr} {p₀ pos : Pos} {ns : List Int} {k : Int} (hv : EV prog w hz A env σ value (.list (ils ns))) (he : EV prog w hz A env σ e (.int k)) (h0 : 0 ≤ k) (hn : ns.length ≤ sizeLine) :
    EV prog w hz A env σ (.Subscript value (.Slice none (some e) none p₀) pos) (.list (ils (ns.take k.toNat))) := by
  rw [← ils_take]; exact ev_upto hv he h0 (by simpa using hn)
theorem ev_from_int {value e : Expr} {p₀ pos : Pos} {ns : List Int} {k : Int} (hv : EV prog w hz A env σ value (.list (ils ns))) (he : EV prog w hz A env σ e (.int k)) (h0 : 0 ≤ k) (hn : ns.length ≤ sizeLine) :
    EV prog w hz A env σ (.Subscript value (.Slice (some e) none none p₀) pos) (.list (ils (ns.drop k.toNat))) := by
  rw [← ils_drop]; exact ev_from hv he h0 (by simpa using hn)
theorem ev_run_int {value e f : Expr} {p₀ pos : Pos} {ns : List Int} {k m : Int} (hv : EV prog w hz A env σ value (.list (ils ns))) (he : EV prog w hz A env σ e (.int k)) (hf : EV prog w hz A env σ f (.int m)) (h0 : 0 ≤ k) (hkm : k ≤ m) (hn : ns.length ≤ sizeLine) :
    EV prog w hz A env σ (.Subscript value (.Slice (some e) (some f) none p₀) pos) (.list (ils ((ns.drop k.toNat).take (m.toNat - k.toNat)))) := by
  rw [← ils_take, ← ils_drop]; exact ev_run hv he hf h0 hkm (by simpa using hn)
theorem op_cat_int {ns ms : List Int} (hn : ns.length + ms.length ≤ sizeLine) : Op2 prog w hz A (binaryOp .Add) (.list (ils ns)) (.list (ils ms)) (.list (ils (ns ++ ms))) := by
  rw [← ils_append]; exact op_cat (by simpa using hn)
theorem ev_len_int {x : Str} {np pos : Pos} {e : Expr} {ns : List Int} (G : Gl hz mg mb) (he : EV prog w hz A env σ e (.list (ils ns))) (hn : ns.length ≤ sizeLine) (hv : mg x = none) (hb : mb x = some (.builtin "len"))
    (hk : env.scope.kind = .function := by rfl) (hx : env.kindOf x = some .globalImplicit := by rfl) (hg : env.globals = mainGlobals := by rfl) (hbn : env.builtins = builtinsNs := by rfl) (hd : (x == ("__debug__" : Str)) = false := by decide)
    (hse : starEach [e] env = (false, eval e env) :: starEach [] env := by rfl) :
    EV prog w hz A env σ (.Call (.Name x np) [e] [] pos) (.int ns.length) := by
  have := ev_len (np := np) (pos := pos) G he (by simpa using hn) hv hb hk hx hg hbn hd hse
  simpa using this
theorem ev_lits {es : List Expr} {pos : Pos} (ns : List Int) (h : EVs prog w hz A env σ es (ils ns)) (hn : ns.length ≤ sizeLine := by (first | decide | simp [sizeLine])) : EV prog w hz A env σ (.List es pos) (.list (ils ns)) := ev_list h (by simpa using hn)
end

/-- sizes that end a row -/
def stops (x : Int) : Bool := [0, 127].any (· == x)
def hds : List Int → Nat
  | [] => 0
  | x :: r => if stops x then 0 else hds r + 1
theorem hds_le : ∀ row : List Int, hds row ≤ row.length
  | [] => Nat.le_refl _
  | x :: r => by
    simp only [hds, List.length_cons]
    have := hds_le r
    split <;> omega
theorem hds_lt : ∀ {row : List Int} {k : Nat}, k < hds row → stops (row.getD k 0) = false
  | [], _, h => by simp [hds] at h
  | x :: r, k, h => by
    simp only [hds] at h
    split at h
    · omega
    · rename_i hx
      cases k with
      | zero => simpa using hx
      | succ k => simpa using hds_lt (row := r) (k := k) (by omega)
theorem hds_at : ∀ {row : List Int}, hds row < row.length → stops (row.getD (hds row) 0) = true
  | [], h => by simp [hds] at h
  | x :: r, h => by
    by_cases hx : stops x = true
    · simp [hds, hx]
    · simp only [hds, hx, List.length_cons] at h ⊢
      simpa using hds_at (row := r) (by simpa using h)

theorem Sto.set_set (σ : Sto) (x : Str) (a b : PyData) : (σ.set x a).set x b = σ.set x b := by
  funext y; simp only [Sto.set]; split <;> rfl
section
variable {hz : Heap} {prog : Program} {w : World} {A : Around} {env : Env} {σ : Sto} {mg mb : Str → Option Value}
variable {Y : Addr → Prop} {sb s : Shared} {pr : List (Addr × Obj)} {pg : List (Nat × GenState)} {E : Value → Shared → Prop} {Q : Flow → Shared → Prop}
theorem lt_hds {row : List Int} {k : Nat} (hk : k ≤ hds row) (h : (decide ((k : Int) < row.length) && (!stops (row.getD k 0) && true)) = true) : k < hds row := by
  rcases Nat.lt_or_ge k (hds row) with h' | h'
  · exact h'
  · have e : k = hds row := Nat.le_antisymm hk h'
    subst e
    simp only [Bool.and_eq_true, decide_eq_true_eq] at h
    rw [hds_at (by omega)] at h
    exact absurd h.2.1 (by decide)
theorem eq_hds {row : List Int} {k : Nat} (hk : k ≤ hds row) (h : (decide ((k : Int) < row.length) && (!stops (row.getD k 0) && true)) = false) : k = hds row := by
  rcases Nat.lt_or_ge k (hds row) with h' | h'
  · rw [hds_lt h'] at h
    have := hds_le row
    simp only [Bool.not_false, Bool.and_true, decide_eq_false_iff_not] at h
    omega
  · exact Nat.le_antisymm hk h'
/-- the loop that counts the sizes in front of the first nought or 127 -/
theorem ex_heads {row : List Int} {rest : List Stmt} {k₀ k₁ k₂ k₃ : Nat} {p₁ p₂ p₃ p₄ p₅ p₆ p₇ p₈ p₉ p₁₀ p₁₁ p₁₂ p₁₃ p₁₄ p₁₅ p₁₆ p₁₇ : Pos} (F : FS hz env Y sb pr pg σ none s) (G : Gl hz mg mb) (hr : σ "row" = some (.list (ils row))) (h0 : σ "heads" = some (.int 0))
    (hl : mg "len" = none) (hb : mb "len" = some (.builtin "len")) (hn : row.length ≤ sizeLine) (hst : Stores env "heads")
    (k : ∀ s', FS hz env Y sb pr pg (σ.set "heads" (.int (hds row))) none s' → wpAny (model prog w) A (execs rest env) Q E s')
    (hx : env.kindOf "len" = some .globalImplicit := by rfl) (hg : env.globals = mainGlobals := by rfl) (hbn : env.builtins = builtinsNs := by rfl) :
    wpAny (model prog w) A (execs (.While (.BoolOp .And [.Compare (.Name "heads" p₁) [.Lt] [.Call (.Name "len" p₂) [.Name "row" p₃] [] p₄] p₅,
      .Compare (.Subscript (.Name "row" p₆) (.Name "heads" p₇) p₈) [.NotIn] [.Tuple [.Constant (.int 0) k₀ p₉, .Constant (.int 127) k₁ p₁₀] k₂ p₁₁] p₁₂] p₁₃)
      [.AugAssign (.Name "heads" p₁₄) .Add (.Constant (.int 1) k₃ p₁₅) p₁₆] [] p₁₇ :: rest) env) Q E s := by
  have hfn := hst.fn
  have hσ : σ.set "heads" (.int (0 : Nat)) = σ := by
    funext y; simp only [Sto.set]; split
    · rename_i h; rw [h, h0]; rfl
    · rfl
  refine ex_while (fun n σ' own => own = none ∧ ∃ k : Nat, σ' = σ.set "heads" (.int k) ∧ n = hds row - k ∧ k ≤ hds row) ⟨rfl, 0, hσ.symm, rfl, Nat.zero_le _⟩ F ?_
  rintro n σ' own ⟨rfl, j, rfl, rfl, hj⟩
  refine ⟨decide ((j : Int) < row.length) && (!stops (row.getD j 0) && true), ?_, ?_, ?_⟩
  · refine eb_boolop (and_cons (eb_cmp (ev_name rfl hfn) (ev_len_int G (ev_name hr hfn) hn hl hb hfn hx hg hbn) op_lt) fun h1 => ?_)
    have h1' : (j : Int) < row.length := by simpa using h1
    exact and_cons (eb_cmp (ev_item_int (ev_name hr hfn) (ev_name rfl hfn) (by omega) h1' hn) (ev_tuple (ds := ils [0, 127]) (evs_cons ev_int (evs_cons ev_int evs_nil))) op_notin_tup) fun _ => and_nil
  · intro hb s E F
    refine ex_aug F rfl ev_int op_iadd (fun s₁ F₁ => ex_nil ?_) (by intro _ _ e; cases e) hst
    have hlt := lt_hds hj hb
    rw [Sto.set_set] at F₁
    exact ⟨hds row - (j + 1), _, none, by omega, ⟨rfl, j + 1, rfl, rfl, hlt⟩, F₁⟩
  · intro hb s F
    have := eq_hds hj hb
    subst this
    exact k s F
end
end Mine
end

section
open PySem PySem.W PyProof.Rows PySem.Calls
namespace Mine
section
variable {M : Model} {A : Around} {R : GenEnd} {Yp : Protocol} {n : Nat} {s₀ : Shared} {c : Code} {fs : List Frame} {s : Shared} {env : Env}
  {K : Flow → Sem Fin} {H : Value → Sem Fin} {gd : Bool → Bool} {lv : List Value → List Value}

/-- a statement that does not yield -/
theorem seg_plain {st : Stmt} (h : wpAny M (A.over c fs) (exec st env) (fun f s' => Seg M A R Yp n s₀ c (K f) fs s') (fun x s' => Seg M A R Yp n s₀ c (H x) fs s') s) :
    Seg M A R Yp n s₀ c ((exec st env).wrap K H gd lv) fs s := seg_wrap h
theorem seg_If {test : Expr} {body orelse : List Stmt} {pos : Pos}
    (h : wpAny M (A.over c fs) (isTrue test env (eval test env)) (fun b s' => Seg M A R Yp n s₀ c ((execs (if b then body else orelse) env).wrap K H gd lv) fs s') (fun x s' => Seg M A R Yp n s₀ c (H x) fs s') s) :
    Seg M A R Yp n s₀ c ((exec (.If test body orelse pos) env).wrap K H gd lv) fs s := by
  rw [exec_If]
  refine seg_at ?_
  show Seg M A R Yp n s₀ c (((isTrue test env (eval test env)) >>= fun b => if b = true then execs body env else execs orelse env).wrap K H gd lv) fs s
  rw [Sem.bind_eq_wrap', Sem.wrap_wrap]
  refine seg_wrap (wpAny_mono h (fun b s' hb => ?_) fun _ _ e => e)
  cases b <;> exact hb

/-- what stands on the stack while a block's own loop runs -/
def ownRet (env : Env) (K : Flow → Sem Fin) (H : Value → Sem Fin) (gd : Bool → Bool) (lv : List Value → List Value) (r : Result) : Sem Fin :=
  ((match r with | .ok f => (.pure f : Sem Flow) | .error e => .raise e).onRaise fun (x : Value) => do
        if (← field x 1) == Value.none then unsupported "frame.own-activation:exception-without-traceback"
        setFlight x env.frame).wrap K H gd lv
theorem seg_For {target iter : Expr} {body orelse : List Stmt} {pos : Pos}
    (h : wpAny M (A.over c fs) (eval iter env) (fun x s₁ => wpAny M (A.over c fs) (pyIter x) (fun it s₂ =>
        ∀ p, Seg M A R Yp n s₀ (.forLoop target it body orelse env) (M.den (.forLoop target it body orelse env)) (.ret (ownRet env K H gd lv) none (gd false) (lv []) c p [] :: fs) s₂)
        (fun x s' => Seg M A R Yp n s₀ c (H x) fs s') s₁) (fun x s' => Seg M A R Yp n s₀ c (H x) fs s') s)
    (hs : ∀ x, foldedSetIterable iter env x = pure x := by intro _; rfl) :
    Seg M A R Yp n s₀ c ((exec (.For target iter body orelse pos) env).wrap K H gd lv) fs s := by
  rw [exec_For]
  refine seg_at ?_
  show Seg M A R Yp n s₀ c (((eval iter env) >>= fun x₀ => foldedSetIterable iter env x₀ >>= fun x => standAt iter.pos >>= fun _ => holding [x] (pyIter x) >>= fun it => runOwn (.forLoop target it body orelse env) env).wrap K H gd lv) fs s
  rw [Sem.bind_eq_wrap', Sem.wrap_wrap]
  refine seg_wrap (wpAny_mono h (fun x s₁ h₁ => ?_) fun _ _ e => e)
  rw [hs x]
  show Seg M A R Yp n s₀ c ((standAt iter.pos >>= fun _ => holding [x] (pyIter x) >>= fun it => runOwn (.forLoop target it body orelse env) env).wrap K H gd lv) fs s₁
  refine seg_at ?_
  show Seg M A R Yp n s₀ c ((holding [x] (pyIter x) >>= fun it => runOwn (.forLoop target it body orelse env) env).wrap K H gd lv) fs s₁
  rw [Sem.bind_eq_wrap', Sem.wrap_wrap]
  refine seg_wrap (wpAny_holding (wpAny_mono h₁ (fun it s₂ h₂ => ?_) fun _ _ e => e))
  exact seg_call h₂

theorem seg_Return_none {pos : Pos} (h : Seg M A R Yp n s₀ c (K (.ret .none)) fs s) : Seg M A R Yp n s₀ c ((exec (.Return none pos) env).wrap K H gd lv) fs s :=
  seg_wrap (wpAny_Return_none h)
end

section
variable {prog : Program} {w : World} {A : Around} {R : GenEnd} {Yp : Protocol} {n : Nat} {s₀ : Shared} {fs : List Frame} {s : Shared} {env : Env}
/-- how a loop's turn goes on -/
def turnK (c : Code) : Flow → Sem Fin := fun f => match f with
  | .next | .cont => .pure (.again c)
  | .brk => .pure (.done .next)
  | .ret v => .pure (.done (.ret v))
def turnH (env : Env) : Value → Sem Fin := fun e => (do noteFrame e env; theTreesLotGoes e : Sem Unit).wrap (fun _ => .raise e) .raise id id
theorem seg_forLoop {target : Expr} {it : Value} {body orelse : List Stmt}
    (h : wpAny (model prog w) (A.over (.forLoop target it body orelse env) fs) (pyNext it) (fun r s₁ => match r with
        | none => Seg (model prog w) A R Yp n s₀ (.block orelse env) ((model prog w).den (.block orelse env)) fs s₁
        | some v => wpAny (model prog w) (A.over (.forLoop target it body orelse env) fs) (assign target env v)
            (fun _ s₂ => Seg (model prog w) A R Yp n s₀ (.forLoop target it body orelse env) ((execs body env).wrap (turnK (.forLoop target it body orelse env)) (turnH env) id id) fs s₂)
            (fun x s' => Seg (model prog w) A R Yp n s₀ (.forLoop target it body orelse env) (turnH env x) fs s') s₁)
      (fun x s' => Seg (model prog w) A R Yp n s₀ (.forLoop target it body orelse env) (turnH env x) fs s') s)
    (ht : ∀ v, letOwnedTupleGo target it v = pure () := by intro _; rfl) :
    Seg (model prog w) A R Yp n s₀ (.forLoop target it body orelse env) ((model prog w).den (.forLoop target it body orelse env)) fs s := by
  show Seg _ A R Yp n s₀ _ ((forTurn target it body orelse env).onRaise (fun x => do noteFrame x env; theTreesLotGoes x)) fs s
  unfold forTurn
  rw [Sem.onRaise_eq_wrap]
  refine seg_at ?_
  show Seg _ A R Yp n s₀ _ (((pyNext it).onRaise (fun _ => standAt { target.pos with line := 0 }) >>= fun r => match r with
    | none => again (.block orelse env)
    | some v => do
      letOwnedTupleGo target it v
      assign target env v
      match ← execs body env with
      | .next | .cont => again (.forLoop target it body orelse env)
      | .brk => pure (.done .next)
      | .ret v => pure (.done (.ret v))).wrap Sem.pure (fun e => (do noteFrame e env; theTreesLotGoes e : Sem Unit).bind fun _ => .raise e) id id) fs s
  rw [Sem.bind_eq_wrap', Sem.wrap_wrap, Sem.onRaise_eq_wrap, Sem.wrap_wrap]
  refine seg_wrap (wpAny_mono h (fun r s₁ h₁ => ?_) fun x s₁ h₁ => ?_)
  · cases r with
    | none => exact seg_again rfl h₁
    | some v =>
      show Seg _ A R Yp n s₀ _ ((letOwnedTupleGo target it v >>= fun _ => assign target env v >>= fun _ => execs body env >>= fun f => match f with
        | .next | .cont => again (.forLoop target it body orelse env)
        | .brk => pure (.done .next)
        | .ret v => pure (.done (.ret v))).wrap Sem.pure (fun e => (do noteFrame e env; theTreesLotGoes e : Sem Unit).bind fun _ => .raise e) id id) fs s₁
      rw [ht v]
      show Seg _ A R Yp n s₀ _ ((assign target env v >>= fun _ => execs body env >>= fun f => match f with
        | .next | .cont => again (.forLoop target it body orelse env)
        | .brk => pure (.done .next)
        | .ret v => pure (.done (.ret v))).wrap Sem.pure (fun e => (do noteFrame e env; theTreesLotGoes e : Sem Unit).bind fun _ => .raise e) id id) fs s₁
      rw [Sem.bind_eq_wrap', Sem.wrap_wrap]
      refine seg_wrap (wpAny_mono h₁ (fun _ s₂ h₂ => ?_) fun x s₂ h₂ => ?_)
      · rw [Sem.bind_eq_wrap', Sem.wrap_wrap]
        rw [Sem.wrap_congr (execs body env) _ _ (K' := turnK (.forLoop target it body orelse env)) (H' := turnH env) (fun f => by cases f <;> rfl) (fun e => by
          show (do noteFrame e env; theTreesLotGoes e : Sem Unit).bind (fun _ => .raise e) = _
          rw [Sem.bind_eq_wrap]; rfl)]
        exact h₂
      · show Seg _ A R Yp n s₀ _ ((do noteFrame x env; theTreesLotGoes x : Sem Unit).bind fun _ => .raise x) fs s₂
        rw [Sem.bind_eq_wrap]; exact h₂
  · refine seg_at ?_
    show Seg _ A R Yp n s₀ _ ((do noteFrame x env; theTreesLotGoes x : Sem Unit).bind fun _ => .raise x) fs s₁
    rw [Sem.bind_eq_wrap]; exact h₁
theorem seg_block_nil (h : Seg (model prog w) A R Yp n s₀ (.block [] env) (.pure (.done .next)) fs s) : Seg (model prog w) A R Yp n s₀ (.block [] env) ((model prog w).den (.block [] env)) fs s := h
end
end Mine
end

section
open PySem PySem.W PyProof.Rows PySem.Calls
namespace Mine
section
variable {prog : Program} {w : World} {A : Around} {E : Value → Shared → Prop} {s : Shared} {hz : Heap} {env : Env} {σ : Sto} {mg mb : Str → Option Value}

theorem ev_glob {x : Str} {np : Pos} {d : PyData} {v : Value} (G : Gl hz mg mb) (hv : mg x = some v) (hr : ∀ X h, Rep X h v d)
    (hk : env.scope.kind = .function := by rfl) (hx : env.kindOf x = some .globalImplicit := by rfl) (hg : env.globals = mainGlobals := by rfl) (hd : (x == ("__debug__" : Str)) = false := by decide) :
    EV prog w hz A env σ (.Name x np) d := fun _ _ _ p => glob_name G p hv ⟨hr _ _, .refl _⟩ hk hx hg hd

/-- the next item of a generator that does not raise -/
theorem next_gen {a : Addr} {g n : Nat} {gs : GenState} {P : Nat → Shared → Shared → Prop} {Yp : Protocol} {Q : Option Value → Shared → Prop} (hh : A.handled = none)
    (hl : s.heap.NoLimit) (hroom : A.depth < recursionLimit) (hg : s.heap.IsGen a g) (hgs : s.gens[g]? = some gs)
    (hgo : gs.Goes (model prog w) A.in1 (fun n s₀ r s₁ => r = .ok (.ret .none) ∧ P n s₀ s₁) Yp n (.send .none) (s.setGen g .running))
    (hY : ∀ v s₁ gs', gs'.bare = true → Yp (n - 1) (s.setGen g .running) v s₁ (fun r' s'' => match n with
        | 0 => False
        | m + 1 => gs'.Goes (model prog w) A.in1 (fun n s₀ r s₁ => r = .ok (.ret .none) ∧ P n s₀ s₁) Yp m r' s'') → Q (some v) (s₁.setGen g gs'))
    (hP : ∀ s₁, P n (s.setGen g .running) s₁ → ∀ h', HK s₁.heap h' → Q none { s₁.setGen g .finished with heap := h' }) :
    wpAny (model prog w) A (pyNext (.ref a)) Q E s := by
  unfold pyNext
  refine wpAny_bind (wpAny_attempt (wpAny_callSpecial?_slot (name := Str.ofString "__next__") hg.typeIs slot_gen_next
    (wpAny_call_entry slot_gen_next hg.typeIs entry_gen_next ?_ (args_gen_next _))))
  show wpAny _ A.in1 (Builtin.Generator.genWake (.ref a) (.send .none)) _ _ s
  unfold Builtin.Generator.genWake
  refine wpAny_bind (wpAny_holding (wpAny_genNumber hg (wpAny_bind (wpAny_genState hgs ?_))))
  cases gs with
  | running => exact hgo.elim
  | finished => exact hgo.elim
  | _ =>
    refine wpAny_bind (wpAny_roomToWake hl hroom ?_)
    show wpAny _ A.in1 (.resume g (.send .none) [] _) _ _ s
    refine wpAny_resumeQ hgs hgo (fun x s₁ hx => ?_) (fun v s₁ gs' hb hv => ?_)
    · obtain ⟨rfl, hp⟩ := hx
      show wpAny _ A.in1 (newExc (.type "StopIteration") [] >>= _) _ _ _
      refine wpAny_bind ?_
      simp only [newExc, newTuple]
      refine wpAny_bind (wpAny_newObj_type ?_ (by size_fits))
      refine wpAny_bind (m := firstArgMember _ _) (wpAny_of_eq (a := Value.none) (by first | rfl | (simp only [firstArgMember]; rfl)) ?_)
      refine wpAny_newObj_type ?_ (by size_fits)
      simp only [raiseNew]
      refine wpAny_bind (wpAny_bind (wpAny_handled ?_))
      rw [show A.in1.handled = none from hh]
      refine wpAny_throw ?_
      refine wpAny_bind (wpAny_isInstance (T := "StopIteration") (b := true) ⟨_, Heap.get?_push_size _ rfl, rfl⟩ isSubtype_stop ?_)
      exact wpAny_pure (hP s₁ hp _ ((HK.push _ _).trans (.push _ _)))
    · exact wpAny_pure ⟨v, rfl, wpAny_pure (hY v s₁ gs' hb hv)⟩
end

/-- what the generator yields behind k others -/
def yv (row : List Int) (k : Nat) : Int := if k < hds row then row.getD k 0 else row.getD (hds row - 1) 0
/-- does a nought end the sizes? -/
def inf (row : List Int) : Bool := decide ((row.drop (hds row)).take 1 = [0])

/-- the generator has worked: its own two places apart, all stands -/
structure KG (L It : Addr) (s₀ s : Shared) : Prop where
  heap : ∀ b o, b ≠ L → b ≠ It → s₀.heap.get? b = some o → s.heap.get? b = some o
  gens : ∀ (i : Nat) (g : GenState), s₀.gens[i]? = some g → s.gens[i]? = some g
  bare : AllBare s₀.gens → AllBare s.gens
  os : s.os = s₀.os
theorem KG.refl {L It : Addr} (s : Shared) : KG L It s s := ⟨fun _ _ _ _ e => e, fun _ _ e => e, id, rfl⟩
theorem KG.trans {L It : Addr} {a b c : Shared} (x : KG L It a b) (y : KG L It b c) : KG L It a c :=
  ⟨fun d o h1 h2 e => y.heap d o h1 h2 (x.heap d o h1 h2 e), fun i g e => y.gens i g (x.gens i g e), fun e => y.bare (x.bare e), y.os.trans x.os⟩
theorem KG.h {L It : Addr} {s₀ s : Shared} {h' : Heap} {tk : Nat} (x : KG L It s₀ s) (k : ∀ b o, b ≠ L → b ≠ It → s.heap.get? b = some o → h'.get? b = some o) : KG L It s₀ { s with heap := h', toks := tk } :=
  x.trans ⟨k, fun _ _ e => e, id, rfl⟩
theorem KG.kp {L It : Addr} {s₀ s s' : Shared} (x : KG L It s₀ s) (k : Kp s s') : KG L It s₀ s' := x.trans ⟨fun b o _ _ e => k.heap b o e, k.gens, k.bare, k.os⟩
end Mine
end

section
open PySem PySem.W PyProof.Rows PySem.Calls
namespace Mine

/-- the exception at e: a ValueError whose newest entry says fl -/
def ExcAt (sb : Shared) (h : Heap) (e : Addr) (fl : Value) : Prop :=
  ∃ oe vs T oT ts, h.get? e = some oe ∧ oe.cls = .type "ValueError" ∧ oe.data = .fields vs ∧ vs[1]? = some (.ref T) ∧ T ≠ e ∧ h.get? T = some oT ∧ oT.data = .fields ts ∧ ts[3]? = some fl ∧ sb.heap.get? e = none ∧ sb.heap.get? T = none
/-- since sb nothing has changed but the slots of the frames at fr -/
structure Kf (fr : List Addr) (sb s : Shared) : Prop where
  keep : ∀ b o, b ∉ fr → sb.heap.get? b = some o → s.heap.get? b = some o
  slots : ∀ b o, sb.heap.get? b = some o → ∃ sl, s.heap.get? b = some { o with slots := sl }
  gens : ∀ (i : Nat) (g : GenState), sb.gens[i]? = some g → s.gens[i]? = some g
  bare : AllBare sb.gens → AllBare s.gens
  os : s.os = sb.os
/-- an exception is under way through the frames l -/
structure Fly (hz : Heap) (l : List Env) (fr : List Addr) (sb s : Shared) (e : Addr) (fl : Value) : Prop where
  kf : Kf fr sb s
  funs : s.heap.FunFrames hz l
  base : HK hz s.heap
  zb : HK hz sb.heap
  exc : ExcAt sb s.heap e fl
  lf : ∀ b ∈ l.filterMap (·.frame), Live sb.heap b → b ∈ fr

section
variable {M : Model} {A : Around} {E : Value → Shared → Prop} {s sb : Shared} {hz : Heap} {env : Env} {outer : List Env} {fr : List Addr} {L e : Addr} {fl : Value}

theorem Kf.refl (fr : List Addr) (s : Shared) : Kf fr s s := ⟨fun _ _ _ e => e, fun _ o e => ⟨o.slots, e⟩, fun _ _ e => e, id, rfl⟩
theorem Kf.heap {h' : Heap} {tk : Nat} (x : Kf fr sb s) (h1 : ∀ b o, b ∉ fr → sb.heap.get? b = some o → s.heap.get? b = some o → h'.get? b = some o)
    (h2 : ∀ b o o', sb.heap.get? b = some o → s.heap.get? b = some o' → ∃ sl, h'.get? b = some { o' with slots := sl }) : Kf fr sb { s with heap := h', toks := tk } :=
  ⟨fun b o n e => h1 b o n e (x.keep b o n e), fun b o e => let ⟨_, e'⟩ := x.slots b o e; let ⟨sl', e''⟩ := h2 b o _ e e'; ⟨sl', e''⟩, x.gens, x.bare, x.os⟩

/-- the frame's own entry is laid -/
theorem entry_laid {oe : Obj} {vs : Array Value} {head : Value} {hadNext : Bool} {Q : Unit → Shared → Prop} (hfr : A.frames = some (env :: outer)) (hl : s.heap.FunFrames hz (env :: outer)) (hf : env.frame = some L)
    (he : s.heap.get? e = some oe) (hd : oe.data = .fields vs) (hsz : 1 < vs.size)
    (h : ∀ h' T, s.heap.get? T = none → (∀ b o, b ∉ (env :: outer).filterMap (·.frame) → b ≠ e → s.heap.get? b = some o → h'.get? b = some o) → (∀ b o, b ≠ e → s.heap.get? b = some o → ∃ sl, h'.get? b = some { o with slots := sl }) →
      h'.get? e = some (oe.mapFields (·.setIfInBounds 1 (.ref T))) → (∃ oT ts, h'.get? T = some oT ∧ oT.data = .fields ts ∧ ts[3]? = some (rawInt L)) → Q () { s with heap := h' }) :
    wpAny M A (do let a ← frameOf env; let pl ← entryPlaceOf L hadNext; let b ← EntryCells.newEntry head a .none (rawInt L) .none pl; setField (.ref e) 1 b) Q E s := by
  have hene : e ∉ (env :: outer).filterMap (·.frame) := fun hm => by
    obtain ⟨_, o, ho, hnf⟩ := hl.mem hm
    rw [he] at ho; injection ho with ho; subst ho; exact hnf vs hd
  refine wpAny_bind (wpAny_frameOf_fun hfr hl hf fun h₁ hs₁ => ?_)
  refine wpAny_bind (wpAny_entryPlaceOf fun pl hpl => ?_)
  unfold EntryCells.newEntry newFields
  refine wpAny_bind (wpAny_newObj_type ?_ (hpl.sizeOk5 _ _ _ _ _))
  have he₁ : h₁.get? e = some oe := (hs₁.2.1 e hene).trans he
  have he₂ := Heap.get?_push_of_some (h := h₁) { cls := .type "traceback", dict := none, data := .fields ([head, .ref L, .none, rawInt L, .none] ++ (if pl.isEmpty then List.replicate 6 Value.none else pl)).toArray } he₁
  refine wpAny_setField he₂ hd hsz ?_
  have hTe : h₁.objs.size ≠ e := Nat.ne_of_gt (Heap.lt_size he₁)
  have hd₃ := Obj.data_mapFields hd (·.setIfInBounds 1 (Value.ref h₁.objs.size))
  have keep : ∀ b o, b ≠ e → h₁.get? b = some o → ((h₁.push { cls := .type "traceback", dict := none, data := .fields ([head, .ref L, .none, rawInt L, .none] ++ (if pl.isEmpty then List.replicate 6 Value.none else pl)).toArray }).update e (Obj.mapFields (·.setIfInBounds 1 (Value.ref h₁.objs.size)))).get? b = some o := fun b o hbe hb => by
    rw [Heap.get?_update_other _ _ (Ne.symm hbe)]
    exact Heap.get?_push_of_some _ hb
  refine h _ h₁.objs.size ?_ (fun b o hbf hbe hb => keep b o hbe ((hs₁.2.1 b hbf).trans hb)) (fun b o hbe hb => ?_) (Heap.get?_update_self _ he₂ (Obj.isFreed_of_fields hd₃)) ⟨_, _, (Heap.get?_update_other _ _ (Ne.symm hTe)).trans (Heap.get?_push_size h₁ rfl), rfl, by simp⟩
  · cases hq : s.heap.get? h₁.objs.size with
    | none => rfl
    | some o => exact absurd (Heap.lt_size hq) (by rw [hs₁.1]; exact Nat.lt_irrefl _)
  · obtain ⟨sl, hs⟩ := hs₁.2.2 b o hb
    exact ⟨sl, keep b _ hbe hs⟩

theorem FunFrames.slots {h h' base : Heap} {l : List Env} (hl : h.FunFrames base l) (k : ∀ b o, h.get? b = some o → (∀ vs, o.data ≠ .fields vs) → ∃ sl, h'.get? b = some { o with slots := sl }) : h'.FunFrames base l :=
  hl.of_keeps fun b o e n => let ⟨_, e'⟩ := k b o e n; ⟨_, e', rfl⟩

theorem fly_laid {oe : Obj} {vs : Array Value} {h' : Heap} {T : Addr} (hkf : Kf fr sb s) (hl : s.heap.FunFrames hz (env :: outer)) (hb : HK hz s.heap) (hzb : HK hz sb.heap)
    (hlf : ∀ b ∈ (env :: outer).filterMap (·.frame), Live sb.heap b → b ∈ fr) (he : s.heap.get? e = some oe) (hc : oe.cls = .type "ValueError") (hd : oe.data = .fields vs) (hsz : 1 < vs.size) (hne : sb.heap.get? e = none)
    (hT : s.heap.get? T = none) (k1 : ∀ b o, b ∉ (env :: outer).filterMap (·.frame) → b ≠ e → s.heap.get? b = some o → h'.get? b = some o) (k2 : ∀ b o, b ≠ e → s.heap.get? b = some o → ∃ sl, h'.get? b = some { o with slots := sl })
    (k3 : h'.get? e = some (oe.mapFields (·.setIfInBounds 1 (.ref T)))) (k4 : ∃ oT ts, h'.get? T = some oT ∧ oT.data = .fields ts ∧ ts[3]? = some (rawInt L)) :
    Fly hz (env :: outer) fr sb { s with heap := h' } e (rawInt L) := by
  have nbe : ∀ b, Live sb.heap b → b ≠ e := fun b ⟨o, eb⟩ h => by rw [h, hne] at eb; cases eb
  have hTe : T ≠ e := fun h => by rw [h, he] at hT; cases hT
  have sbT : sb.heap.get? T = none := by
    cases hq : sb.heap.get? T with
    | none => rfl
    | some o => obtain ⟨sl, e'⟩ := hkf.slots T o hq; rw [hT] at e'; cases e'
  refine ⟨hkf.heap (tk := s.toks) (fun b o n eb es => k1 b o (fun hm => n (hlf b hm ⟨o, eb⟩)) (nbe b ⟨o, eb⟩) es) fun b o o' eb es => k2 b o' (nbe b ⟨o, eb⟩) es, FunFrames.slots hl fun b o eb nf => k2 b o (fun h => ?_) eb, fun b o eb => k1 b o (fun hm => ?_) (nbe b ⟨o, hzb b o eb⟩) (hb b o eb), hzb, ?_, hlf⟩
  · rw [h, he] at eb; cases eb; exact nf vs hd
  · have := (hl.mem hm).1; rw [eb] at this; cases this
  · obtain ⟨oT, ts, t1, t2, t3⟩ := k4
    exact ⟨_, _, T, oT, ts, k3, (Obj.cls_mapFields _ _).trans hc, Obj.data_mapFields hd _, by simp [hsz], hTe, t1, t2, t3, hne, sbT⟩

/-- an exception newly made is noted by the first frame that it meets -/
theorem fly_first {oe : Obj} {vs : Array Value} {Q : Unit → Shared → Prop} (hfr : A.frames = some (env :: outer)) (hf : env.frame = some L) (hkf : Kf fr sb s) (hl : s.heap.FunFrames hz (env :: outer)) (hb : HK hz s.heap) (hzb : HK hz sb.heap)
    (hlf : ∀ b ∈ (env :: outer).filterMap (·.frame), Live sb.heap b → b ∈ fr) (he : s.heap.get? e = some oe) (hc : oe.cls = .type "ValueError") (hd : oe.data = .fields vs) (h1 : vs[1]? = some .none) (hne : sb.heap.get? e = none)
    (q : ∀ s', Fly hz (env :: outer) fr sb s' e (rawInt L) → Q () s') : wpAny M A (noteFrame (.ref e) env) Q E s := by
  have hsz : 1 < vs.size := (Array.getElem?_eq_some_iff.mp h1).1
  unfold noteFrame
  simp only [hf]
  refine wpAny_bind (wpAny_field he hd h1 ?_)
  rw [if_neg (by decide)]
  exact entry_laid hfr hl hf he hd hsz fun h' T hT k1 k2 k3 k4 => q _ (fly_laid hkf hl hb hzb hlf he hc hd hsz hne hT k1 k2 k3 k4)

/-- the entry's word is changed -/
theorem fly_set {fo : Option Addr} {Q : Unit → Shared → Prop} {l : List Env} (F : Fly hz l fr sb s e fl) (q : ∀ s', Fly hz l fr sb s' e (fo.elim .none fun f => rawInt f) → Q () s') : wpAny M A (setFlight (.ref e) fo) Q E s := by
  obtain ⟨oe, vs, T, oT, ts, he, hc, hd, h1, hTe, hT, hdT, h3, hne, hnT⟩ := F.exc
  unfold setFlight
  refine wpAny_bind (wpAny_field he hd h1 ?_)
  rw [if_pos (show (Value.ref T != Value.none) = true from by simp)]
  have hsz : 3 < ts.size := (Array.getElem?_eq_some_iff.mp h3).1
  refine wpAny_setField hT hdT hsz (q _ ?_)
  have other : ∀ b, b ≠ T → ∀ fv : Value, (s.heap.update T (Obj.mapFields (·.setIfInBounds 3 fv))).get? b = s.heap.get? b := fun b hb fv => Heap.get?_update_other _ _ (Ne.symm hb)
  have nbT : ∀ b, Live sb.heap b → b ≠ T := fun b ⟨o, eb⟩ h => by rw [h, hnT] at eb; cases eb
  refine ⟨F.kf.heap (tk := s.toks) (fun b o n eb es => (other b (nbT b ⟨o, eb⟩) _).trans es) fun b o o' eb es => ⟨o'.slots, (other b (nbT b ⟨o, eb⟩) _).trans es⟩, FunFrames.slots F.funs fun b o eb nf => ⟨o.slots, (other b (fun h => ?_) _).trans eb⟩, fun b o eb => (other b (nbT b ⟨o, F.zb b o eb⟩) _).trans (F.base b o eb), F.zb, ?_, F.lf⟩
  · rw [h, hT] at eb; cases eb; exact nf ts hdT
  · exact ⟨oe, vs, T, _, _, (other e (Ne.symm hTe) _).trans he, hc, hd, h1, hTe, Heap.get?_update_self _ hT (Obj.isFreed_of_fields (Obj.data_mapFields hdT _)), Obj.data_mapFields hdT _, by simp [hsz], hne, hnT⟩

/-- the frame that holds it notes it again: nothing happens -/
theorem fly_same {Q : Unit → Shared → Prop} {l : List Env} (F : Fly hz l fr sb s e (rawInt L)) (hf : env.frame = some L) (q : Q () s) : wpAny M A (noteFrame (.ref e) env) Q E s := by
  obtain ⟨oe, vs, T, oT, ts, he, hc, hd, h1, hTe, hT, hdT, h3, hne, hnT⟩ := F.exc
  exact wpAny_noteFrame_inFlight hf he hd h1 hT hdT h3 q

/-- the next frame notes it -/
theorem fly_next {Q : Unit → Shared → Prop} (hfr : A.frames = some (env :: outer)) (hf : env.frame = some L) (F : Fly hz (env :: outer) fr sb s e .none) (q : ∀ s', Fly hz (env :: outer) fr sb s' e (rawInt L) → Q () s') : wpAny M A (noteFrame (.ref e) env) Q E s := by
  obtain ⟨oe, vs, T, oT, ts, he, hc, hd, h1, hTe, hT, hdT, h3, hne, hnT⟩ := F.exc
  unfold noteFrame
  simp only [hf]
  refine wpAny_bind (wpAny_field he hd h1 ?_)
  rw [if_pos (show (Value.ref T != Value.none) = true from by simp)]
  refine wpAny_bind (wpAny_field hT hdT h3 ?_)
  rw [if_neg (show ¬ ((Value.none == rawInt L) = true) from by simp [rawInt])]
  have hsz : 3 < ts.size := (Array.getElem?_eq_some_iff.mp h3).1
  refine wpAny_bind (wpAny_setField hT hdT hsz ?_)
  have other : ∀ b, b ≠ T → ∀ fv : Value, (s.heap.update T (Obj.mapFields (·.setIfInBounds 3 fv))).get? b = s.heap.get? b := fun b hb fv => Heap.get?_update_other _ _ (Ne.symm hb)
  have nbT : ∀ b, Live sb.heap b → b ≠ T := fun b ⟨o, eb⟩ h => by rw [h, hnT] at eb; cases eb
  have F' : Fly hz (env :: outer) fr sb { s with heap := s.heap.update T (Obj.mapFields (·.setIfInBounds 3 .none)) } e .none := by
    refine ⟨F.kf.heap (tk := s.toks) (fun b o n eb es => (other b (nbT b ⟨o, eb⟩) _).trans es) fun b o o' eb es => ⟨o'.slots, (other b (nbT b ⟨o, eb⟩) _).trans es⟩, FunFrames.slots F.funs fun b o eb nf => ⟨o.slots, (other b (fun h => ?_) _).trans eb⟩, fun b o eb => (other b (nbT b ⟨o, F.zb b o eb⟩) _).trans (F.base b o eb), F.zb, ?_, F.lf⟩
    · rw [h, hT] at eb; cases eb; exact nf ts hdT
    · exact ⟨oe, vs, T, _, _, (other e (Ne.symm hTe) _).trans he, hc, hd, h1, hTe, Heap.get?_update_self _ hT (Obj.isFreed_of_fields (Obj.data_mapFields hdT _)), Obj.data_mapFields hdT _, by simp [hsz], hne, hnT⟩
  have he' : (s.heap.update T (Obj.mapFields (·.setIfInBounds 3 Value.none))).get? e = some oe := (other e (Ne.symm hTe) _).trans he
  refine entry_laid hfr F'.funs hf he' hd (Array.getElem?_eq_some_iff.mp h1).1 fun h' T' hT' k1 k2 k3 k4 => q _ ?_
  exact fly_laid (s := { s with heap := s.heap.update T (Obj.mapFields (·.setIfInBounds 3 .none)) }) F'.kf F'.funs F'.base F.zb F.lf he' hc hd (Array.getElem?_eq_some_iff.mp h1).1 hne hT' k1 k2 k3 k4

/-- a block's own loop is left by it -/
theorem fly_back {l : List Env} {E : Value → Shared → Prop} (F : Fly hz l fr sb s e fl) (hf : env.frame = some L) (q : ∀ s', Fly hz l fr sb s' e (rawInt L) → E (.ref e) s') : cameBackBy M A env E (.ref e) s := by
  obtain ⟨oe, vs, T, oT, ts, he, hc, hd, h1, r⟩ := F.exc
  refine wpAny_bind (wpAny_field he hd h1 ?_)
  rw [if_neg (by simp)]
  rw [hf]
  exact fly_set (fo := some L) F q
theorem fly_leave {Q : Unit → Shared → Prop} {l : List Env} (F : Fly hz l fr sb s e (rawInt L)) (hf : env.frame = some L) (q : ∀ s', Fly hz l fr sb s' e .none → Q () s') : wpAny M A (leaving env (.ref e)) Q E s := by
  unfold leaving
  exact wpAny_bind (fly_same F hf (fly_set (fo := none) F q))
theorem Fly.tail (F : Fly hz (env :: outer) fr sb s e fl) : Fly hz outer fr sb s e fl := by
  obtain ⟨k, ⟨_, _, f⟩, b, z, x, l⟩ := F
  refine ⟨k, f, b, z, x, fun c hc => l c ?_⟩
  rw [List.filterMap_cons]
  split
  · exact hc
  · exact List.mem_cons_of_mem _ hc
end
end Mine
end

section
open PySem PySem.W PyProof.Rows PySem.Calls
namespace Mine
/-- the program of this claim -/
abbrev qp : Program := PySem.Challenge.pw_mq0443_03
def stAt (l : List Stmt) (i : Nat) : Stmt := l.getD i (.Pass default)
def forT : Stmt → Expr
  | .For t _ _ _ _ => t
  | _ => default
def forB : Stmt → List Stmt
  | .For _ _ b _ _ => b
  | _ => []
def ifB : Stmt → List Stmt
  | .If _ b _ _ => b
  | _ => []
def whT : Stmt → Expr
  | .While t _ _ _ => t
  | _ => default
def whB : Stmt → List Stmt
  | .While _ b _ _ => b
  | _ => []
abbrev gFor : Stmt := stAt (bodyOf qp 2) 1
abbrev gWhile : Stmt := stAt (ifB (stAt (forB gFor) 1)) 1

/-- what the generator's end says: N items at most, L its names, It its iterator -/
def genR (L It : Addr) (row : List Int) (N : Nat) : Nat → Shared → Shared → Prop := fun n s₀ s₁ => KG L It s₀ s₁ ∧ N = n + hds row ∧ inf row = false
def genY (hz : Heap) (L It ra : Addr) (row : List Int) (N : Nat) : Protocol := fun n s₀ v s' kap =>
  (∃ k t, N = n + 1 + k ∧ v = .int (yv row k) t ∧ (inf row = true ∨ k < hds row)) ∧ KG L It s₀ s' ∧ Live s'.heap L ∧ Live s'.heap It ∧
  (0 < n → ∀ s'', (∀ b, (b = L ∨ b = It ∨ b = ra) → ∀ o, s'.heap.get? b = some o → s''.heap.get? b = some o) → HK hz s''.heap → kap (.send .none) s'')

section
variable {prog : Program} {w : World} {hz : Heap} {mg mb : Str → Option Value} {A : Around} {f L It ra : Addr} {pm cd doc : Value} {row : List Int} {vs : List Value} {N : Nat}

abbrev genv (f : Addr) (pm cd doc : Value) (L : Addr) : Env := callEnvC (fdOf qp 2 pm cd doc) L f

theorem pre_gen {s : Shared} {m : Str → Option Value} {l : List (Str × PyData)} (hb : HK hz s.heap) (hn : s.heap.Ns L m) (h : ∀ x d, (stoL l) x = some d → (genv f pm cd doc L).kindOf x = some .local ∧ ∃ v, m x = some v ∧ ∀ X h, Rep X h v d) :
    Pre hz (genv f pm cd doc L) (fun _ => False) (stoL l) s :=
  ⟨hb, fun _ h => h.elim, fun x d e => let ⟨h1, v, h2, h3⟩ := h x d e; ⟨v, .inl ⟨h1, m, hn, h2⟩, h3 _ _⟩⟩

theorem over_handled {c c' : Code} {k : Result → Sem Fin} {g : Bool} {l : List Value} {p : Pos} {kp : List Value} {fs : List Frame} (h : (A.over c fs).handled = none) : (A.over c' (.ret k none g l c p kp :: fs)).handled = none := h

/-- the loop without end -/
theorem seg_endless {fs : List Frame} (hfs : splitAtGen fs = none) (hfg : fs.any Frame.guarded = false) (hinf : inf row = true) :
    ∀ (n k : Nat) (s₀ s : Shared) (m : Str → Option Value) (t : Tok), N = n + 1 + k → hds row ≤ k → KG L It s₀ s → s.heap.Ns L m → Live s.heap It → m "last_interval" = some (.int (row.getD (hds row - 1) 0) t) →
      Seg (model prog w) A (fun n s₀ r s₁ => r = .ok (.ret .none) ∧ genR L It row N n s₀ s₁) (genY hz L It ra row N) (n + 1) s₀ (.whileLoop (whT gWhile) (whB gWhile) [] (genv f pm cd doc L))
        ((model prog w).den (.whileLoop (whT gWhile) (whB gWhile) [] (genv f pm cd doc L))) fs s := by
  intro n
  induction n with
  | zero =>
    intro k s₀ s m t hN hk K hn hl hm
    refine seg_whileLoop (wpAny_isTrue_value (wpAny_Constant_bool (wpAny_truthy_bool ?_)))
    rw [if_pos rfl]
    refine seg_execs_cons (seg_Expr_Yield hfs rfl hfg (wpAny_Name (wpAny_loadName_local rfl rfl hn hm fun kap hkap => ?_) (by decide)))
    refine ⟨⟨k, t, hN, ?_, .inl hinf⟩, K, ?_, hl, fun h => absurd h (by omega)⟩
    · simp only [yv, if_neg (Nat.not_lt.mpr hk)]
    · obtain ⟨o, _, _, e, _⟩ := hn; exact ⟨o, e⟩
  | succ n ih =>
    intro k s₀ s m t hN hk K hn hl hm
    refine seg_whileLoop (wpAny_isTrue_value (wpAny_Constant_bool (wpAny_truthy_bool ?_)))
    rw [if_pos rfl]
    refine seg_execs_cons (seg_Expr_Yield hfs rfl hfg (wpAny_Name (wpAny_loadName_local rfl rfl hn hm fun kap hkap => ?_) (by decide)))
    refine ⟨⟨k, t, hN, ?_, .inl hinf⟩, K, ?_, hl, fun _ s'' hag hb => hkap .none s'' ?_⟩
    · simp only [yv, if_neg (Nat.not_lt.mpr hk)]
    · obtain ⟨o, _, _, e, _⟩ := hn; exact ⟨o, e⟩
    · refine seg_execs_nil (seg_again rfl (ih (k + 1) s'' s'' m t (by omega) (by omega) (.refl _) (hn.at' fun o e => hag L (.inl rfl) o e) ?_ hm))
      obtain ⟨o, e⟩ := hl
      exact ⟨o, hag It (.inr (.inl rfl)) o e⟩

theorem stops_cases {x : Int} (h : stops x = true) : x = 127 ∨ x = 0 := by
  simp [stops] at h; omega
theorem stops_not {x : Int} (h : stops x = false) : x ≠ 127 ∧ x ≠ 0 := by
  simp [stops] at h; omega
theorem inf_at {row : List Int} (h : hds row < row.length) : inf row = decide (row.getD (hds row) 0 = 0) := by
  unfold inf
  have e : (row.drop (hds row)).take 1 = [row.getD (hds row) 0] := by
    rw [List.drop_eq_getElem_cons h, List.take_succ_cons, List.take_zero, List.getD_eq_getElem?_getD, List.getElem?_eq_getElem h]; rfl
  rw [e]; simp
theorem inf_end {row : List Int} (h : hds row = row.length) : inf row = false := by
  unfold inf
  rw [h, List.drop_length]; simp

variable {tc : Tok}
/-- the loop over the sizes, from the i-th on -/
def Turns (prog : Program) (w : World) (hz : Heap) (A : Around) (f L It ra : Addr) (pm cd doc : Value) (row : List Int) (vs : List Value) (N : Nat) (fs : List Frame) (n : Nat) : Prop :=
  ∀ (i : Nat) (s₀ s : Shared) (m : Str → Option Value), N = n + 1 + i → i ≤ hds row → KG L It s₀ s → HK hz s.heap → s.heap.Ns L m → s.heap.IsListIter It ra i → s.heap.IsList ra vs.toArray →
      (i = 0 → m "last_interval" = some .none) → (0 < i → ∃ t, m "last_interval" = some (.int (row.getD (i - 1) 0) t)) →
      Seg (model prog w) A (fun n s₀ r s₁ => r = .ok (.ret .none) ∧ genR L It row N n s₀ s₁) (genY hz L It ra row N) (n + 1) s₀ (.forLoop (forT gFor) (.ref It) (forB gFor) [] (genv f pm cd doc L))
        ((model prog w).den (.forLoop (forT gFor) (.ref It) (forB gFor) [] (genv f pm cd doc L))) fs s

theorem seg_turns {fs : List Frame} (hfs : splitAtGen fs = none) (hfg : fs.any Frame.guarded = false) (G : Gl hz mg mb) (hcm : mg "CHAR_MAX" = some (.int 127 tc)) (hi : IntsAre vs row)
    (hov : (A.over (.forLoop (forT gFor) (.ref It) (forB gFor) [] (genv f pm cd doc L)) fs).handled = none)
    (hLI : L ≠ It) (hraL : ra ≠ L) (hraI : ra ≠ It) (hzL : hz.get? L = none) (hzI : hz.get? It = none) (hnr : hds row = 0 → inf row = false)
    (hfin : ∀ (n : Nat) (s₀ s : Shared) (c : Code) (fl : Flow), (fl = .next ∨ fl = .ret .none) → KG L It s₀ s → N = n + hds row → inf row = false →
      Seg (model prog w) A (fun n s₀ r s₁ => r = .ok (.ret .none) ∧ genR L It row N n s₀ s₁) (genY hz L It ra row N) n s₀ c (.pure (.done fl)) fs s) (n : Nat) :
    Turns prog w hz A f L It ra pm cd doc row vs N fs n := by
  have step : ∀ n, (∀ j, n = j + 1 → Turns prog w hz A f L It ra pm cd doc row vs N fs j) → Turns prog w hz A f L It ra pm cd doc row vs N fs n := by
    intro n ih i s₀ s m hN hile K hb hn hit hl hm0 hm1
    have hlen : vs.length = row.length := hi.length
    have hle := hds_le row
    by_cases hlt : i < row.length
    · obtain ⟨v, hv, rv⟩ := (IntsAre.reps (X := fun _ => False) (h := s.heap) hi).get i (ils_get hlt)
      cases rv with
      | int _ ti =>
      refine seg_forLoop (wpAny_pyNext_list_item (x := .int (row.getD i 0) ti) hit hl (by simpa using hv) fun h' hit' hs' => ?_)
      have hn' : h'.Ns L m := hn.sameBut hs' hLI
      refine wpAny_assign_Name (wpAny_storeName_local rfl hn' (fun h₂ hn₂ hs₂ => ?_) rfl)
      have hk2 : ∀ b o, b ≠ L → b ≠ It → s.heap.get? b = some o → h₂.get? b = some o := fun b o h1 h2 e => (hs₂.2 b h1).trans ((hs'.2 b h2).trans e)
      have hb2 : HK hz h₂ := fun b o e => hk2 b o (fun h => by rw [h, hzL] at e; cases e) (fun h => by rw [h, hzI] at e; cases e) (hb b o e)
      have K2 : KG L It s₀ { s with heap := h₂, toks := s.toks + 1 } := K.h hk2
      have hit2 : h₂.IsListIter It ra (i + 1) := hit'.extBut hs₂.extBut (fun h => hLI h.symm)
      have hl2 : h₂.IsList ra vs.toArray := (hl.extBut hs'.extBut hraI).extBut hs₂.extBut hraL
      have P2 : Pre hz (genv f pm cd doc L) (fun _ => False) (stoL [("interval", .int (row.getD i 0))]) { s with heap := h₂, toks := s.toks + 1 } := by
        refine pre_gen hb2 hn₂ fun x d e => ?_
        simp only [stoL, List.lookup_cons, List.lookup_nil] at e
        split at e
        · rename_i hx
          rw [beq_iff_eq.mp hx]
          cases e
          exact ⟨rfl, _, if_pos rfl, fun _ _ => .int _ _⟩
        · cases e
      -- the first test
      refine seg_execs_cons (seg_If (EB.use (b := row.getD i 0 == 127) (eb_cmp (ev_name rfl) (ev_glob (d := .int 127) G hcm fun _ _ => .int _ _) op_eq) P2 fun s₃ k₃ P3 => ?_))
      by_cases hih : i < hds row
      · obtain ⟨n127, n0⟩ := stops_not (hds_lt hih)
        rw [show (row.getD i 0 == 127) = false from by simpa using n127]
        refine seg_execs_nil (seg_execs_cons (seg_If (EB.use (b := row.getD i 0 == 0) (eb_cmp (ev_name rfl) ev_int op_eq) P3 fun s₄ k₄ P4 => ?_)))
        rw [show (row.getD i 0 == 0) = false from by simpa using n0]
        have K4 := (K2.kp k₃).kp k₄
        have hn4 := (hn₂.keeps k₃.heap).keeps k₄.heap
        have hit4 : s₄.heap.IsListIter It ra (i + 1) := hit2.at fun o e => k₄.heap _ _ (k₃.heap _ _ e)
        have hl4 : s₄.heap.IsList ra vs.toArray := hl2.at fun o e => k₄.heap _ _ (k₃.heap _ _ e)
        refine seg_execs_nil (seg_execs_cons (seg_Expr_Yield hfs rfl hfg (wpAny_Name (wpAny_loadName_local rfl rfl hn4 (if_pos rfl) fun kap hkap => ?_) (by decide))))
        refine ⟨⟨i, ti, hN, ?_, .inr hih⟩, K4, ?_, ?_, fun hpos s'' hag hb'' => hkap .none s'' ?_⟩
        · simp only [yv, if_pos hih]
        · obtain ⟨o, _, _, e, _⟩ := hn4; exact ⟨o, e⟩
        · obtain ⟨o, e, _⟩ := hit4; exact ⟨o, e⟩
        · obtain ⟨j, rfl⟩ : ∃ j, n = j + 1 := ⟨n - 1, by omega⟩
          have hn5 : s''.heap.Ns L _ := hn4.at' fun o e => hag L (.inl rfl) o e
          have hit5 : s''.heap.IsListIter It ra (i + 1) := hit4.at fun o e => hag It (.inr (.inl rfl)) o e
          have hl5 : s''.heap.IsList ra vs.toArray := hl4.at fun o e => hag ra (.inr (.inr rfl)) o e
          refine seg_execs_cons (seg_plain (wpAny_Assign_Name (wpAny_Name (wpAny_loadName_local rfl rfl hn5 (if_pos rfl) (wpAny_storeName_local rfl hn5 (fun h₆ hn₆ hs₆ => ?_) rfl)) (by decide)) rfl))
          refine seg_execs_nil (seg_again rfl (ih j rfl (i + 1) s'' _ _ (by omega) hih ((KG.refl s'').h (tk := s''.toks + 1) fun b o h1 _ e => (hs₆.2 b h1).trans e) ?_ hn₆ (hit5.extBut hs₆.extBut (fun h => hLI h.symm)) (hl5.extBut hs₆.extBut hraL) (fun h => by omega) fun _ => ⟨ti, if_pos rfl⟩))
          exact fun b o e => (hs₆.2 b (fun h : b = L => by rw [h, hzL] at e; cases e)).trans (hb'' b o e)
      · have hie : i = hds row := by omega
        subst hie
        have K3 := K2.kp k₃
        rcases stops_cases (hds_at hlt) with h | h
        · rw [show (row.getD (hds row) 0 == 127) = true from by simp only [h]; rfl]
          refine seg_execs_cons (seg_Return_none ?_)
          exact hfin (n + 1) s₀ _ _ (.ret .none) (.inr rfl) K3 hN (by rw [inf_at hlt, h]; rfl)
        · have hinf : inf row = true := by rw [inf_at hlt, h]; rfl
          rw [show (row.getD (hds row) 0 == 127) = false from by simp only [h]; rfl]
          refine seg_execs_nil (seg_execs_cons (seg_If (EB.use (b := row.getD (hds row) 0 == 0) (eb_cmp (ev_name rfl) ev_int op_eq) P3 fun s₄ k₄ P4 => ?_)))
          rw [show (row.getD (hds row) 0 == 0) = true from by simp only [h]; rfl]
          have hpos : 0 < hds row := by
            rcases Nat.eq_zero_or_pos (hds row) with h0 | h0
            · rw [hnr h0] at hinf; cases hinf
            · exact h0
          obtain ⟨tl, htl⟩ := hm1 hpos
          have K4 := K3.kp k₄
          have hn4 := (hn₂.keeps k₃.heap).keeps k₄.heap
          have hit4 : s₄.heap.IsListIter It ra (hds row + 1) := hit2.at fun o e => k₄.heap _ _ (k₃.heap _ _ e)
          have P5 : Pre hz (genv f pm cd doc L) (fun _ => False) (stoL [("last_interval", .int (row.getD (hds row - 1) 0))]) s₄ := by
            refine pre_gen P4.base hn4 fun x d e => ?_
            simp only [stoL, List.lookup_cons, List.lookup_nil] at e
            split at e
            · rename_i hx
              rw [beq_iff_eq.mp hx]
              cases e
              exact ⟨rfl, _, htl, fun _ _ => .int _ _⟩
            · cases e
          refine seg_execs_cons (seg_If (EB.use (b := false) (eb_cmp (ev_name rfl) ev_none op_is_none) P5 fun s₅ k₅ P6 => ?_))
          refine seg_execs_nil (seg_execs_cons (seg_While fun p => ?_))
          refine seg_endless ?_ ?_ hinf n (hds row) s₀ s₅ _ tl hN (Nat.le_refl _) (K4.kp k₅) (hn4.keeps k₅.heap) ?_ htl
          · show (splitAtGen fs).map _ = none
            rw [hfs]; rfl
          · show (false || fs.any Frame.guarded) = false
            rw [hfg]; rfl
          · obtain ⟨o, e, _⟩ := hit4; exact ⟨o, k₅.heap _ _ e⟩
    · have hie : i = hds row := by omega
      have hend : hds row = row.length := by omega
      subst hie
      refine seg_forLoop (wpAny_pyNext_list_end hov hit hl (by simp; omega) fun h' he' => ?_)
      refine seg_block_nil (hfin (n + 1) s₀ _ _ .next (.inl rfl) (K.h (tk := s.toks) fun b o _ h2 e => he' b o h2 e) hN (inf_end hend))
  induction n with
  | zero => exact step 0 fun j h => by omega
  | succ n ih => exact step (n + 1) fun j h => by cases h; exact ih
end
end Mine
end

section
open PySem PySem.W PyProof.Rows PySem.Calls
namespace Mine
section
variable {prog : Program} {w : World} {hz : Heap} {mg mb : Str → Option Value} {A : Around} {f L It ra : Addr} {pm cd doc : Value} {row : List Int} {vs : List Value} {N : Nat} {tc : Tok}

/-- the generator from its begin -/
theorem seg_start {s : Shared} {m : Str → Option Value} {n : Nat} (G : Gl hz mg mb) (hcm : mg "CHAR_MAX" = some (.int 127 tc)) (hi : IntsAre vs row) (hA : A.handled = none)
    (hraL : ra ≠ L) (hzL : hz.get? L = none) (hnr : hds row = 0 → inf row = false) (hb : HK hz s.heap) (hn : s.heap.Ns L m) (hm : m "grouping" = some (.ref ra)) (hl : s.heap.IsList ra vs.toArray) (hIt : It = s.heap.objs.size) (hN : N = n + 1) :
    Seg (model prog w) A (fun n s₀ r s₁ => r = .ok (.ret .none) ∧ genR L It row N n s₀ s₁) (genY hz L It ra row N) (n + 1) s (.func (bodyOf qp 2) (genv f pm cd doc L)) ((model prog w).den (.func (bodyOf qp 2) (genv f pm cd doc L))) [] s := by
  have nf : s.heap.get? It = none := by rw [hIt]; exact fresh_size _
  have hLI : L ≠ It := fun h => by obtain ⟨o, _, _, e, _⟩ := hn; rw [h, nf] at e; cases e
  have hraI : ra ≠ It := fun h => by obtain ⟨o, e, _⟩ := hl; rw [h, nf] at e; cases e
  have hzI : hz.get? It = none := by
    cases e : hz.get? It with
    | none => rfl
    | some o => have := hb _ _ e; rw [nf] at this; cases this
  refine seg_func (seg_execs_cons (seg_plain (wpAny_Assign_Name (wpAny_Constant_none (wpAny_storeName_local rfl hn (fun h₁ hn₁ hs₁ => ?_) rfl)) rfl)))
  have hb1 : HK hz h₁ := fun b o e => (hs₁.2 b (fun h : b = L => by rw [h, hzL] at e; cases e)).trans (hb b o e)
  have hl1 : h₁.IsList ra vs.toArray := hl.extBut hs₁.extBut hraL
  refine seg_execs_cons (seg_For (wpAny_Name (wpAny_loadName_local rfl rfl hn₁ (by rw [if_neg (by decide)]; exact hm) (wpAny_pyIter_list hl1 fun p => ?_)) (by decide)))
  have hsz : h₁.objs.size = It := by rw [hIt]; exact hs₁.1
  dsimp only
  rw [hsz]
  refine seg_turns rfl rfl G hcm hi ?_ hLI hraL hraI hzL hzI hnr ?_ n 0 s _ _ (by omega) (Nat.zero_le _) ⟨fun b o h1 _ e => Heap.get?_push_of_some _ ((hs₁.2 b h1).trans e), fun _ _ e => e, id, rfl⟩ (hb1.trans (.push _ _)) (hn₁.push _)
    (by rw [← hsz]; exact ⟨_, Heap.get?_push_size _ rfl, rfl, rfl⟩) (hl1.push _) (fun _ => if_pos rfl) (fun h => absurd h (by omega))
  · exact hA
  intro n s₀ s c fl hfl K hN hinf
  refine seg_leaf (.ok fl) ?_
  rcases hfl with rfl | rfl
  · exact seg_end (.ok (.ret .none)) ⟨rfl, K, hN, hinf⟩
  · exact seg_end (.ok (.ret .none)) ⟨rfl, K, hN, hinf⟩

variable {env : Env} {Y : Addr → Prop} {sb s s' : Shared} {pr : List (Addr × Obj)} {pg : List (Nat × GenState)} {σ : Sto} {own : Own} {E : Value → Shared → Prop} {Q : Flow → Shared → Prop}
/-- others, a generator of the block's own among them, have changed what is theirs -/
theorem FSW.movedG {W : Addr → Prop} {q q' : List (Addr × Obj)} {pg' : List (Nat × GenState)} {wr : List Addr} {g : Nat} (F : FSW hz env Y sb (q ++ pr) pg W σ own s) (hk : ∀ b o, b ∉ wr → s.heap.get? b = some o → s'.heap.get? b = some o)
    (hwr : ∀ b ∈ wr, Y b) (hnew : ∀ b ∈ wr, hz.get? b = none ∧ sb.heap.get? b = none) (hl : ∀ b ∈ wr, Live s'.heap b) (hpr : ∀ p ∈ pr, p.1 ∉ wr) (hq : ∀ p ∈ q', s'.heap.get? p.1 = some p.2 ∧ ∃ p' ∈ q, p'.1 = p.1)
    (hg : ∀ (i : Nat) (x : GenState), i ≠ g → s.gens[i]? = some x → s'.gens[i]? = some x) (hgb : sb.gens[g]? = none) (hbare : AllBare s.gens → AllBare s'.gens) (hos : s'.os = s.os) (hpg : ∀ p ∈ pg', s'.gens[p.1]? = some p.2) :
    FSW hz env Y sb (q' ++ pr) pg' W σ own s' := by
  have F1 : FSW hz env Y sb (q' ++ pr) pg W σ own { s with heap := s'.heap, toks := s'.toks } := F.moved hk hwr hnew hl hpr hq
  exact { base := F1.base, ylive := F1.ylive, wnew := F1.wnew, wl := F1.wl, wc := F1.wc, apart := F1.apart, ns := F1.ns, cells := F1.cells, vars := F1.vars, own := F1.own, prot := F1.prot, protg := hpg,
          kp := ⟨F1.kp.heap, fun i x e => hg i x (fun h => by rw [h, hgb] at e; cases e) (F1.kp.gens i x e), fun e => hbare (F1.kp.bare e), hos.trans F1.kp.os⟩ }
theorem setGen_other {s : Shared} {g i : Nat} {x y : GenState} (h : i ≠ g) (e : s.gens[i]? = some x) : (s.setGen g y).gens[i]? = some x := by
  simp only [Shared.setGen, Array.getElem?_setIfInBounds]
  rw [if_neg (fun h' => h h'.symm)]; exact e
theorem setGen_self {s : Shared} {g : Nat} {x y : GenState} (e : s.gens[g]? = some x) : (s.setGen g y).gens[g]? = some y := by
  simp only [Shared.setGen, Array.getElem?_setIfInBounds, if_true]
  have : g < s.gens.size := by
    rcases Nat.lt_or_ge g s.gens.size with h | h
    · exact h
    · rw [Array.getElem?_eq_none h] at e; cases e
  simp [this]
theorem setGen_bare {s : Shared} {g : Nat} {y : GenState} (h : AllBare s.gens) (hy : y.bare = true) : AllBare (s.setGen g y).gens := by
  intro z hz
  simp only [Shared.setGen] at hz
  rcases Array.mem_or_eq_of_mem_setIfInBounds hz with h' | h'
  · exact h z h'
  · rw [h']; exact hy
end
end Mine
end

section
open PySem PySem.W PyProof.Rows PySem.Calls
namespace Mine
section
variable {prog : Program} {w : World} {hz : Heap} {mg mb : Str → Option Value} {A : Around} {f : Addr} {pm cd doc : Value} {row : List Int} {tc : Tok}
variable {env : Env} {Y : Addr → Prop} {sb s s' : Shared} {pr : List (Addr × Obj)} {pg : List (Nat × GenState)} {σ : Sto} {own : Own} {E : Value → Shared → Prop} {Q : Flow → Shared → Prop}

/-- a generator has been made, and nothing else -/
structure Made (hz : Heap) (f : Addr) (pm cd doc : Value) (X : Addr → Prop) (row : List Int) (s s₂ : Shared) (L ga ra : Addr) (g : Nat) (vs : List Value) (m : Str → Option Value) : Prop where
  kp : Kp s s₂
  isGen : s₂.heap.IsGen ga g
  gen : s₂.gens[g]? = some (.fresh (.func (bodyOf qp 2) (genv f pm cd doc L)))
  ns : s₂.heap.Ns L m
  arg : m "grouping" = some (.ref ra)
  list : s₂.heap.IsList ra vs.toArray
  areInts : IntsAre vs row
  clean : ¬ X ra
  newL : s.heap.get? L = none
  newA : s.heap.get? ga = none
  newG : s.gens[g]? = none
  apart : L ≠ ga
  raL : ra ≠ L

theorem gen_call {x : Str} {np pos : Pos} {e : Expr} {o : Obj} {X : Addr → Prop} {Qv : Value → Shared → Prop} (G : Gl hz mg mb) (hv : mg x = some (.ref f)) (ho : hz.get? f = some o) (hdat : o.data = .func (fdOf qp 2 pm cd doc)) (hcd : hz.CodeRec cd (nameOf qp 2))
    (he : EV prog w hz A env σ e (.list (ils row))) (p : Pre hz env X σ s) (hroom : A.depth < recursionLimit)
    (q : ∀ s₂ L ga ra g vs m, Made hz f pm cd doc X row s s₂ L ga ra g vs m → Qv (.ref ga) s₂)
    (hk : env.scope.kind = .function := by rfl) (hx : env.kindOf x = some .globalImplicit := by rfl) (hg : env.globals = mainGlobals := by rfl) (hd : (x == ("__debug__" : Str)) = false := by decide)
    (hse : starEach [e] env = (false, eval e env) :: starEach [] env := by rfl) :
    wpAny (model prog w) A (eval (.Call (.Name x np) [e] [] pos) env) Qv E s := by
  refine Call_ (glob_name G p hv (callWith_def hdat ((evs_cons he evs_nil hse).use p fun vs s₁ rs k p₁ => ⟨p₁.base _ _ ho, ?_⟩) hse) hk hx hg hd)
  cases rs with
  | cons r rs =>
    cases rs
    obtain ⟨ra, us, rfl, hl, hX, rs⟩ := r.isList
    refine wpAny_call (codeAny_call_generator hroom (p₁.base _ _ ho) hdat rfl rfl rfl (hcd.keeps p₁.base) ?_)
    have hbind : bindArgs (fdOf qp 2 pm cd doc) ⟨[.ref ra], []⟩ = pure [(("grouping" : Str), Value.ref ra)] := rfl
    rw [hbind]
    refine wpAny_pure (wpAny_newFunctionEnv_cells rfl (fun y hy => ?_) fun env' he' s₂ x => ?_)
    · have : y = (("grouping" : Str), Value.ref ra) := by simpa using hy
      subst this; exact .inl rfl
    · subst he'
      obtain ⟨⟨⟨h₁, tk, rfl⟩, hns, hkeep, hfresh⟩, _, _, _⟩ := x
      have hkeep : HK s₁.heap h₁ := hkeep
      have hL : ∀ b, Live s₁.heap b → b ≠ s₁.heap.objs.size := fun b ⟨o, e⟩ h => absurd (Heap.lt_size e) (by rw [h]; exact Nat.lt_irrefl _)
      have none_of : ∀ b, (∀ c, Live s₁.heap c → c ≠ b) → s.heap.get? b = none := fun b h => by
        cases e : s.heap.get? b with
        | none => rfl
        | some o => exact absurd rfl (h b ⟨o, k.heap _ _ e⟩)
      have hns' : h₁.Ns s₁.heap.objs.size _ := hns
      refine ⟨(G.nolimit.keeps p₁.base).keeps hkeep, q _ s₁.heap.objs.size _ ra s₁.gens.size us.toList _ ⟨?_, ⟨_, _, _, Heap.get?_push_size _ rfl, rfl, rfl, rfl⟩, Array.getElem?_push_size .., hns'.push _, ?_, ?_, rs.intsAre, hX, none_of _ fun c hc => hL c hc, none_of _ fun c hc => ?_, ?_, ?_, ?_⟩⟩
      · refine k.trans ⟨hkeep.trans (.push _ _), fun i x e => ?_, fun hb => hb.push rfl, rfl⟩
        have : i < s₁.gens.size := by
          rcases Nat.lt_or_ge i s₁.gens.size with h | h
          · exact h
          · rw [Array.getElem?_eq_none h] at e; cases e
        simp only [Array.getElem?_push]
        rw [if_neg (Nat.ne_of_lt this)]; exact e
      · rfl
      · simpa using (show h₁.IsList ra us from let ⟨o, e, r⟩ := hl; ⟨o, hkeep _ _ e, r⟩).push _
      · intro h
        obtain ⟨o, e⟩ := hc
        exact absurd (Heap.lt_size (hkeep _ _ e)) (by rw [h]; exact Nat.lt_irrefl _)
      · cases e : s.gens[s₁.gens.size]? with
        | none => rfl
        | some x => have := k.gens _ _ e; rw [Array.getElem?_eq_none (Nat.le_refl _)] at this; cases this
      · exact Nat.ne_of_lt hns'.lt
      · obtain ⟨o, e, _⟩ := hl
        exact hL ra ⟨o, e⟩

theorem FSW.regen {W : Addr → Prop} {pg' : List (Nat × GenState)} {g : Nat} (F : FSW hz env Y sb pr pg W σ own s) (hh : s'.heap = s.heap) (hg : ∀ (i : Nat) (x : GenState), i ≠ g → s.gens[i]? = some x → s'.gens[i]? = some x) (hgb : sb.gens[g]? = none)
    (hbare : AllBare s.gens → AllBare s'.gens) (hos : s'.os = s.os) (hpg : ∀ p ∈ pg', s'.gens[p.1]? = some p.2) : FSW hz env Y sb pr pg' W σ own s' where
  base := hh ▸ F.base
  ylive := hh ▸ F.ylive
  wnew := hh ▸ F.wnew
  wl := F.wl
  wc := F.wc
  apart := F.apart
  ns := hh ▸ F.ns
  cells := hh ▸ F.cells
  vars := hh ▸ F.vars
  own := hh ▸ F.own
  prot := hh ▸ F.prot
  protg := hpg
  kp := ⟨hh ▸ F.kp.heap, fun i x e => hg i x (fun h => by rw [h, hgb] at e; cases e) (F.kp.gens i x e), fun e => hbare (F.kp.bare e), hos.trans F.kp.os⟩
/-- for x in _grouping_intervals(row): the row begins with no nought -/
theorem ex_forgen {fn x : Str} {np cpos px pos : Pos} {e : Expr} {body rest : List Stmt} {o : Obj} (N : Nat) (F : FS hz env Y sb pr [] σ own s) (G : Gl hz mg mb) (hv : mg fn = some (.ref f)) (ho : hz.get? f = some o)
    (hdat : o.data = .func (fdOf qp 2 pm cd doc)) (hcd : hz.CodeRec cd (nameOf qp 2)) (hcm : mg "CHAR_MAX" = some (.int 127 tc)) (he : EV prog w hz A env σ e (.list (ils row))) (hA : Ok A 1) (hnr : hds row = 0 → inf row = false)
    (J : Nat → Sto → Own → Prop) (JB : Sto → Own → Prop) (h0 : J 0 σ own) (hN : 0 < N)
    (turn : ∀ i σ own Y' pr' pg' s E', (inf row = true ∨ i < hds row) → J i σ own → (∀ a, Y a → Y' a) → FS hz env Y' sb pr' pg' (σ.set x (.int (yv row i))) own s → wpAny (model prog w) A (execs body env) (fun f s₃ => match f with
        | .next | .cont => i + 1 < N ∧ ∃ σ' own', J (i + 1) σ' own' ∧ FS hz env Y' sb pr' pg' σ' own' s₃
        | .brk => ∃ σ' own', JB σ' own' ∧ FS hz env Y' sb pr' pg' σ' own' s₃
        | .ret v => Q (.ret v) s₃) E' s)
    (done : ∀ σ own s, J (hds row) σ own → inf row = false → FS hz env Y sb pr [] σ own s → wpAny (model prog w) A (execs rest env) Q E s)
    (broke : ∀ σ own s, JB σ own → FS hz env Y sb pr [] σ own s → wpAny (model prog w) A (execs rest env) Q E s)
    (hown : ∀ i σ y es, J i σ (some (y, es)) → y ≠ x) (hs : Stores env x)
    (hx : env.kindOf fn = some .globalImplicit := by rfl) (hg : env.globals = mainGlobals := by rfl) (hd : (fn == ("__debug__" : Str)) = false := by decide)
    (hse : starEach [e] env = (false, eval e env) :: starEach [] env := by rfl) (hfs : ∀ v, foldedSetIterable (.Call (.Name fn np) [e] [] cpos) env v = pure v := by intro _; rfl) :
    wpAny (model prog w) A (execs (.For (.Name x px) (.Call (.Name fn np) [e] [] cpos) body [] pos :: rest) env) Q E s := by
  obtain ⟨W, F⟩ := F
  have hroom : A.depth < recursionLimit := by have := hA.depth; omega
  refine wpAny_execs_cons (wpAny_For (gen_call G hv ho hdat hcd he F.pre hroom (fun s₂ L ga ra g vs m M => wpAny_pyIter_gen M.isGen ?_) hs.fn hx hg hd hse) hfs)
  -- the places that are the generator's own
  have nw : ∀ b, s.heap.get? b = none → hz.get? b = none ∧ sb.heap.get? b = none ∧ ¬ Y b ∧ ¬ W b := fun b hb => by
    refine ⟨?_, ?_, fun h => ?_, fun h => ?_⟩
    · cases hq : hz.get? b with
      | none => rfl
      | some o => rw [F.base b o hq] at hb; cases hb
    · cases hq : sb.heap.get? b with
      | none => rfl
      | some o =>
        by_cases hw : W b
        · obtain ⟨o', e⟩ := (F.wnew b hw).2.2.1; rw [hb] at e; cases e
        · rw [F.kp.heap b o hw hq] at hb; cases hb
    · obtain ⟨o', e⟩ := F.ylive b h; rw [hb] at e; cases e
    · obtain ⟨o', e⟩ := (F.wnew b h).2.2.1; rw [hb] at e; cases e
  obtain ⟨hzL, sbL, YL, WL⟩ := nw L M.newL
  generalize hIt : s₂.heap.objs.size = It
  have nf2 : s₂.heap.get? It = none := by rw [← hIt]; exact fresh_size _
  have nfI : s.heap.get? It = none := by
    cases hq : s.heap.get? It with
    | none => rfl
    | some o => have := M.kp.heap _ _ hq; rw [nf2] at this; cases this
  obtain ⟨hzI, sbI, YI, WI⟩ := nw It nfI
  have sbg : sb.gens[g]? = none := by
    cases hq : sb.gens[g]? with
    | none => rfl
    | some x => have := F.kp.gens _ _ hq; rw [M.newG] at this; cases this
  have hraW : ¬ (Y ra ∨ W ra) := M.clean
  obtain ⟨gao, _, _, hga, _⟩ := id M.isGen
  obtain ⟨rao, hrao, _⟩ := id M.list
  let R : GenEnd := fun n s₀ r s₁ => r = .ok (.ret .none) ∧ genR L It row N n s₀ s₁
  let wr : List Addr := [L, It]
  have hgaI : ga ≠ It := fun h => by rw [h, nf2] at hga; cases hga
  have hraI : ra ≠ It := fun h => by rw [h, nf2] at hrao; cases hrao
  have hnew : ∀ b ∈ wr, hz.get? b = none ∧ sb.heap.get? b = none := fun b hb => by
    rcases List.mem_cons.mp hb with rfl | hb
    · exact ⟨hzL, sbL⟩
    · rw [List.mem_singleton.mp hb]; exact ⟨hzI, sbI⟩
  have hnewY : ∀ b ∈ wr, ¬ Y b := fun b hb => by
    rcases List.mem_cons.mp hb with rfl | hb
    · exact YL
    · rw [List.mem_singleton.mp hb]; exact YI
  -- what stands unchanged meanwhile: the generator's object, the row
  let l : List (Addr × Obj) := [(ga, gao), (ra, rao)]
  have hprw : ∀ p ∈ l ++ pr, p.1 ∉ wr := fun p hp hw => by
    have live2 : Live s₂.heap p.1 := by
      rcases List.mem_append.mp hp with hp | hp
      · rcases List.mem_cons.mp hp with rfl | hp
        · exact ⟨_, hga⟩
        · rw [List.mem_singleton.mp hp]; exact ⟨_, hrao⟩
      · exact ⟨_, M.kp.heap _ _ (F.prot p hp).1⟩
    rcases List.mem_cons.mp hw with h | h
    · rcases List.mem_append.mp hp with hp | hp
      · rcases List.mem_cons.mp hp with rfl | hp
        · exact M.apart h.symm
        · rw [List.mem_singleton.mp hp] at h; exact M.raL h
      · have := (F.prot p hp).1; rw [h, M.newL] at this; cases this
    · obtain ⟨o, e⟩ := live2
      rw [List.mem_singleton.mp h, nf2] at e; cases e
  have back : ∀ {q : List (Addr × Obj)} {pq : List (Nat × GenState)} {σ' own' s'}, FS hz env (fun b => Y b ∨ b ∈ wr) sb (q ++ (l ++ pr)) pq σ' own' s' → FS hz env Y sb pr [] σ' own' s' := fun {q pq σ' own' s'} G => by
    obtain ⟨W', G⟩ := (G.lessY (Y := Y) fun a h => .inl h).lessPr (pr := pr) fun p hp => List.mem_append_right _ (List.mem_append_right _ hp)
    exact ⟨W', { G with protg := fun p hp => by cases hp }⟩
  let Inv : Nat → Shared → Prop := fun n' s' => (n' = N ∧ s' = s₂) ∨ ∃ i k σ own gs, 0 < i ∧ N = i + (k + 1) ∧ n' = N - i ∧ J i σ own ∧ FS hz env (fun b => Y b ∨ b ∈ wr) sb (protOf s'.heap wr ++ (l ++ pr)) [(g, gs)] σ own s' ∧ (∀ b ∈ wr, Live s'.heap b) ∧
    (∀ s'', (∀ b, (b = L ∨ b = It ∨ b = ra) → ∀ o, s'.heap.get? b = some o → s''.heap.get? b = some o) → HK hz s''.heap → gs.Goes (model prog w) A.in1 R (genY hz L It ra row N) (k + 1) (.send .none) s'')
  -- a turn, once the item is there
  have cont : ∀ (n' i k : Nat) (σ : Sto) (own : Own) (gs' : GenState) (t : Tok) (W' : Addr → Prop) (sx : Shared), N = i + (k + 1) → n' = N - i → J i σ own → (inf row = true ∨ i < hds row) → FSW hz env (fun b => Y b ∨ b ∈ wr) sb (protOf sx.heap wr ++ (l ++ pr)) [(g, gs')] W' σ own sx →
      (∀ b ∈ wr, Live sx.heap b) → (0 < k → ∀ s'', (∀ b, (b = L ∨ b = It ∨ b = ra) → ∀ o, sx.heap.get? b = some o → s''.heap.get? b = some o) → HK hz s''.heap → gs'.Goes (model prog w) A.in1 R (genY hz L It ra row N) k (.send .none) s'') →
      wpAny (model prog w) A (assign (.Name x px) env (.int (yv row i) t)) (fun _ s₂ => wpAny (model prog w) A (execs body env) (fun f s₃ => match f with
          | .next | .cont => ∃ m, m < n' ∧ Inv m s₃
          | .brk => wpAny (model prog w) A (execs rest env) Q E s₃
          | .ret v => Q (.ret v) s₃) (notedBy (model prog w) A env fun e s' => cameBackBy (model prog w) A env E e s') s₂) (notedBy (model prog w) A env fun e s' => cameBackBy (model prog w) A env E e s') sx := by
    intro n' i k σ own gs' t W' sx hNi hn' hJ hcond FX hlive hgo
    refine wpAny_assign_Name (ex_store FX (.int _ _) hs (fun y es e => ?_) fun s₃ G3 => ?_)
    · subst e; exact hown i σ y es hJ
    refine wpAny_mono (turn i σ own _ _ _ s₃ _ hcond hJ (fun a h => .inl h) G3) (fun fl s₄ h => ?_) fun _ _ e => e
    have nxt : (i + 1 < N ∧ ∃ σ' own', J (i + 1) σ' own' ∧ FS hz env (fun b => Y b ∨ b ∈ wr) sb (protOf sx.heap wr ++ (l ++ pr)) [(g, gs')] σ' own' s₄) → ∃ m, m < n' ∧ Inv m s₄ := by
      rintro ⟨hi1, σ', own', hJ', W4, G4⟩
      obtain ⟨k', rfl⟩ : ∃ k', k = k' + 1 := ⟨k - 1, by omega⟩
      have same : ∀ b ∈ wr, ∀ o, sx.heap.get? b = some o → s₄.heap.get? b = some o := fun b hb o e => (G4.prot (b, o) (List.mem_append_left _ (mem_protOf.mpr ⟨hb, e⟩))).1
      have sameR : ∀ o, sx.heap.get? ra = some o → s₄.heap.get? ra = some o := fun o e => by
        have h1 := (FX.prot (ra, rao) (List.mem_append_right _ (List.mem_append_left _ (by simp [l])))).1
        have h2 := (G4.prot (ra, rao) (List.mem_append_right _ (List.mem_append_left _ (by simp [l])))).1
        rw [h1] at e; cases e; exact h2
      refine ⟨N - (i + 1), by omega, .inr ⟨i + 1, k', σ', own', gs', by omega, by omega, rfl, hJ', ⟨W4, G4.lessPr fun p hp => ?_⟩, fun b hb => ?_, fun s'' hag hb => hgo (by omega) s'' (fun b hbb o e => hag b hbb o ?_) hb⟩⟩
      · rcases List.mem_append.mp hp with hp | hp
        · obtain ⟨h1, h2⟩ := mem_protOf.mp hp
          obtain ⟨o, ho⟩ := hlive p.1 h1
          have := same _ h1 o ho
          rw [h2] at this; cases this
          exact List.mem_append_left _ (mem_protOf.mpr ⟨h1, ho⟩)
        · exact List.mem_append_right _ hp
      · obtain ⟨o, e⟩ := hlive b hb; exact ⟨o, same b hb o e⟩
      · rcases hbb with rfl | rfl | rfl
        · exact same _ (by simp [wr]) o e
        · exact same _ (by simp [wr]) o e
        · exact sameR o e
    cases fl with
    | next => exact nxt h
    | cont => exact nxt h
    | brk => obtain ⟨σ', own', hB, G4⟩ := h; exact broke σ' own' s₄ hB (back G4)
    | ret v => exact h
  refine codeAny_forLoop Inv (fun n' s' hI => ?_) N (.inl ⟨rfl, rfl⟩)
  rcases hI with ⟨hn0, hs0⟩ | ⟨i, k, σ, own, gs, hi0, hNi, hn', hJ, ⟨W', FX⟩, hlive, hgo⟩
  · -- the first turn
    subst hs0
    obtain ⟨k0, hk0⟩ : ∃ k0, N = 0 + (k0 + 1) := ⟨N - 1, by omega⟩
    have hb2 : HK hz s'.heap := F.base.trans M.kp.heap
    have hst : GenState.Goes (model prog w) A.in1 R (genY hz L It ra row N) (k0 + 1) (.fresh (.func (bodyOf qp 2) (genv f pm cd doc L))) (.send .none) (s'.setGen g .running) :=
      ⟨rfl, seg_start (s := s'.setGen g .running) G hcm M.areInts hA.handled M.raL hzL hnr hb2 M.ns M.arg M.list hIt.symm (by omega)⟩
    refine next_gen hA.handled (G.nolimit.keeps hb2) hroom M.isGen M.gen hst (fun v s₁ gs' hb hY => ?_) (fun s₁ hP h' hk' => ?_)
    · obtain ⟨⟨k, t, hkN, rfl, hcond⟩, KG1, lL, lI, hgo⟩ := hY
      have hk00 : k = 0 := by omega
      subst hk00
      have KP : Kp s (s₁.setGen g gs') := by
        refine ⟨fun b o e => KG1.heap b o (fun h => by rw [h, M.newL] at e; cases e) (fun h => by rw [h, nfI] at e; cases e) (M.kp.heap _ _ e), fun i x e => ?_, fun e => setGen_bare (KG1.bare (setGen_bare (M.kp.bare e) rfl)) hb, KG1.os.trans M.kp.os⟩
        have hig : i ≠ g := fun h => by rw [h, M.newG] at e; cases e
        exact setGen_other hig (KG1.gens i x (setGen_other hig (M.kp.gens i x e)))
      have hlw : ∀ b ∈ wr, Live s₁.heap b := fun b hb => by
        rcases List.mem_cons.mp hb with rfl | hb
        · exact lL
        · rw [List.mem_singleton.mp hb]; exact lI
      have hfw : ∀ b ∈ wr, s.heap.get? b = none := fun b hb => by
        rcases List.mem_cons.mp hb with rfl | hb
        · exact M.newL
        · rw [List.mem_singleton.mp hb]; exact nfI
      have hgs' : (s₁.setGen g gs').gens[g]? = some gs' := setGen_self (KG1.gens g _ (setGen_self M.gen))
      have FX : FSW hz env (fun b => Y b ∨ b ∈ wr) sb (protOf s₁.heap wr ++ (l ++ pr)) [(g, gs')] W σ own (s₁.setGen g gs') := by
        have F1 := FSW.addPr (q := protOf s₁.heap wr) (FSW.addPr (q := l) (F.moreY KP hfw hlw) fun p hp => ?_) fun p hp => ?_
        · exact { F1 with protg := fun p hp => by rw [List.mem_singleton.mp hp]; exact hgs' }
        · rcases List.mem_cons.mp hp with rfl | hp
          · exact ⟨KG1.heap _ _ (fun h => M.apart h.symm) hgaI hga, (nw ga M.newA).2.2.2⟩
          · rw [List.mem_singleton.mp hp]
            exact ⟨KG1.heap _ _ M.raL hraI hrao, fun h => hraW (.inr h)⟩
        · obtain ⟨h1, h2⟩ := mem_protOf.mp hp
          refine ⟨h2, ?_⟩
          rcases List.mem_cons.mp h1 with h | h
          · rw [h]; exact WL
          · rw [List.mem_singleton.mp h]; exact WI
      exact cont n' 0 k0 σ own gs' t W (s₁.setGen g gs') hk0 (by omega) h0 hcond FX hlw hgo
    · obtain ⟨KG1, hNh, hinf⟩ := hP
      have hh0 : hds row = 0 := by omega
      refine wpAny_execs_nil (done σ own _ (hh0 ▸ h0) hinf ⟨W, { F.kpd (s' := { s₁.setGen g .finished with heap := h' }) ⟨fun b o e => hk' _ _ (KG1.heap b o (fun h => by rw [h, M.newL] at e; cases e) (fun h => by rw [h, nfI] at e; cases e) (M.kp.heap _ _ e)), fun i x e => ?_, fun e => setGen_bare (KG1.bare (setGen_bare (M.kp.bare e) rfl)) rfl, KG1.os.trans M.kp.os⟩ with protg := fun p hp => by cases hp }⟩)
      have hig : i ≠ g := fun h => by rw [h, M.newG] at e; cases e
      exact setGen_other hig (KG1.gens i x (setGen_other hig (M.kp.gens i x e)))
  · have hgen : s'.heap.IsGen ga g := by
      obtain ⟨o, nm, qn, e, r⟩ := M.isGen
      have h1 := (FX.prot (ga, gao) (List.mem_append_right _ (List.mem_append_left _ (by simp [l])))).1
      rw [hga] at e; cases e
      exact ⟨_, nm, qn, h1, r⟩
    have hgsX : s'.gens[g]? = some gs := FX.protg (g, gs) (by simp)
    refine next_gen hA.handled (G.nolimit.keeps FX.base) hroom hgen hgsX (hgo (s'.setGen g .running) (fun b _ o e => e) FX.base) (fun v s₁ gs' hb hY => ?_) (fun s₁ hP h' hk' => ?_)
    · obtain ⟨⟨j, t, hkN, rfl, hcond⟩, KG1, lL, lI, hgo'⟩ := hY
      have hji : j = i := by omega
      subst hji
      have hlw : ∀ b ∈ wr, Live s₁.heap b := fun b hb => by
        rcases List.mem_cons.mp hb with rfl | hb
        · exact lL
        · rw [List.mem_singleton.mp hb]; exact lI
      have hgs' : (s₁.setGen g gs').gens[g]? = some gs' := setGen_self (KG1.gens g _ (setGen_self hgsX))
      have FX' : FSW hz env (fun b => Y b ∨ b ∈ wr) sb (protOf s₁.heap wr ++ (l ++ pr)) [(g, gs')] W' σ own (s₁.setGen g gs') := by
        refine FX.movedG (g := g) (fun b o hbw e => KG1.heap b o (fun h => hbw (by simp [wr, h])) (fun h => hbw (by simp [wr, h])) e) (fun b hb => .inr hb) hnew hlw hprw (fun p hp => ?_) (fun i x hig e => setGen_other hig (KG1.gens i x (setGen_other hig e))) sbg
          (fun e => setGen_bare (KG1.bare (setGen_bare e rfl)) hb) KG1.os fun p hp => by rw [List.mem_singleton.mp hp]; exact hgs'
        obtain ⟨h1, h2⟩ := mem_protOf.mp hp
        obtain ⟨o, ho⟩ := hlive p.1 h1
        exact ⟨h2, (p.1, o), mem_protOf.mpr ⟨h1, ho⟩, rfl⟩
      exact cont n' j k σ own gs' t W' (s₁.setGen g gs') hNi hn' hJ hcond FX' hlw hgo'
    · obtain ⟨KG1, hNh, hinf⟩ := hP
      have hhi : hds row = i := by omega
      have F1 : FSW hz env Y sb pr [(g, gs)] W' σ own { s' with heap := h', toks := s₁.toks } := by
        refine FX.movedOut (fun b o hbw e => hk' _ _ (KG1.heap b o (fun h => hbw (by simp [wr, h])) (fun h => hbw (by simp [wr, h])) e)) (fun b hb => ⟨(hnew b hb).1, (hnew b hb).2, hnewY b hb⟩) fun p hp => ⟨hprw p (List.mem_append_right _ hp), List.mem_append_right _ (List.mem_append_right _ hp)⟩
      refine wpAny_execs_nil (done σ own _ (hhi ▸ hJ) hinf ⟨W', F1.regen (g := g) rfl (fun i x hig e => setGen_other hig (KG1.gens i x (setGen_other hig e))) sbg (fun e => setGen_bare (KG1.bare (setGen_bare e rfl)) rfl) KG1.os fun p hp => by cases hp⟩)
end
end Mine
end

section
open PySem PySem.W PyProof.Rows PySem.Calls
namespace Mine
section
variable {M : Model} {A : Around} {R : GenEnd} {Yp : Protocol} {n : Nat} {s₀ : Shared} {c : Code} {fs : List Frame} {s : Shared} {env : Env}
  {K : Flow → Sem Fin} {H : Value → Sem Fin} {gd : Bool → Bool} {lv : List Value → List Value}
theorem seg_own_err {x : Value} (h : cameBackBy M (A.over c fs) env (fun y s' => y = x ∧ Seg M A R Yp n s₀ c (H x) fs s') x s) (hne : ∀ y s', (y = x ∧ Seg M A R Yp n s₀ c (H x) fs s') → Seg M A R Yp n s₀ c (H y) fs s') :
    Seg M A R Yp n s₀ c (ownRet env K H gd lv (.error x)) fs s := by
  unfold ownRet
  rw [Sem.onRaise_eq_wrap, Sem.wrap_wrap]
  show Seg M A R Yp n s₀ c (((do
        if (← field x 1) == Value.none then unsupported "frame.own-activation:exception-without-traceback"
        setFlight x env.frame : Sem Unit).bind fun _ => (.raise x : Sem Flow)).wrap K H gd lv) fs s
  rw [Sem.bind_eq_wrap, Sem.wrap_wrap]
  refine seg_wrap (wpAny_mono h (fun _ s' h' => h'.2) fun y s' h' => hne y s' h')
end

section
variable {prog : Program} {w : World} {hz : Heap} {mg mb : Str → Option Value} {A : Around} {f L ra : Addr} {pm cd doc : Value} {row : List Int} {vs : List Value} {tc : Tok} {outer : List Env} {fr : List Addr}
/-- a nought at the front: the generator raises at once -/
theorem seg_raises {s sb : Shared} {m : Str → Option Value} {n : Nat} {Yp : Protocol} (G : Gl hz mg mb) (hcm : mg "CHAR_MAX" = some (.int 127 tc)) (hve : mg "ValueError" = none) (hvb : mb "ValueError" = some (.type "ValueError")) (hi : IntsAre vs row) (hA : A.handled = none) (hfr : A.frames = some outer)
    (hraL : ra ≠ L) (hzL : hz.get? L = none) (h0 : row.head? = some 0) (hb : HK hz s.heap) (hn : s.heap.Ns L m) (hm : m "grouping" = some (.ref ra)) (hl : s.heap.IsList ra vs.toArray)
    (hkp : Kp sb s) (hzb : HK hz sb.heap) (hnL : sb.heap.get? L = none) (hff : sb.heap.FunFrames hz outer) (hlf : ∀ b ∈ outer.filterMap (·.frame), b ∈ fr) :
    Seg (model prog w) A (fun _ _ r s₁ => ∃ e, r = .error (.ref e) ∧ Fly hz outer fr sb s₁ e .none) Yp n s (.func (bodyOf qp 2) (genv f pm cd doc L)) ((model prog w).den (.func (bodyOf qp 2) (genv f pm cd doc L))) [] s := by
  obtain ⟨r', rfl⟩ : ∃ r', row = 0 :: r' := by
    cases row with
    | nil => simp at h0
    | cons a r' => simp at h0; subst h0; exact ⟨r', rfl⟩
  obtain ⟨t0, us, rfl⟩ : ∃ t us, vs = .int 0 t :: us := by cases hi with | cons _ t r => exact ⟨t, _, rfl⟩
  refine seg_func (seg_execs_cons (seg_plain (wpAny_Assign_Name (wpAny_Constant_none (wpAny_storeName_local rfl hn (fun h₁ hn₁ hs₁ => ?_) rfl)) rfl)))
  have hb1 : HK hz h₁ := fun b o e => (hs₁.2 b (fun h : b = L => by rw [h, hzL] at e; cases e)).trans (hb b o e)
  have hk1 : HK sb.heap h₁ := fun b o e => (hs₁.2 b (fun h : b = L => by rw [h, hnL] at e; cases e)).trans (hkp.heap b o e)
  have hl1 : h₁.IsList ra (Value.int 0 t0 :: us).toArray := hl.extBut hs₁.extBut hraL
  refine seg_execs_cons (seg_For (wpAny_Name (wpAny_loadName_local rfl rfl hn₁ (by rw [if_neg (by decide)]; exact hm) (wpAny_pyIter_list hl1 fun p => ?_)) (by decide)))
  dsimp only
  generalize hIt : h₁.objs.size = It
  have nf : h₁.get? It = none := by rw [← hIt]; exact fresh_size _
  have hLI : L ≠ It := fun h => by obtain ⟨o, _, _, e, _⟩ := hn₁; rw [show (genv f pm cd doc L).locals = L from rfl, h, nf] at e; cases e
  have hraI : ra ≠ It := fun h => by obtain ⟨o, e, _⟩ := hl1; rw [h, nf] at e; cases e
  have nz : ∀ {k : Heap}, HK k h₁ → k.get? It = none := fun {k} hk => by
    cases e : k.get? It with
    | none => rfl
    | some o => have := hk _ _ e; rw [nf] at this; cases this
  refine seg_forLoop (wpAny_pyNext_list_item (x := .int 0 t0) (i := 0) ⟨_, hIt ▸ Heap.get?_push_size _ rfl, rfl, rfl⟩ (hl1.push _) rfl fun h' hit' hs' => ?_)
  have hn' : h'.Ns L (fun x => if x = "last_interval" then some .none else m x) := (Heap.Ns.push hn₁ _).sameBut hs' hLI
  refine wpAny_assign_Name (wpAny_storeName_local rfl hn' (fun h₂ hn₂ hs₂ => ?_) rfl)
  have up : ∀ {k : Heap}, HK k h₁ → k.get? L = none → HK k h₂ := fun {k} hk hkL b o e =>
    (hs₂.2 b (fun h : b = L => by rw [h, hkL] at e; cases e)).trans ((hs'.2 b (fun h => by rw [h, nz hk] at e; cases e)).trans (Heap.get?_push_of_some _ (hk b o e)))
  have hb2 := up hb1 hzL
  have hk2 := up hk1 hnL
  have P2 : ∀ l, (∀ x d, (stoL l) x = some d → (genv f pm cd doc L).kindOf x = some .local ∧ ∃ v, (if x = "interval" then some (.int 0 t0) else if x = "last_interval" then some .none else m x) = some v ∧ ∀ X h, Rep X h v d) → ∀ s' : Shared, Kp { s with heap := h₂, toks := s.toks + 1 + 1 } s' → Pre hz (genv f pm cd doc L) (fun _ => False) (stoL l) s' :=
    fun l hh s' k => (pre_gen (f := f) (pm := pm) (cd := cd) (doc := doc) (s := { s with heap := h₂, toks := s.toks + 1 + 1 }) hb2 hn₂ hh).kp k
  have Pi := P2 [("interval", .int 0), ("last_interval", .none)] (fun x d e => by
    simp only [stoL, List.lookup_cons, List.lookup_nil] at e
    split at e
    · rename_i hx; rw [beq_iff_eq.mp hx]; cases e; exact ⟨rfl, _, rfl, fun _ _ => .int _ _⟩
    · split at e
      · rename_i hx; rw [beq_iff_eq.mp hx]; cases e; exact ⟨rfl, _, rfl, fun _ _ => .none⟩
      · cases e)
  refine seg_execs_cons (seg_If (EB.use (b := false) (eb_cmp (ev_name rfl) (ev_glob (d := .int 127) G hcm fun _ _ => .int _ _) op_eq) (Pi _ (.refl _)) fun s₃ k₃ P3 => ?_))
  refine seg_execs_nil (seg_execs_cons (seg_If (EB.use (b := true) (eb_cmp (ev_name rfl) ev_int op_eq) P3 fun s₄ k₄ P4 => ?_)))
  refine seg_execs_cons (seg_If (EB.use (b := true) (eb_cmp (ev_name rfl) ev_none op_is_none) P4 fun s₅ k₅ P5 => ?_))
  have kb : Kp sb s₅ := Kp.trans (b := { s with heap := h₂, toks := s.toks + 1 + 1 }) ⟨hk2, hkp.gens, hkp.bare, hkp.os⟩ (k₃.trans (k₄.trans k₅))
  have k25 : HK h₂ s₅.heap := (k₃.trans (k₄.trans k₅)).heap
  refine seg_execs_cons (seg_plain (wpAny_Raise_call PySem.F.excCall_ValueError PySem.F.excRaise_ValueError hA rfl (built_name G P5 hve hvb ⟨rfl, ?_⟩)))
  refine Calls.evalArgs_plain (Calls.spliced_cons ?_)
  refine EV.use (d := .str (Str.ofString "invalid grouping")) (ev_str (k := 0) (pos := { line := 0, col := 0, endLine := 0, endCol := 0 })) P5 fun v s₆ r₆ k₆ P6 => ?_
  refine Calls.spliced_nil ?_
  refine ⟨rfl, by simp [sizeLine], fun h₆ e hm => ?_⟩
  replace kb := kb.trans k₆
  replace k25 := k25.trans k₆.heap
  clear k₅ k₆ P5
  have k6 : HK s₆.heap h₆ := fun b o eb => hm.keeps b o eb
  obtain ⟨t, he, ht, ht'⟩ := hm.there
  have sbe : sb.heap.get? e = none := by
    cases hq : sb.heap.get? e with
    | none => rfl
    | some o => have := kb.heap _ _ hq; rw [hm.new] at this; cases this
  have ff : h₆.FunFrames hz (genv f pm cd doc L :: outer) := by
    refine Heap.FunFrames.cons (by show ¬ ScopeKind.function = .module; decide) rfl (Heap.Ns.keeps hn₂ (k25.trans k6)) hzL (hff.of_keeps fun b o eb _ => ⟨o, k6 _ _ (kb.heap b o eb), rfl⟩)
  have kf : Kf fr sb { s₆ with heap := h₆ } := ⟨fun b o _ eb => k6 _ _ (kb.heap b o eb), fun b o eb => ⟨o.slots, k6 _ _ (kb.heap b o eb)⟩, kb.gens, kb.bare, kb.os⟩
  refine seg_wrap (wpAny_bind (fly_first (env := genv f pm cd doc L) (outer := outer) (by unfold Around.over; dsimp only; rw [hfr]; rfl) (L := L) rfl kf ff (fun b o eb => k6 _ _ (P6.base b o eb)) hzb ?_ he rfl rfl rfl sbe fun s₇ F7 => ?_))
  · intro b hbm hlv
    rcases List.mem_cons.mp hbm with rfl | hbm
    · obtain ⟨o, eo⟩ := hlv; rw [hnL] at eo; cases eo
    · exact hlf b hbm
  refine wpAny_theTreesLotGoes ?_
  refine seg_leaf (.error (.ref e)) (seg_own_err (fly_back (L := L) F7 rfl fun s₈ F8 => ⟨rfl, ?_⟩) fun y s' h => h.1 ▸ h.2)
  refine seg_wrap (fly_leave F8 rfl fun s₉ F9 => seg_end (.error (.ref e)) ⟨e, rfl, F9.tail⟩)
end
end Mine
end

section
open PySem PySem.W PyProof.Rows PySem.Calls
namespace Mine
theorem valueError_noStop : isSubtype (.type "ValueError") (.type "StopIteration") = pure false := by rw [isSubtype_type]; kernel_rfl

section
variable {prog : Program} {w : World} {A : Around} {E : Value → Shared → Prop} {s : Shared} {hz : Heap} {env : Env} {σ : Sto} {mg mb : Str → Option Value}
/-- a generator that raises a ValueError -/
theorem next_gen_raise {a : Addr} {g n : Nat} {gs : GenState} {P : Shared → Addr → Prop} {Q : Option Value → Shared → Prop}
    (hl : s.heap.NoLimit) (hroom : A.depth < recursionLimit) (hg : s.heap.IsGen a g) (hgs : s.gens[g]? = some gs)
    (hgo : gs.Goes (model prog w) A.in1 (fun _ _ r s₁ => ∃ e, r = .error (.ref e) ∧ P s₁ e) (fun _ _ _ _ _ => False) n (.send .none) (s.setGen g .running))
    (hP : ∀ s₁ e, P s₁ e → s₁.heap.IsGen a g ∧ (∃ o, s₁.heap.get? e = some o ∧ o.cls = .type "ValueError") ∧ E (.ref e) (s₁.setGen g .finished)) :
    wpAny (model prog w) A (pyNext (.ref a)) Q E s := by
  unfold pyNext
  refine wpAny_bind (wpAny_attempt (wpAny_callSpecial?_slot (name := Str.ofString "__next__") hg.typeIs slot_gen_next
    (wpAny_call_entry slot_gen_next hg.typeIs entry_gen_next ?_ (args_gen_next _))))
  show wpAny _ A.in1 (Builtin.Generator.genWake (.ref a) (.send .none)) _ _ s
  unfold Builtin.Generator.genWake
  refine wpAny_bind (wpAny_holding (wpAny_genNumber hg (wpAny_bind (wpAny_genState hgs ?_))))
  cases gs with
  | running => exact hgo.elim
  | finished => exact hgo.elim
  | _ =>
    refine wpAny_bind (wpAny_roomToWake hl hroom ?_)
    show wpAny _ A.in1 (.resume g (.send .none) [] _) _ _ s
    refine wpAny_resumeQ hgs hgo (fun x s₁ hx => ?_) (fun v s₁ gs' hb hv => hv.elim)
    obtain ⟨e, rfl, hp⟩ := hx
    obtain ⟨⟨o, nm, qn, ho, hc, hd, _⟩, ⟨oe, hoe, hce⟩, hE⟩ := hP s₁ e hp
    show wpAny _ A.in1 (Builtin.Generator.genLeft (.ref a) (.ref e)) _ _ _
    unfold Builtin.Generator.genLeft Builtin.Generator.madeByALambda
    refine wpAny_bind (wpAny_bind (wpAny_load (s := s₁.setGen g .finished) ho (wpAny_pure ?_)))
    refine wpAny_bind (wpAny_isInstance (s := s₁.setGen g .finished) (T := "ValueError") (b := false) ⟨_, hoe, hce⟩ valueError_noStop ?_)
    simp only [Bool.and_false, Bool.false_eq_true, if_false]
    show wpAny _ A.in1 (Builtin.Generator.genEscaped (.ref e)) _ _ _
    unfold Builtin.Generator.genEscaped
    refine wpAny_bind (wpAny_isInstance (s := s₁.setGen g .finished) (T := "ValueError") (b := false) ⟨_, hoe, hce⟩ valueError_noStop ?_)
    simp only [Bool.not_false, if_true]
    refine wpAny_bind (wpAny_throw ?_)
    refine wpAny_bind (wpAny_isInstance (s := s₁.setGen g .finished) (T := "ValueError") (b := false) ⟨_, hoe, hce⟩ valueError_noStop ?_)
    simp only [Bool.false_eq_true, if_false]
    exact wpAny_throw hE
end

section
variable {hz : Heap} {l : List Env} {fr fr' : List Addr} {sb sb' s s' : Shared} {e : Addr} {fl : Value}
theorem Kf.rebase (x : Kf fr' sb' s) (k : HK sb.heap sb'.heap) (hfr : ∀ b, Live sb.heap b → b ∈ fr' → b ∈ fr) (hh : s'.heap = s.heap) (hg : ∀ (i : Nat) (g : GenState), sb.gens[i]? = some g → s'.gens[i]? = some g)
    (hb : AllBare sb.gens → AllBare s'.gens) (ho : s'.os = sb.os) : Kf fr sb s' :=
  ⟨fun b o n eb => hh ▸ x.keep b o (fun h => n (hfr b ⟨o, eb⟩ h)) (k b o eb), fun b o eb => hh ▸ x.slots b o (k b o eb), hg, hb, ho⟩
theorem Fly.rebase (F : Fly hz l fr' sb' s e fl) (k : HK sb.heap sb'.heap) (hfr : ∀ b, Live sb.heap b → b ∈ fr' → b ∈ fr) (hzb : HK hz sb.heap) (hh : s'.heap = s.heap) (hg : ∀ (i : Nat) (g : GenState), sb.gens[i]? = some g → s'.gens[i]? = some g)
    (hb : AllBare sb.gens → AllBare s'.gens) (ho : s'.os = sb.os) : Fly hz l fr sb s' e fl := by
  have none_of : ∀ b, sb'.heap.get? b = none → sb.heap.get? b = none := fun b h => by
    cases q : sb.heap.get? b with
    | none => rfl
    | some o => have := k b o q; rw [h] at this; cases this
  obtain ⟨oe, vs, T, oT, ts, he, hc, hd, h1, hTe, hT, hdT, h3, hne, hnT⟩ := F.exc
  exact ⟨F.kf.rebase k hfr hh hg hb ho, hh ▸ F.funs, hh ▸ F.base, hzb, hh ▸ ⟨oe, vs, T, oT, ts, he, hc, hd, h1, hTe, hT, hdT, h3, none_of _ hne, none_of _ hnT⟩, fun b hb hl => hfr b hl (F.lf b hb (hl.hk k))⟩
end

section
variable {prog : Program} {w : World} {hz : Heap} {mg mb : Str → Option Value} {A : Around} {f : Addr} {pm cd doc : Value} {row : List Int} {tc : Tok}
variable {env : Env} {s : Shared} {σ : Sto} {E : Value → Shared → Prop} {Q : Flow → Shared → Prop} {outer : List Env} {L : Addr}
/-- for x in _grouping_intervals(row): the row begins with a nought -/
theorem ex_forgen_raise {fn x : Str} {np cpos px pos : Pos} {e : Expr} {body rest : List Stmt} {o : Obj} {X : Addr → Prop} (p : Pre hz env X σ s) (G : Gl hz mg mb) (hv : mg fn = some (.ref f)) (ho : hz.get? f = some o)
    (hdat : o.data = .func (fdOf qp 2 pm cd doc)) (hcd : hz.CodeRec cd (nameOf qp 2)) (hcm : mg "CHAR_MAX" = some (.int 127 tc)) (hve : mg "ValueError" = none) (hvb : mb "ValueError" = some (.type "ValueError"))
    (he : EV prog w hz A env σ e (.list (ils row))) (hA : Ok A 1) (h0 : row.head? = some 0)
    (hfr : A.frames = some (env :: outer)) (hff : s.heap.FunFrames hz (env :: outer)) (hfe : env.frame = some L)
    (q : ∀ s' e, Fly hz (env :: outer) ((env :: outer).filterMap (·.frame)) s s' e (rawInt L) → E (.ref e) s')
    (hk : env.scope.kind = .function := by rfl) (hx : env.kindOf fn = some .globalImplicit := by rfl) (hg : env.globals = mainGlobals := by rfl) (hd : (fn == ("__debug__" : Str)) = false := by decide)
    (hse : starEach [e] env = (false, eval e env) :: starEach [] env := by rfl) (hfs : ∀ v, foldedSetIterable (.Call (.Name fn np) [e] [] cpos) env v = pure v := by intro _; rfl) :
    wpAny (model prog w) A (execs (.For (.Name x px) (.Call (.Name fn np) [e] [] cpos) body [] pos :: rest) env) Q E s := by
  have hroom : A.depth < recursionLimit := by have := hA.depth; omega
  refine wpAny_execs_cons (wpAny_For (gen_call G hv ho hdat hcd he p hroom (fun s₂ Lg ga ra g vs m M => wpAny_pyIter_gen M.isGen ?_) hk hx hg hd hse) hfs)
  refine codeAny_forLoop (fun _ s' => s' = s₂) (fun n' s' hI => ?_) 0 rfl
  subst hI
  have hb2 : HK hz s'.heap := p.base.trans M.kp.heap
  have hzL : hz.get? Lg = none := by
    cases hq : hz.get? Lg with
    | none => rfl
    | some o => have := p.base _ _ hq; rw [M.newL] at this; cases this
  have fne : ∀ b ∈ (env :: outer).filterMap (·.frame), b ≠ Lg := fun b hb h => by
    obtain ⟨_, o, ho, _⟩ := hff.mem hb
    rw [h, M.newL] at ho; cases ho
  -- the state in which the generator's names are not there yet
  let sx : Shared := { s'.setGen g .running with heap := hideAll s'.heap [Lg] }
  have kx : HK s.heap sx.heap := fun b o eb => hideAll_get _ (M.kp.heap b o eb) (by simp; rintro rfl; rw [M.newL] at eb; cases eb)
  obtain ⟨gao, nm, qn, hga, hgc, hgd, hgs⟩ := id M.isGen
  have hgaF : ga ∉ (env :: outer).filterMap (·.frame) := fun hm => by
    obtain ⟨_, o, ho, _⟩ := hff.mem hm
    rw [M.newA] at ho; cases ho
  have hst : GenState.Goes (model prog w) A.in1 (fun _ _ r s₁ => ∃ e, r = .error (.ref e) ∧ Fly hz (env :: outer) ((env :: outer).filterMap (·.frame)) sx s₁ e .none) (fun _ _ _ _ _ => False) 0 (.fresh (.func (bodyOf qp 2) (genv f pm cd doc Lg))) (.send .none) (s'.setGen g .running) := by
    refine ⟨rfl, seg_raises (sb := sx) (s := s'.setGen g .running) G hcm hve hvb M.areInts hA.handled hfr M.raL hzL h0 hb2 M.ns M.arg M.list ⟨fun b o eb => of_hideAll _ eb, fun _ _ e => e, id, rfl⟩ ?_ (hideAll_none _ (by simp)) ?_ fun b hb => hb⟩
    · exact fun b o eb => hideAll_get _ (hb2 b o eb) (by simp; rintro rfl; rw [hzL] at eb; cases eb)
    · refine funFrames_hideAll (hff.of_keeps fun b o eb _ => ⟨o, M.kp.heap b o eb, rfl⟩) fun env' he' a ha hf => ?_
      rw [List.mem_singleton.mp ha] at hf
      exact fne Lg (List.mem_filterMap.mpr ⟨env', he', hf⟩) rfl
  refine next_gen_raise (G.nolimit.keeps hb2) hroom M.isGen M.gen hst fun s₁ e F => ⟨?_, ?_, ?_⟩
  · exact ⟨gao, nm, qn, F.kf.keep ga gao hgaF (hideAll_get _ hga (by simp; exact M.apart.symm)), hgc, hgd, hgs⟩
  · obtain ⟨oe, vs, T, oT, ts, he, hc, _⟩ := F.exc
    exact ⟨oe, he, hc⟩
  · have F1 : Fly hz (env :: outer) ((env :: outer).filterMap (·.frame)) s (s₁.setGen g .finished) e .none := by
      refine F.rebase kx (fun _ _ h => h) p.base rfl (fun i x eb => ?_) (fun hb => setGen_bare (F.kf.bare (setGen_bare (M.kp.bare hb) rfl)) rfl) (F.kf.os.trans M.kp.os)
      have hig : i ≠ g := fun h => by rw [h, M.newG] at eb; cases eb
      exact setGen_other hig (F.kf.gens i x (setGen_other hig (M.kp.gens i x eb)))
    exact fly_next hfr hfe F1 fun s₂ F2 => fly_back (L := L) F2 hfe fun s₃ F3 => q s₃ e F3
end
end Mine
end

section
open PySem PySem.W PyProof.Rows PySem.Calls
namespace Mine
/-- the def at f, called upon ds, gives d back; the slots of the frames at work may change -/
def FNF (prog : Program) (w : World) (hz : Heap) (n : Nat) (f : Addr) (ds : List PyData) (d : PyData) : Prop :=
  ∀ (A : Around) (X : Addr → Prop) (s : Shared) (E : Value → Shared → Prop) (vs : List Value) (outer : List Env), Ok A n → A.frames = some outer → s.heap.FunFrames hz outer → HK hz s.heap → (∀ a, X a → Live s.heap a) → Reps X s.heap vs ds →
    wpAny (model prog w) A (call (.ref f) vs) (fun v s' => Rep X s'.heap v d ∧ Kf (outer.filterMap (·.frame)) s s') E s
/-- the def at f, called upon ds, raises a ValueError -/
def FNX (prog : Program) (w : World) (hz : Heap) (n : Nat) (f : Addr) (ds : List PyData) : Prop :=
  ∀ (A : Around) (X : Addr → Prop) (s : Shared) (E : Value → Shared → Prop) (Q : Value → Shared → Prop) (vs : List Value) (outer : List Env), Ok A n → A.frames = some outer → s.heap.FunFrames hz outer → HK hz s.heap → (∀ a, X a → Live s.heap a) → Reps X s.heap vs ds →
    (∀ e s', Fly hz outer (outer.filterMap (·.frame)) s s' e .none → E (.ref e) s') → wpAny (model prog w) A (call (.ref f) vs) Q E s
theorem Kp.kf {fr : List Addr} {s s' : Shared} (k : Kp s s') : Kf fr s s' := ⟨fun b o _ e => k.heap b o e, fun b o e => ⟨o.slots, k.heap b o e⟩, k.gens, k.bare, k.os⟩
theorem FN.f {prog : Program} {w : World} {hz : Heap} {n : Nat} {f : Addr} {ds : List PyData} {d : PyData} (h : FN prog w hz n f ds d) : FNF prog w hz n f ds d :=
  fun A X s E vs _ hA _ _ hb hX rs => wpAny_mono (h A X s E vs hA hb hX rs) (fun _ _ x => ⟨x.1, x.2.kf⟩) fun _ _ e => e

section
variable {hz : Heap} {prog : Program} {w : World} {env : Env} {Y : Addr → Prop} {sb s s' : Shared} {pr : List (Addr × Obj)} {pg : List (Nat × GenState)} {σ : Sto} {own : Own} {W X : Addr → Prop} {A : Around} {E : Value → Shared → Prop} {outer : List Env}

theorem FS.funs (F : FS hz env Y sb pr pg σ own s) (hk : env.scope.kind = .function) (hf : env.frame = some env.locals) (ho : s.heap.FunFrames hz outer) : s.heap.FunFrames hz (env :: outer) := by
  obtain ⟨W, F⟩ := F
  obtain ⟨m, hm⟩ := F.ns
  exact Heap.FunFrames.cons (by rw [hk]; decide) hf hm (F.wnew _ F.wl).2.1 ho
theorem FS.frames (F : FS hz env Y sb pr pg σ own s) (hk : env.scope.kind = .function) (hf : env.frame = some env.locals) (ho : sb.heap.FunFrames hz outer) : s.heap.FunFrames hz (env :: outer) :=
  F.funs hk hf (ho.of_keeps fun b o eb _ => ⟨o, F.out.heap b o eb, rfl⟩)
theorem FS.newL (F : FS hz env Y sb pr pg σ own s) : sb.heap.get? env.locals = none := let ⟨_, F⟩ := F; (F.wnew _ F.wl).2.2.2
/-- behind the block, where an exception has been under way within -/
theorem FS.kfOut {s₁ : Shared} (F : FS hz env Y sb pr pg σ own s₁) (hf : env.frame = some env.locals) (k : Kf ((env :: outer).filterMap (·.frame)) s₁ s) : Kf (outer.filterMap (·.frame)) sb s := by
  have k0 := F.out
  refine k.rebase k0.heap (fun b hl hb => ?_) rfl (fun i g eb => k.gens i g (k0.gens i g eb)) (fun h => k.bare (k0.bare h)) (k.os.trans k0.os)
  rw [List.filterMap_cons, hf] at hb
  rcases List.mem_cons.mp hb with rfl | hb
  · obtain ⟨o, e⟩ := hl; rw [F.newL] at e; cases e
  · exact hb
theorem ns_slots {h h' : Heap} {a : Addr} {m : Str → Option Value} (k : ∀ b o, h.get? b = some o → ∃ sl, h'.get? b = some { o with slots := sl }) (x : h.Ns a m) : h'.Ns a m := by
  obtain ⟨o, es, ep, e, d, r⟩ := x
  obtain ⟨sl, e'⟩ := k a o e
  exact ⟨_, es, ep, e', d, r⟩
theorem cell_slots {h h' : Heap} {a : Addr} {v : Option Value} (k : ∀ b o, h.get? b = some o → ∃ sl, h'.get? b = some { o with slots := sl }) (x : h.IsCell a v) : h'.IsCell a v := by
  obtain ⟨o, e, d⟩ := x
  obtain ⟨sl, e'⟩ := k a o e
  exact ⟨_, e', d⟩
theorem Loads.slots {h h' : Heap} {x : Str} {v : Value} (k : ∀ b o, h.get? b = some o → ∃ sl, h'.get? b = some { o with slots := sl }) (l : Loads env h x v) : Loads env h' x v := by
  rcases l with ⟨a, m, b, c⟩ | ⟨a, c, b, d⟩
  · exact .inl ⟨a, m, ns_slots k b, c⟩
  · exact .inr ⟨a, c, b, cell_slots k d⟩
theorem Live.slots {h h' : Heap} {a : Addr} (k : ∀ b o, h.get? b = some o → ∃ sl, h'.get? b = some { o with slots := sl }) (l : Live h a) : Live h' a := let ⟨o, e⟩ := l; let ⟨_, e'⟩ := k a o e; ⟨_, e'⟩
theorem Pre.kf (p : Pre hz env X σ s) (k : Kf [env.locals] s s') (hX : X env.locals) (hn : hz.get? env.locals = none) : Pre hz env X σ s' :=
  ⟨fun b o e => k.keep b o (by simp; rintro rfl; rw [hn] at e; cases e) (p.base b o e), fun a h => (p.live a h).slots k.slots,
   fun x d e => let ⟨v, l, r⟩ := p.vars x d e; ⟨v, l.slots k.slots, r.keepW (fun b o n e => k.keep b o (by simp; rintro rfl; exact n hX) e) fun _ h => h⟩⟩
/-- the block's own frame has got other slots -/
theorem FSW.kpf (F : FSW hz env Y sb pr pg W σ own s) (k : Kf [env.locals] s s') : FSW hz env Y sb pr pg W σ own s' := by
  have hn := (F.wnew _ F.wl).2.1
  have ne : ∀ b, b ≠ env.locals → b ∉ [env.locals] := fun b h => by simpa using h
  have hkW : HKW (fun a => Y a ∨ W a) s.heap s'.heap := fun b o n e => k.keep b o (ne b fun h => n (.inr (h ▸ F.wl))) e
  exact ⟨fun b o e => k.keep b o (ne b fun h => by rw [h, hn] at e; cases e) (F.base b o e), fun a h => (F.ylive a h).slots k.slots, fun a h => let ⟨a1, a2, a3, a4⟩ := F.wnew a h; ⟨a1, a2, a3.slots k.slots, a4⟩, F.wl, F.wc, F.apart,
    let ⟨m, e⟩ := F.ns; ⟨m, ns_slots k.slots e⟩, fun x c e => let ⟨v, h⟩ := F.cells x c e; ⟨v, cell_slots k.slots h⟩, fun x d e => let ⟨v, l, r⟩ := F.vars x d e; ⟨v, l.slots k.slots, r.keepW hkW fun _ h => h⟩,
    fun x ds e => let ⟨a, vs, l, p, r, hw, hal, hac⟩ := F.own x ds e; ⟨a, vs, l.slots k.slots, p.at fun o e => k.keep a o (ne a hal) e, r.keepW hkW fun _ h => h, hw, hal, hac⟩,
    fun p hp => ⟨k.keep _ _ (ne _ fun h => (F.prot p hp).2 (h ▸ F.wl)) (F.prot p hp).1, (F.prot p hp).2⟩, fun p hp => k.gens _ _ (F.protg p hp),
    ⟨fun b o n e => k.keep b o (ne b fun h => n (h ▸ F.wl)) (F.kp.heap b o n e), fun i g e => k.gens i g (F.kp.gens i g e), fun e => k.bare (F.kp.bare e), k.os.trans F.kp.os⟩⟩

theorem fn_introF {f : Addr} {o : Obj} {fd : FuncData} {body : List Stmt} {n : Nat} {ds : List PyData} {d : PyData} (names : List Str) (ho : hz.get? f = some o) (hd : o.data = .func fd) (hnl : hz.NoLimit) (hcd : hz.CodeRec fd.code fd.qualname) (hbody : fd.body = .stmts body)
    (hclo : fd.closure = []) (hbind : ∀ vs : List Value, vs.length = ds.length → bindArgs fd ⟨vs, []⟩ = pure (names.zip vs)) (hnd : names.Nodup) (hlen : names.length = ds.length)
    (hkind : ∀ L, ∀ x ∈ names, (callEnvC fd L f).kindOf x = some .local ∨ ((callEnvC fd L f).kindOf x = some .cell ∧ ∃ c, (callEnvC fd L f).cells.lookup x = some c))
    (h : ∀ (A : Around) (L : Addr) (Y : Addr → Prop) (sb s : Shared) (E : Value → Shared → Prop) (outer : List Env), Ok A n → A.frames = some (callEnvC fd L f :: outer) → sb.heap.FunFrames hz outer → FS hz (callEnvC fd L f) Y sb [] [] (stoOf names ds) none s →
      wpAny (model prog w) A (execs body (callEnvC fd L f)) (fun fl s' => ∃ v, fl = .ret v ∧ Rep Y s'.heap v d ∧ Kf (outer.filterMap (·.frame)) sb s') E s)
    (hco : fd.scope.isCoroutine = false := by rfl) (hgen : fd.scope.isGenerator = false := by rfl) (hk : fd.scope.kind = .function := by rfl) : FNF prog w hz (n + 1) f ds d := by
  intro A X s E vs outer hA hfr hff hb hX rs
  refine wpAny_call (codeAny_call_cells (by have := hA.depth; omega) (hb _ _ ho) hd (hnl.keeps hb) (hcd.keeps hb) hbody (hbind vs rs.length) hclo (fun x hx => ?_) (fun s₁ x => ?_) hco hgen hk)
  · have hxn : x.1 ∈ names := (List.of_mem_zip hx).1
    rcases hkind s.heap.objs.size x.1 hxn with h1 | ⟨h1, c, hc⟩
    · exact .inl h1
    · exact .inr ⟨h1, Option.isSome_iff_exists.mpr ⟨c, hc⟩⟩
  · have F := fs_enter hb hX rs hnd hlen (hkind _) x
    refine wpAny_mono (h (A.deeper (callEnvC fd s.heap.objs.size f)) _ X s s₁ _ outer (hA.deeper _) (by simp [Around.deeper, hfr]) hff F) (fun fl s' h' => ?_) fun _ _ e => e
    obtain ⟨v, rfl, r, k⟩ := h'
    exact ⟨r, k⟩
theorem fn_introX {f : Addr} {o : Obj} {fd : FuncData} {body : List Stmt} {n : Nat} {ds : List PyData} (names : List Str) (ho : hz.get? f = some o) (hd : o.data = .func fd) (hnl : hz.NoLimit) (hcd : hz.CodeRec fd.code fd.qualname) (hbody : fd.body = .stmts body)
    (hclo : fd.closure = []) (hbind : ∀ vs : List Value, vs.length = ds.length → bindArgs fd ⟨vs, []⟩ = pure (names.zip vs)) (hnd : names.Nodup) (hlen : names.length = ds.length)
    (hkind : ∀ L, ∀ x ∈ names, (callEnvC fd L f).kindOf x = some .local ∨ ((callEnvC fd L f).kindOf x = some .cell ∧ ∃ c, (callEnvC fd L f).cells.lookup x = some c))
    (h : ∀ (A : Around) (L : Addr) (Y : Addr → Prop) (sb s : Shared) (E : Value → Shared → Prop) (Q : Flow → Shared → Prop) (outer : List Env), Ok A n → A.frames = some (callEnvC fd L f :: outer) → sb.heap.FunFrames hz outer → FS hz (callEnvC fd L f) Y sb [] [] (stoOf names ds) none s →
      (∀ sm e s', Kp sb sm → Fly hz (callEnvC fd L f :: outer) ((callEnvC fd L f :: outer).filterMap (·.frame)) sm s' e (rawInt L) → E (.ref e) s') → wpAny (model prog w) A (execs body (callEnvC fd L f)) Q E s)
    (hco : fd.scope.isCoroutine = false := by rfl) (hgen : fd.scope.isGenerator = false := by rfl) (hk : fd.scope.kind = .function := by rfl) : FNX prog w hz (n + 1) f ds := by
  intro A X s E Q vs outer hA hfr hff hb hX rs hE
  refine wpAny_call (codeAny_call_cells (by have := hA.depth; omega) (hb _ _ ho) hd (hnl.keeps hb) (hcd.keeps hb) hbody (hbind vs rs.length) hclo (fun x hx => ?_) (fun s₁ x => ?_) hco hgen hk)
  · have hxn : x.1 ∈ names := (List.of_mem_zip hx).1
    rcases hkind s.heap.objs.size x.1 hxn with h1 | ⟨h1, c, hc⟩
    · exact .inl h1
    · exact .inr ⟨h1, Option.isSome_iff_exists.mpr ⟨c, hc⟩⟩
  · have F := fs_enter hb hX rs hnd hlen (hkind _) x
    refine h (A.deeper (callEnvC fd s.heap.objs.size f)) _ X s s₁ _ _ outer (hA.deeper _) (by simp [Around.deeper, hfr]) hff F fun sm e s' km Fl => ?_
    refine fly_leave Fl rfl fun s'' F2 => hE e s'' (F2.tail.rebase km.heap (fun b hl hb => ?_) hb rfl (fun i g eb => F2.kf.gens i g (km.gens i g eb)) (fun h => F2.kf.bare (km.bare h)) (F2.kf.os.trans km.os))
    rw [List.filterMap_cons] at hb
    rcases List.mem_cons.mp (show b ∈ s.heap.objs.size :: outer.filterMap (·.frame) from hb) with rfl | hb
    · obtain ⟨o, e⟩ := hl; exact absurd (Heap.lt_size e) (Nat.lt_irrefl _)
    · exact hb
end
end Mine
end

section
open PySem PySem.W PyProof.Rows PySem.Calls
namespace Mine
section
variable {hz : Heap} {env : Env} {prog : Program} {w : World} {A : Around} {E : Value → Shared → Prop} {Q : Flow → Shared → Prop} {s : Shared} {mg mb : Str → Option Value} {outer : List Env} {L : Addr}
theorem ex_try {body rest : List Stmt} {h₀ : ExceptHandler} {hs : List ExceptHandler} {pos : Pos}
    (h : ∀ E', wpAny (model prog w) A (execs body env) (fun f s₁ => match f with | .next => wpAny (model prog w) A (execs rest env) Q E s₁ | f => Q f s₁) E' s) :
    wpAny (model prog w) A (execs (.Try body (h₀ :: hs) [] [] pos :: rest) env) Q E s := by
  refine wpAny_execs_cons (wpAny_Try_except (wpAny_mono (h _) (fun f s₁ h₁ => ?_) fun _ _ e => e))
  cases f with
  | next => exact wpAny_execs_nil h₁
  | _ => exact h₁
/-- try: .. except ValueError: .., where the body raises it -/
theorem ex_try_raise {body rest suite : List Stmt} {b₀ : Stmt} {pos hp np : Pos} {fr : List Addr} {sm : Shared} (G : Gl hz mg mb) (hve : mg "ValueError" = none) (hvb : mb "ValueError" = some (.type "ValueError")) (hfe : env.frame = some L)
    (hb : ∀ (E' : Value → Shared → Prop) (Q' : Flow → Shared → Prop), (∀ e s', Fly hz (env :: outer) fr sm s' e (rawInt L) → E' (.ref e) s') → wpAny (model prog w) A (execs body env) Q' E' s)
    (hs : ∀ e s' E', Fly hz (env :: outer) fr sm s' e .none → wpAny (model prog w) (A.mark (some (.ref e))) (execs (b₀ :: suite) env) (fun f s₁ => match f with | .next => wpAny (model prog w) A (execs rest env) Q E s₁ | f => Q f s₁) E' s')
    (hk : env.scope.kind = .function := by rfl) (hx : env.kindOf "ValueError" = some .globalImplicit := by rfl) (hg : env.globals = mainGlobals := by rfl) (hbn : env.builtins = builtinsNs := by rfl) :
    wpAny (model prog w) A (execs (.Try body [.ExceptHandler (some (.Name "ValueError" np)) none (b₀ :: suite) hp] [] [] pos :: rest) env) Q E s := by
  refine wpAny_execs_cons (wpAny_Try_except (hb _ _ fun e s' F => ?_))
  refine fly_same F hfe (fly_set (fo := none) F fun s₁ F₁ => ?_)
  have P1 : Pre hz env (fun _ => False) (fun _ => none) s₁ := ⟨F₁.base, fun _ h => h.elim, fun _ _ e => by cases e⟩
  refine wpAny_handleBy_builtin (X := "ValueError") (T := "ValueError") (b := true) PySem.F.isExc_ValueError PySem.F.notTuple_ValueError PySem.F.self_ValueError (built_name G P1 hve hvb ⟨rfl, ?_, ?_⟩ hk hx hg hbn)
  · obtain ⟨oe, vs, T, oT, ts, he, hc, _⟩ := F₁.exc
    exact ⟨oe, he, hc⟩
  rw [if_pos rfl]
  exact fly_set (fo := none) F₁ fun s₂ F₂ => hs e s₂ _ F₂
end
end Mine
end

section
open PySem PySem.W PyProof.Rows PySem.Calls
namespace Mine
/-- called where no frame is at work -/
def FN0 (prog : Program) (w : World) (hz : Heap) (n : Nat) (f : Addr) (ds : List PyData) (d : PyData) : Prop :=
  ∀ (A : Around) (X : Addr → Prop) (s : Shared) (E : Value → Shared → Prop) (vs : List Value), Ok A n → A.frames = some [] → HK hz s.heap → (∀ a, X a → Live s.heap a) → Reps X s.heap vs ds →
    wpAny (model prog w) A (call (.ref f) vs) (fun v s' => Rep X s'.heap v d ∧ Kp s s') E s
section
variable {prog : Program} {w : World} {hz : Heap} {A : Around} {env : Env} {σ : Sto} {mg mb : Str → Option Value}
/-- e yields d; the slots of the block's own frame may change -/
def EVk (prog : Program) (w : World) (hz : Heap) (A : Around) (env : Env) (σ : Sto) (e : Expr) (d : PyData) : Prop :=
  ∀ (X : Addr → Prop) (s : Shared) (E : Value → Shared → Prop), Pre hz env X σ s → X env.locals → hz.get? env.locals = none → s.heap.FunFrames hz [env] →
    wpAny (model prog w) A (eval e env) (fun v s' => Rep X s'.heap v d ∧ Kf [env.locals] s s') E s
def EBk (prog : Program) (w : World) (hz : Heap) (A : Around) (env : Env) (σ : Sto) (e : Expr) (b : Bool) : Prop :=
  ∀ (X : Addr → Prop) (s : Shared) (E : Value → Shared → Prop), Pre hz env X σ s → X env.locals → hz.get? env.locals = none → s.heap.FunFrames hz [env] →
    wpAny (model prog w) A (isTrue e env (eval e env)) (fun b' s' => b' = b ∧ Kf [env.locals] s s') E s
theorem Kf.trans' {fr : List Addr} {a b c : Shared} (x : Kf fr a b) (y : Kf fr b c) : Kf fr a c :=
  ⟨fun d o n e => y.keep d o n (x.keep d o n e), fun d o e => let ⟨_, e'⟩ := x.slots d o e; let ⟨sl, e''⟩ := y.slots d _ e'; ⟨sl, e''⟩, fun i g e => y.gens i g (x.gens i g e), fun e => y.bare (x.bare e), y.os.trans x.os⟩
theorem funs_kf {fr : List Addr} {s s' : Shared} {l : List Env} (k : Kf fr s s') (h : s.heap.FunFrames hz l) : s'.heap.FunFrames hz l := FunFrames.slots h fun b o e _ => k.slots b o e
theorem EV.k {e : Expr} {d : PyData} (h : EV prog w hz A env σ e d) : EVk prog w hz A env σ e d := fun X s E p _ _ _ => wpAny_mono (h X s E p) (fun _ _ x => ⟨x.1, x.2.kf⟩) fun _ _ e => e
theorem EB.k {e : Expr} {d : Bool} (h : EB prog w hz A env σ e d) : EBk prog w hz A env σ e d := fun X s E p _ _ _ => wpAny_mono (h X s E p) (fun _ _ x => ⟨x.1, x.2.kf⟩) fun _ _ e => e
theorem evk_call {x : Str} {np pos : Pos} {e : Expr} {es : List Expr} {f : Addr} {o : Obj} {fd : FuncData} {n : Nat} {ds : List PyData} {d : PyData} (G : Gl hz mg mb) (hv : mg x = some (.ref f)) (ho : hz.get? f = some o) (hdat : o.data = .func fd)
    (he : EVs prog w hz A env σ (e :: es) ds) (hf : FNF prog w hz n f ds d) (hA : Ok A n) (hfr : A.frames = some [env]) (hfe : env.frame = some env.locals)
    (hk : env.scope.kind = .function := by rfl) (hx : env.kindOf x = some .globalImplicit := by rfl) (hg : env.globals = mainGlobals := by rfl) (hd : (x == ("__debug__" : Str)) = false := by decide)
    (hse : starEach (e :: es) env = (false, eval e env) :: starEach es env := by rfl) :
    EVk prog w hz A env σ (.Call (.Name x np) (e :: es) [] pos) d := by
  intro X s E p hX hn hff
  refine Call_ (glob_name G p hv (callWith_def hdat (he.use p fun vs s₁ rs k p₁ => ⟨p₁.base _ _ ho, ?_⟩) hse) hk hx hg hd)
  refine wpAny_mono (hf A X s₁ E vs [env] hA hfr (funs_kf (fr := []) k.kf hff) p₁.base p₁.live rs) (fun v s' h => ⟨h.1, ?_⟩) fun _ _ e => e
  have h2 := h.2
  rw [List.filterMap_cons, hfe] at h2
  exact Kf.trans' k.kf h2
theorem ebk_cmp {a b : Expr} {op : CmpOp} {pos : Pos} {d₁ d₂ : PyData} {t : Bool} (ha : EVk prog w hz A env σ a d₁) (hb : EV prog w hz A env σ b d₂)
    (ho : Op2 prog w hz A (compareOp op) d₁ d₂ (.bool t)) (hm : behindInMarks op b = false := by with_unfolding_all rfl) : EBk prog w hz A env σ (.Compare a [op] [b] pos) t := by
  intro X s E p hX hn hff
  refine wpAny_isTrue_Compare1 (wpAny_mono (ha X s E p hX hn hff) (fun v s₁ h₁ => ?_) fun _ _ e => e) hm
  obtain ⟨r, k⟩ := h₁
  refine hb.use (p.kf k hX hn) fun u s₂ r' k' p₂ => ?_
  refine wpAny_mono (ho X s₂ E v u p₂.base p₂.live (r.keep k'.heap) r') (fun x s₃ h => ?_) fun _ _ e => e
  obtain ⟨h1, h2⟩ := h
  cases h1
  exact wpAny_truthy_bool ⟨rfl, k.trans' (k'.trans h2).kf⟩
/-- a and b -/
theorem ebk_and {a b : Expr} {pos : Pos} {t u : Bool} (ha : EB prog w hz A env σ a t) (hb : t = true → EBk prog w hz A env σ b u) : EBk prog w hz A env σ (.BoolOp .And [a, b] pos) (t && u) := by
  intro X s E p hX hn hff
  refine wpAny_isTrue_BoolOp (wpAny_allTrue_And_cons (ha.use p fun s₁ k p₁ => ?_))
  cases t
  · exact ⟨rfl, k.kf⟩
  · refine wpAny_allTrue_And_cons (wpAny_mono (hb rfl X s₁ E p₁ hX hn (funs_kf (fr := []) k.kf hff)) (fun b' s₂ h => ?_) fun _ _ e => e)
    obtain ⟨rfl, k'⟩ := h
    cases b'
    · exact ⟨rfl, k.kf.trans' k'⟩
    · exact wpAny_allTrue_And_nil ⟨rfl, k.kf.trans' k'⟩
theorem op_eq_none_list {ds : List PyData} (hu : A.units < cLine) : Op2 prog w hz A (compareOp .Eq) .none (.list ds) (.bool false) := by
  intro X s E v u _ _ r r'
  cases r
  obtain ⟨a, vs, rfl, hl, _, rs⟩ := r'.isList
  show wpAny _ A (richCompare .Eq _ _) _ E s
  exact PySem.SeqAt.RcAt.none_list hl hu prog w E _ ⟨.bool _, .refl _⟩

variable {Y : Addr → Prop} {sb s s' : Shared} {pr : List (Addr × Obj)} {pg : List (Nat × GenState)} {own : Own} {E : Value → Shared → Prop} {Q : Flow → Shared → Prop}
theorem ex_assign_k {x : Str} {e : Expr} {p₁ p₂ : Pos} {rest : List Stmt} {d : PyData} (F : FS hz env Y sb pr pg σ own s) (he : EVk prog w hz A env σ e d) (hfe : env.frame = some env.locals)
    (k : ∀ s', FS hz env Y sb pr pg (σ.set x d) own s' → wpAny (model prog w) A (execs rest env) Q E s')
    (hown : ∀ y ds, own = some (y, ds) → y ≠ x) (hs : Stores env x)
    (hsw : swapsWith e (some (.Name x p₁)) p₂.line env = pure false := by rfl) : wpAny (model prog w) A (execs (.Assign [.Name x p₁] e p₂ :: rest) env) Q E s := by
  have hff := F.funs hs.fn hfe (outer := []) trivial
  obtain ⟨W, F⟩ := F
  refine wpAny_execs_cons (wpAny_Assign_Name (wpAny_mono (he _ s E F.pre (.inr F.wl) (F.wnew _ F.wl).2.1 hff) (fun v s₁ h => ?_) fun _ _ e => e) hsw)
  exact ex_store (F.kpf h.2) h.1 hs hown fun s' F' => k s' F'
theorem ex_if_k {t : Expr} {body orelse rest : List Stmt} {pos : Pos} {b : Bool} (F : FS hz env Y sb pr pg σ own s) (ht : EBk prog w hz A env σ t b) (hfe : env.frame = some env.locals) (hk : env.scope.kind = .function)
    (k : ∀ s', FS hz env Y sb pr pg σ own s' → wpAny (model prog w) A (execs (if b then body else orelse) env) (fun f s₂ => match f with | .next => wpAny (model prog w) A (execs rest env) Q E s₂ | f => Q f s₂) E s') :
    wpAny (model prog w) A (execs (.If t body orelse pos :: rest) env) Q E s := by
  have hff := F.funs hk hfe (outer := []) trivial
  obtain ⟨W, F⟩ := F
  refine wpAny_execs_cons (wpAny_If (wpAny_mono (ht _ s E F.pre (.inr F.wl) (F.wnew _ F.wl).2.1 hff) (fun b' s₁ h => ?_) fun _ _ e => e))
  obtain ⟨rfl, h2⟩ := h
  have := k s₁ ⟨W, F.kpf h2⟩
  cases b' <;> exact this

theorem fn_intro0 {f : Addr} {o : Obj} {fd : FuncData} {body : List Stmt} {n : Nat} {ds : List PyData} {d : PyData} (names : List Str) (ho : hz.get? f = some o) (hd : o.data = .func fd) (hnl : hz.NoLimit) (hcd : hz.CodeRec fd.code fd.qualname) (hbody : fd.body = .stmts body)
    (hclo : fd.closure = []) (hbind : ∀ vs : List Value, vs.length = ds.length → bindArgs fd ⟨vs, []⟩ = pure (names.zip vs)) (hnd : names.Nodup) (hlen : names.length = ds.length)
    (hkind : ∀ L, ∀ x ∈ names, (callEnvC fd L f).kindOf x = some .local ∨ ((callEnvC fd L f).kindOf x = some .cell ∧ ∃ c, (callEnvC fd L f).cells.lookup x = some c))
    (h : ∀ (A : Around) (L : Addr) (Y : Addr → Prop) (sb s : Shared) (E : Value → Shared → Prop), Ok A n → A.frames = some [callEnvC fd L f] → FS hz (callEnvC fd L f) Y sb [] [] (stoOf names ds) none s →
      wpAny (model prog w) A (execs body (callEnvC fd L f)) (fun fl s' => ∃ v, fl = .ret v ∧ Rep Y s'.heap v d ∧ Kp sb s') E s)
    (hco : fd.scope.isCoroutine = false := by rfl) (hgen : fd.scope.isGenerator = false := by rfl) (hk : fd.scope.kind = .function := by rfl) : FN0 prog w hz (n + 1) f ds d := by
  intro A X s E vs hA hfr hb hX rs
  refine wpAny_call (codeAny_call_cells (by have := hA.depth; omega) (hb _ _ ho) hd (hnl.keeps hb) (hcd.keeps hb) hbody (hbind vs rs.length) hclo (fun x hx => ?_) (fun s₁ x => ?_) hco hgen hk)
  · have hxn : x.1 ∈ names := (List.of_mem_zip hx).1
    rcases hkind s.heap.objs.size x.1 hxn with h1 | ⟨h1, c, hc⟩
    · exact .inl h1
    · exact .inr ⟨h1, Option.isSome_iff_exists.mpr ⟨c, hc⟩⟩
  · refine wpAny_mono (h (A.deeper (callEnvC fd s.heap.objs.size f)) _ X s s₁ _ (hA.deeper _) (by simp [Around.deeper, hfr]) (fs_enter hb hX rs hnd hlen (hkind _) x)) (fun fl s' h' => ?_) fun _ _ e => e
    obtain ⟨v, rfl, r, k⟩ := h'
    exact ⟨r, k⟩
end
end Mine
end

section
open PySem PySem.W PyProof.Rows PySem.Calls
namespace Mine
theorem fmod_nat {x m : Int} (hm : 0 < m) : 0 ≤ x.fmod m ∧ x.fmod m < m := ⟨Int.fmod_nonneg_of_pos x hm, Int.fmod_lt_of_pos x hm⟩
theorem filter_all {α : Type} (l : List α) : l.filter (fun _ => true) = l := by simp
theorem upFrom_get {a : Int} {n i : Nat} {d : PyData} (h : (ils (upFrom a n))[i]? = some d) : i < n ∧ d = .int (a + i) := by
  simp only [List.getElem?_map, upFrom, Option.map_eq_some_iff] at h
  obtain ⟨x, ⟨y, hy, rfl⟩, rfl⟩ := h
  rcases Nat.lt_or_ge i n with h | h
  · rw [List.getElem?_range h] at hy
    cases hy; exact ⟨h, rfl⟩
  · rw [List.getElem?_eq_none (by simpa using h)] at hy; cases hy
theorem stoL_all {l : List (Str × PyData)} {P : Str → PyData → Prop} (h : ∀ p ∈ l, P p.1 p.2) : ∀ y d, stoL l y = some d → P y d := by
  induction l with
  | nil => intro y d e; simp [stoL] at e
  | cons p r ih =>
    intro y d e
    obtain ⟨z, e'⟩ := p
    simp only [stoL, List.lookup_cons] at e
    cases hyz : y == z with
    | true => rw [hyz] at e; cases e; rw [beq_iff_eq.mp hyz]; exact h (z, d) (by simp)
    | false => rw [hyz] at e; exact ih (fun p hp => h p (List.mem_cons_of_mem _ hp)) y d e

section
variable {prog : Program} {w : World} {hz : Heap} {A : Around} {env : Env} {σ : Sto} {mg mb : Str → Option Value}
theorem ev_last_int {value : Expr} {pos p₁ p₂ : Pos} {j : Nat} {ns : List Int} (hv : EV prog w hz A env σ value (.list (ils ns))) (hne : ns ≠ []) :
    EV prog w hz A env σ (.Subscript value (.UnaryOp .USub (.Constant (.int 1) j p₁) p₂) pos) (.int (ns.getD (ns.length - 1) 0)) := by
  have hp : 0 < ns.length := List.length_pos_iff.mpr hne
  refine ev_item_neg hv (ev_neg ev_int) (by omega) (by simp; omega) ?_ (by decide)
  have : (-1 + ((ils ns).length : Int)).toNat = ns.length - 1 := by simp; omega
  rw [this]; exact ils_get (by omega)
/-- a truth value as a test -/
theorem eb_bool {e : Expr} {b : Bool} (h : EV prog w hz A env σ e (.bool b)) (he : isTrue e env (eval e env) = (do let v ← eval e env; standAt e.pos; holding [v] (truthy v)) := by rfl) : EB prog w hz A env σ e b := by
  intro X s E p
  refine wpAny_isTrue_value (h.use p fun v s₁ r k _ => ?_) he
  cases r
  exact wpAny_truthy_bool ⟨rfl, k⟩
/-- a op₁ b op₂ c -/
theorem eb_chain {a b c : Expr} {op₁ op₂ : CmpOp} {pos : Pos} {d₁ d₂ d₃ : PyData} {t u : Bool} (ha : EV prog w hz A env σ a d₁) (hb : EV prog w hz A env σ b d₂) (hc : EV prog w hz A env σ c d₃)
    (ho : Op2 prog w hz A (compareOp op₁) d₁ d₂ (.bool t)) (ho' : Op2 prog w hz A (compareOp op₂) d₂ d₃ (.bool u))
    (hm : lastMarks [op₁, op₂] [b, c] = false := by with_unfolding_all rfl) : EB prog w hz A env σ (.Compare a [op₁, op₂] [b, c] pos) (t && u) := by
  intro X s E p
  refine isTrue_chain (ha.use p fun v s₁ r k p₁ => test_link (hb.use p₁ fun v₂ s₂ r₂ k₂ p₂ => ?_)) hm
  refine wpAny_mono (ho X s₂ E v v₂ p₂.base p₂.live (r.keep k₂.heap) r₂) (fun x s₃ h => ?_) fun _ _ e => e
  obtain ⟨h1, k₃⟩ := h
  cases h1
  refine wpAny_truthy_bool ?_
  cases t
  · exact ⟨rfl, (k.trans k₂).trans k₃⟩
  · refine test_last (hc.use (p₂.kp k₃) fun v₃ s₄ r₄ k₄ p₄ => ?_)
    refine wpAny_mono (ho' X s₄ E v₂ v₃ p₄.base p₄.live ((r₂.keep k₃.heap).keep k₄.heap) r₄) (fun x s₅ h => ?_) fun _ _ e => e
    obtain ⟨h1, k₅⟩ := h
    cases h1
    exact wpAny_truthy_bool ⟨by simp, ((k.trans k₂).trans k₃).trans (k₄.trans k₅)⟩

theorem call_sum {ns : List Int} (hh : A.handled = none) (X : Addr → Prop) (s : Shared) (E : Value → Shared → Prop) (v : Value) (r : Rep X s.heap v (.list (ils ns))) :
    wpAny (model prog w) A (call (.builtin "sum") [v]) (fun v s' => Rep X s'.heap v (.int ns.sum) ∧ Kp s s') E s := by
  obtain ⟨a, vs, rfl, hl, _, rs⟩ := r.isList
  have hi := rs.intsAre
  obtain ⟨xs, e⟩ := hi.allInts.items
  have e' : vs = intItems xs := by rw [← e]
  rw [e'] at hl
  refine sum_intListG hh hl fun h' tk t' hk => ?_
  have hn := hi.numsOf
  rw [show vs.toList = (intItems xs).toList by rw [e'], nums_intItems] at hn
  rw [preSum_eq, List.take_of_length_le (by simp), hn]
  exact ⟨.int _ _, .ht hk⟩
theorem ev_sum {x : Str} {np pos : Pos} {e : Expr} {ns : List Int} (G : Gl hz mg mb) (hh : A.handled = none) (he : EV prog w hz A env σ e (.list (ils ns))) (hv : mg x = none) (hb : mb x = some (.builtin "sum"))
    (hk : env.scope.kind = .function := by rfl) (hx : env.kindOf x = some .globalImplicit := by rfl) (hg : env.globals = mainGlobals := by rfl) (hbn : env.builtins = builtinsNs := by rfl) (hd : (x == ("__debug__" : Str)) = false := by decide)
    (hse : starEach [e] env = (false, eval e env) :: starEach [] env := by rfl) :
    EV prog w hz A env σ (.Call (.Name x np) [e] [] pos) (.int ns.sum) :=
  ev_builtin1 G he hv hb (fun X s E v _ _ r => call_sum hh X s E v r) hk hx hg hbn hd hse
end

section
variable {hz : Heap} {env : Env} {Y : Addr → Prop} {sb s s' : Shared} {pr : List (Addr × Obj)} {pg : List (Nat × GenState)} {σ : Sto} {own : Own}
variable {prog : Program} {w : World} {A : Around} {E : Value → Shared → Prop} {Q : Flow → Shared → Prop}
theorem mapSeq_list (f : Array Value → Array Value) (its : Array Value) (n : Nat) : ∃ k, Obj.mapSeq f { cls := .type "list", data := .seq its n } = { cls := .type "list", data := .seq (f its) k } := ⟨_, rfl⟩
theorem plain_update {h : Heap} {a : Addr} {vs : Array Value} {n : Nat} (f : Array Value → Array Value) (e : h.get? a = some { cls := .type "list", data := .seq vs n }) : (h.update a (Obj.mapSeq f)).PlainList a (f vs) := by
  obtain ⟨k, hk⟩ := mapSeq_list f vs n
  exact ⟨k, by rw [Heap.get?_update_self _ e (by rw [hk]; rfl), hk]⟩

theorem ex_extend {x : Str} {e : Expr} {np apos pos spos : Pos} {rest : List Stmt} {ds es : List PyData} (F : FS hz env Y sb pr pg σ (some (x, ds)) s) (he : EVF prog w hz A env σ e es)
    (k : ∀ s', FS hz env Y sb pr pg σ (some (x, ds ++ es)) s' → wpAny (model prog w) A (execs rest env) Q E s') (hn : ds.length + es.length ≤ sizeLine)
    (hk : env.scope.kind = .function := by rfl) (hd : (x == ("__debug__" : Str)) = false := by decide) (hcd : (x == ("__classdict__" : Str)) = false := by decide)
    (hbase : attributeBase (.Name x np) "extend" env (eval (.Name x np) env) = eval (.Name x np) env := by rfl)
    (hline : (apos.endLine == pos.line) = true := by rfl) (hse : backTo pos (starEach [e] env) = [(false, eval e env)] := by rfl)
    (hi : interactive env = false := by rfl) (hsw : swapsWith (.Call (.Attribute (.Name x np) "extend" apos) [e] [] pos) none spos.line env = pure false := by rfl) :
    wpAny (model prog w) A (execs (.Expr (.Call (.Attribute (.Name x np) "extend" apos) [e] [] pos) spos :: rest) env) Q E s := by
  obtain ⟨W, F⟩ := F
  obtain ⟨a, vs, l, pl, rs, hw, hal, hac⟩ := F.own x ds rfl
  obtain ⟨n, pe⟩ := id pl
  refine wpAny_execs_cons (wpAny_Expr_any (wpAny_Call_method1_late hbase hline hse (load_own l ?_ hk hd hcd)) hi hsw)
  refine ⟨"list", "list.extend", PySem.F.plainAttrs_list, PySem.F.slot_list_extend, PySem.F.type_list_extend, ⟨_, pe, rfl⟩, fun b e => by cases e; exact ⟨_, pe, rfl⟩, ?_⟩
  refine Calls.callWith_builtin rfl (Calls.evalArgs_plain (Calls.spliced_cons (wpAny_mono (he _ s E F.pre) (fun v s₁ h => Calls.spliced_nil ?_) fun _ _ e => e)))
  obtain ⟨b, us, rfl, hf, hp, rs', k₁⟩ := h
  obtain ⟨n', pe'⟩ := id hp
  have l1 := rs.length; have l2 := rs'.length
  have hsz : vs.size + us.size ≤ sizeLine := by simpa [← l1, ← l2] using hn
  have hS : sizeLine = 16777216 := rfl
  have pe1 := k₁.heap _ _ pe
  refine call_meets PySem.F.slot_list_extend ⟨_, pe1, rfl⟩ PySem.F.entry_list_extend (PySem.F.args_list_extend_2 _ _) (PySem.AutoSeq1.list_extend_list_list_0 a vs n b us n' ?_ (by omega) (by omega)) ⟨pe1, pe', ?_⟩
  · unfold Builtin.List.listTooLong
    simp
    intro _
    omega
  refine k _ ⟨W, (F.kpd k₁).changed (l.keep k₁.heap) hw hal hac (Heap.SameBut.update ..) (plain_update _ pe1) ?_⟩
  simpa using (rs.keep k₁.heap).append (rs'.less fun b h => .inl h)

theorem ex_pop {x : Str} {np apos pos spos : Pos} {rest : List Stmt} {ds : List PyData} (F : FS hz env Y sb pr pg σ (some (x, ds)) s) (hne : ds ≠ [])
    (k : ∀ s', FS hz env Y sb pr pg σ (some (x, ds.take (ds.length - 1))) s' → wpAny (model prog w) A (execs rest env) Q E s') (hn : ds.length ≤ sizeLine)
    (hk : env.scope.kind = .function := by rfl) (hd : (x == ("__debug__" : Str)) = false := by decide) (hcd : (x == ("__classdict__" : Str)) = false := by decide)
    (hbase : attributeBase (.Name x np) "pop" env (eval (.Name x np) env) = eval (.Name x np) env := by rfl)
    (hline : (apos.endLine == pos.line) = true := by rfl)
    (hi : interactive env = false := by rfl) (hsw : swapsWith (.Call (.Attribute (.Name x np) "pop" apos) [] [] pos) none spos.line env = pure false := by rfl) :
    wpAny (model prog w) A (execs (.Expr (.Call (.Attribute (.Name x np) "pop" apos) [] [] pos) spos :: rest) env) Q E s := by
  obtain ⟨W, F⟩ := F
  obtain ⟨a, vs, l, pl, rs, hw, hal, hac⟩ := F.own x ds rfl
  obtain ⟨n, pe⟩ := id pl
  refine wpAny_execs_cons (wpAny_Expr_any (wpAny_Call_method0_late hbase hline (load_own l ?_ hk hd hcd)) hi hsw)
  refine ⟨"list", "list.pop", PySem.F.plainAttrs_list, PySem.F.slot_list_pop, PySem.F.type_list_pop, ⟨_, pe, rfl⟩, fun b e => by cases e; exact ⟨_, pe, rfl⟩, ?_⟩
  refine Calls.callWith_builtin rfl (PySem.evalArgs_none ?_)
  have l1 := rs.length
  have hlen : vs.size = ds.length := by simpa using l1
  have hpos : 0 < ds.length := List.length_pos_iff.mpr hne
  obtain ⟨y, hy⟩ : ∃ y, vs[vs.size - 1]? = some y := ⟨vs[vs.size - 1]'(by omega), by simp⟩
  refine call_meets PySem.F.slot_list_pop ⟨_, pe, rfl⟩ PySem.F.entry_list_pop (PySem.F.args_list_pop_1 _) (PySem.MeetsSeq.list_pop_last a vs n y hy (by omega)) ⟨pe, ?_⟩
  refine k _ ⟨W, F.changed l hw hal hac (Heap.SameBut.update ..) (plain_update _ pe) ?_⟩
  have e : (vs.eraseIdxIfInBounds (vs.size - 1)).toList = vs.toList.take (ds.length - 1) := by
    rw [Array.eraseIdxIfInBounds_eq]
    rw [dif_pos (by omega)]
    rw [Array.toList_eraseIdx, hlen]
    rw [List.eraseIdx_eq_take_drop_succ]
    rw [List.drop_eq_nil_of_le (by simp; omega)]; simp
  rw [e]
  exact rs.take _

/-- the same as ex_own, where the name meant something before -/
theorem ex_own' {x : Str} {e : Expr} {p₁ p₂ : Pos} {rest : List Stmt} {ds : List PyData} (F : FS hz env Y sb pr pg σ none s) (he : EVF prog w hz A env σ e ds)
    (k : ∀ s', FS hz env Y sb pr pg (σ.del x) (some (x, ds)) s' → wpAny (model prog w) A (execs rest env) Q E s')
    (hs : Stores env x)
    (hsw : swapsWith e (some (.Name x p₁)) p₂.line env = pure false := by rfl) : wpAny (model prog w) A (execs (.Assign [.Name x p₁] e p₂ :: rest) env) Q E s := by
  obtain ⟨W, F⟩ := F
  refine wpAny_execs_cons (wpAny_Assign_Name (wpAny_mono (he _ s E F.pre) (fun v s₁ h => ?_) fun _ _ e => e) hsw)
  obtain ⟨a, vs, rfl, hf, hp, rs, k₁⟩ := h
  have hba : ∀ b, Live s.heap b → b ≠ a := fun b ⟨o, e⟩ h => by subst h; rw [hf] at e; cases e
  have hsb : sb.heap.get? a = none := by
    cases hq : sb.heap.get? a with
    | none => rfl
    | some o =>
      by_cases hw : W a
      · exact ((hba a (F.wnew a hw).2.2.1) rfl).elim
      · exact ((hba a ⟨o, F.kp.heap a o hw hq⟩) rfl).elim
  have hzf : hz.get? a = none := by
    cases hq : hz.get? a with
    | none => rfl
    | some o => exact ((hba a ⟨o, F.base a o hq⟩) rfl).elim
  have hal : a ≠ env.locals := fun h => hba a (h ▸ (F.wnew _ F.wl).2.2.1) rfl
  have hac : ∀ y c, env.cells.lookup y = some c → c ≠ a := fun y c e => hba c (F.wnew _ (F.wc y c e).1).2.2.1
  have G : FSW hz env Y sb pr pg (fun b => W b ∨ b = a) σ none s₁ := F.grow (a := a) (by obtain ⟨n, e⟩ := hp; exact ⟨_, e⟩) hf k₁ hsb hzf
  refine G.store (by intro _ _ e; cases e) hs.kind hs.nocell hs.fn fun s' t G' l ht hsb' hk' => k s' ⟨fun b => W b ∨ b = a, ?_⟩
  have hat : a ≠ t := by
    rcases ht with rfl | hc
    · exact hal
    · exact fun h => hac _ _ hc h.symm
  refine G'.addOwn l (hp.at fun o e => (hsb'.2 a hat).trans e) (rs.keepW (Y := fun b => Y b ∨ (W b ∨ b = a)) (fun b o n e => hk' b o (fun h => n (h.elim (fun h => .inl (.inr h)) .inr)) e) fun b h => ?_) (.inr rfl) hal hac
  rcases h with h | h | h
  · exact .inl (.inl h)
  · exact .inl (.inr h)
  · exact .inr h
end
end Mine
end

section
open PySem PySem.W PyProof.Rows PySem.Calls
namespace Mine
section
variable {prog : Program} {w : World} {hz : Heap} {A : Around} {env : Env} {σ : Sto} {mg mb : Str → Option Value} {outer : List Env} {L : Addr}
/-- the expression e raises a ValueError -/
def XV (prog : Program) (w : World) (hz : Heap) (A : Around) (env : Env) (outer : List Env) (σ : Sto) (e : Expr) : Prop :=
  ∀ (X : Addr → Prop) (s : Shared) (E : Value → Shared → Prop) (Q : Value → Shared → Prop), Pre hz env X σ s → s.heap.FunFrames hz (env :: outer) →
    (∀ x sm s', Kp s sm → Fly hz (env :: outer) ((env :: outer).filterMap (·.frame)) sm s' x .none → E (.ref x) s') → wpAny (model prog w) A (eval e env) Q E s
theorem xv_call {x : Str} {np pos : Pos} {e : Expr} {es : List Expr} {f : Addr} {o : Obj} {fd : FuncData} {n : Nat} {ds : List PyData} (G : Gl hz mg mb) (hv : mg x = some (.ref f)) (ho : hz.get? f = some o) (hdat : o.data = .func fd)
    (he : EVs prog w hz A env σ (e :: es) ds) (hf : FNX prog w hz n f ds) (hA : Ok A n) (hfr : A.frames = some (env :: outer))
    (hk : env.scope.kind = .function := by rfl) (hx : env.kindOf x = some .globalImplicit := by rfl) (hg : env.globals = mainGlobals := by rfl) (hd : (x == ("__debug__" : Str)) = false := by decide)
    (hse : starEach (e :: es) env = (false, eval e env) :: starEach es env := by rfl) :
    XV prog w hz A env outer σ (.Call (.Name x np) (e :: es) [] pos) := by
  intro X s E Q p hff hE
  refine Call_ (glob_name G p hv (callWith_def hdat (he.use p fun vs s₁ rs k p₁ => ⟨p₁.base _ _ ho, ?_⟩) hse) hk hx hg hd)
  exact hf A X s₁ E Q vs (env :: outer) hA hfr (funs_kf (fr := []) k.kf hff) p₁.base p₁.live rs fun y s' F => hE y s₁ s' k F
/-- its first argument raises -/
theorem xv_arg {x : Str} {np pos : Pos} {e : Expr} {es : List Expr} {f : Addr} {o : Obj} {fd : FuncData} (G : Gl hz mg mb) (hv : mg x = some (.ref f)) (hdat : o.data = .func fd)
    (he : XV prog w hz A env outer σ e)
    (hk : env.scope.kind = .function := by rfl) (hx : env.kindOf x = some .globalImplicit := by rfl) (hg : env.globals = mainGlobals := by rfl) (hd : (x == ("__debug__" : Str)) = false := by decide)
    (hse : starEach (e :: es) env = (false, eval e env) :: starEach es env := by rfl) :
    XV prog w hz A env outer σ (.Call (.Name x np) (e :: es) [] pos) := by
  intro X s E Q p hff hE
  exact Call_ (glob_name G p hv (callWith_def (o := o) hdat (wpAny_items_cons (he X s E _ p hff hE) hse) hse) hk hx hg hd)

variable {Y : Addr → Prop} {sb s : Shared} {pr : List (Addr × Obj)} {pg : List (Nat × GenState)} {own : Own} {E : Value → Shared → Prop} {Q : Flow → Shared → Prop}
theorem ex_assign_xv {e : Expr} {p₁ p₂ : Pos} {x : Str} {rest : List Stmt} (F : FS hz env Y sb pr pg σ own s) (he : XV prog w hz A env outer σ e) (hfe : env.frame = some env.locals) (hk : env.scope.kind = .function) (ho : sb.heap.FunFrames hz outer)
    (hE : ∀ y sm s', FS hz env Y sb pr pg σ own sm → Fly hz (env :: outer) ((env :: outer).filterMap (·.frame)) sm s' y .none → E (.ref y) s')
    (hsw : swapsWith e (some (.Name x p₁)) p₂.line env = pure false := by rfl) : wpAny (model prog w) A (execs (.Assign [.Name x p₁] e p₂ :: rest) env) Q E s := by
  have hff := F.frames hk hfe ho
  obtain ⟨X, _, P⟩ := F.pre
  exact wpAny_execs_cons (wpAny_Assign_Name (he X s E _ P hff fun y sm s' k Fl => hE y sm s' (F.kpd k) Fl) hsw)

/-- try: .. except ValueError: .., where the body raises it -/
theorem ex_try_x {body rest suite : List Stmt} {b₀ : Stmt} {pos hp np : Pos} (G : Gl hz mg mb) (hve : mg "ValueError" = none) (hvb : mb "ValueError" = some (.type "ValueError")) (hfe : env.frame = some env.locals) (hfr : A.frames = some [env])
    (hb : ∀ (E' : Value → Shared → Prop) (Q' : Flow → Shared → Prop), (∀ e sm s' fl, (fl = .none ∨ fl = rawInt env.locals) → FS hz env Y sb pr pg σ own sm → Fly hz [env] [env.locals] sm s' e fl → E' (.ref e) s') → wpAny (model prog w) A (execs body env) Q' E' s)
    (hs : ∀ e s' E', FS hz env Y sb pr pg σ own s' → wpAny (model prog w) (A.mark (some (.ref e))) (execs (b₀ :: suite) env) (fun f s₁ => match f with | .next => wpAny (model prog w) A (execs rest env) Q E s₁ | f => Q f s₁) E' s')
    (hk : env.scope.kind = .function := by rfl) (hx : env.kindOf "ValueError" = some .globalImplicit := by rfl) (hg : env.globals = mainGlobals := by rfl) (hbn : env.builtins = builtinsNs := by rfl) :
    wpAny (model prog w) A (execs (.Try body [.ExceptHandler (some (.Name "ValueError" np)) none (b₀ :: suite) hp] [] [] pos :: rest) env) Q E s := by
  refine wpAny_execs_cons (wpAny_Try_except (hb _ _ fun e sm s' fl hfl F0 Fl => ?_))
  have rest' : ∀ s', Fly hz [env] [env.locals] sm s' e (rawInt env.locals) → wpAny (model prog w) A (setFlight (.ref e) none) (fun _ s₃ => wpAny (model prog w) A (handleBy (.ref e) env [.ExceptHandler (some (.Name "ValueError" np)) none (b₀ :: suite) hp])
      (fun f s₁ => match f with | .next => wpAny (model prog w) A (execs rest env) Q E s₁ | f => Q f s₁) E s₃) E s' := by
    intro s' F
    refine fly_set (fo := none) F fun s₁ F₁ => ?_
    have P1 : Pre hz env (fun _ => False) (fun _ => none) s₁ := ⟨F₁.base, fun _ h => h.elim, fun _ _ e => by cases e⟩
    refine wpAny_handleBy_builtin (X := "ValueError") (T := "ValueError") (b := true) PySem.F.isExc_ValueError PySem.F.notTuple_ValueError PySem.F.self_ValueError (built_name G P1 hve hvb ⟨rfl, ?_, ?_⟩ hk hx hg hbn)
    · obtain ⟨oe, vs, T, oT, ts, he, hc, _⟩ := F₁.exc
      exact ⟨oe, he, hc⟩
    rw [if_pos rfl]
    refine fly_set (fo := none) F₁ fun s₂ F₂ => hs e s₂ _ ?_
    obtain ⟨W, F0⟩ := F0
    exact ⟨W, F0.kpf F₂.kf⟩
  rcases hfl with rfl | rfl
  · exact fly_next hfr hfe Fl fun s₁ F₁ => rest' s₁ F₁
  · exact fly_same Fl hfe (rest' _ Fl)

/-- a loop whose first turn raises -/
theorem ex_for_x {x : Str} {px pos : Pos} {iter : Expr} {body rest : List Stmt} {ds : List PyData} {d : PyData} (F : FS hz env Y sb pr pg σ own s) (hit : IT prog w hz A env σ iter ds) (hd : ds[0]? = some d) (hfe : env.frame = some env.locals) (hfr : A.frames = some [env])
    (turn : ∀ Y' pr' s (E' : Value → Shared → Prop) (Q' : Flow → Shared → Prop), FS hz env Y' sb pr' pg (σ.set x d) own s → (∀ e sm s', FS hz env Y' sb pr' pg (σ.set x d) own sm → Fly hz [env] [env.locals] sm s' e .none → E' (.ref e) s') → wpAny (model prog w) A (execs body env) Q' E' s)
    (hE : ∀ e sm s', FS hz env Y sb pr pg (σ.set x d) own sm → Fly hz [env] [env.locals] sm s' e (rawInt env.locals) → E (.ref e) s')
    (hown : ∀ y es, own = some (y, es) → y ≠ x) (hs : Stores env x)
    (hfs : ∀ v, foldedSetIterable iter env v = pure v := by intro _; rfl) :
    wpAny (model prog w) A (execs (.For (.Name x px) iter body [] pos :: rest) env) Q E s := by
  obtain ⟨W, F⟩ := F
  refine wpAny_execs_cons (wpAny_For (wpAny_mono (hit _ s E F.pre) (fun v s₁ h₁ => wpAny_mono h₁ (fun it s₂ h₂ => ?_) fun _ _ e => e) fun _ _ e => e) hfs)
  obtain ⟨I, fp, wr, P, St, l, rfl, Wk, hst, hfl, hwr, hfX, hl1, hl2, k₂⟩ := h₂
  have hwf : ∀ b ∈ wr, b ∈ fp := Wk.sub
  have hnew : ∀ b ∈ wr, hz.get? b = none ∧ sb.heap.get? b = none := fun b hb => by
    constructor
    · cases hq : hz.get? b with
      | none => rfl
      | some o => have := hwr b hb; rw [F.base b o hq] at this; cases this
    · cases hq : sb.heap.get? b with
      | none => rfl
      | some o =>
        by_cases hw : W b
        · have := (F.wnew b hw).2.2.2; rw [hq] at this; cases this
        · have := hwr b hb; rw [F.kp.heap b o hw hq] at this; cases this
  have F2 : FSW hz env (fun b => Y b ∨ b ∈ wr) sb (protOf s₂.heap fp ++ (l ++ pr)) pg W σ own s₂ := by
    refine FSW.addPr (FSW.addPr (F.moreY k₂ hwr fun b hb => hfl 0 _ hst b (hwf b hb)) fun p hp => ⟨(hl1 p hp).1, fun h => (hl1 p hp).2.1 (.inr h)⟩) fun p hp => ?_
    obtain ⟨h1, h2⟩ := mem_protOf.mp hp
    exact ⟨h2, fun h => hfX _ h1 (.inr h)⟩
  have hprw : ∀ p ∈ l ++ pr, p.1 ∉ wr := fun p hp hw => by
    rcases List.mem_append.mp hp with hp | hp
    · exact (hl1 p hp).2.2 hw
    · have := hwr _ hw; rw [(F.prot p hp).1] at this; cases this
  have back : ∀ {q : List (Addr × Obj)} {σ' own' s'}, FS hz env (fun b => Y b ∨ b ∈ wr) sb (q ++ (l ++ pr)) pg σ' own' s' → FS hz env Y sb pr pg σ' own' s' := fun G =>
    (G.lessY fun a h => .inl h).lessPr fun p hp => List.mem_append_right _ (List.mem_append_right _ hp)
  refine codeAny_forLoop (fun _ s => s = s₂) (fun n s h => ?_) 0 rfl
  subst h
  have hlt : 0 < ds.length := by
    rcases Nat.eq_zero_or_pos ds.length with h | h
    · rw [List.length_eq_zero_iff.mp h] at hd; cases hd
    · exact h
  refine Wk.item 0 s _ _ hlt hst fun v h' tk hPv hst' hk' => ?_
  have G1 : FSW hz env (fun b => Y b ∨ b ∈ wr) sb (protOf h' fp ++ (l ++ pr)) pg W σ own { s with heap := h', toks := tk } := by
    refine F2.moved hk' (fun b hb => .inr hb) hnew (fun b hb => hfl _ _ hst' b (hwf b hb)) hprw fun p hp => ?_
    obtain ⟨h1, h2⟩ := mem_protOf.mp hp
    obtain ⟨o, ho⟩ := hfl _ _ hst p.1 h1
    exact ⟨h2, (p.1, o), mem_protOf.mpr ⟨h1, ho⟩, rfl⟩
  have rv : Rep (fun a => (Y a ∨ a ∈ wr) ∨ W a) h' v d := hl2 0 v d hPv hd _ _ fun p hp => by
    obtain ⟨e, nw⟩ := G1.prot p (List.mem_append_right _ (List.mem_append_left _ hp))
    refine ⟨e, fun h => ?_⟩
    rcases h with (h | h) | h
    · exact (hl1 p hp).2.1 (.inl h)
    · exact (hl1 p hp).2.2 h
    · exact nw h
  refine wpAny_assign_Name (ex_store G1 rv hs hown fun s₃ G3 => ?_)
  refine turn _ _ s₃ _ _ G3 fun e sm s' Fm Fl => ?_
  exact fly_next hfr hfe Fl fun s₄ F4 => fly_back F4 hfe fun s₅ F5 => hE e sm s₅ (back Fm) F5
end
end Mine
end

section
open PySem PySem.W PyProof.Rows PySem.Calls
namespace Mine
/-- is there an i-th size? -/
def on (row : List Int) (i : Nat) : Prop := inf row = true ∨ i < hds row
/-- the sum of the first i sizes -/
def pl (row : List Int) : Nat → Nat
  | 0 => 0
  | i + 1 => pl row i + (yv row i).toNat
/-- sizes as they ought to be -/
structure Sane (row : List Int) : Prop where
  pos : ∀ j, j < hds row → 1 ≤ row.getD j 0
  nr : hds row = 0 → inf row = false
theorem Sane.yv {row : List Int} (h : Sane row) {i : Nat} (hi : on row i) : 1 ≤ yv row i := by
  unfold Mine.yv
  split
  · rename_i hlt; exact h.pos i hlt
  · rename_i hge
    rcases hi with hi | hi
    · have : 0 < hds row := by
        rcases Nat.eq_zero_or_pos (hds row) with h0 | h0
        · have := h.nr h0; rw [hi] at this; cases this
        · exact h0
      exact h.pos _ (by omega)
    · exact absurd hi hge
theorem on_down {row : List Int} {i j : Nat} (h : on row j) (hij : i ≤ j) : on row i := h.imp id (by omega)
theorem pl_succ {row : List Int} (h : Sane row) {i : Nat} (hi : on row i) : ((pl row (i + 1) : Nat) : Int) = pl row i + yv row i := by
  have := h.yv hi
  simp only [pl]; omega
theorem pl_lt {row : List Int} (h : Sane row) {i : Nat} (hi : on row i) : pl row i < pl row (i + 1) := by
  have := h.yv hi
  simp only [pl]; omega
theorem pl_mono (row : List Int) {i j : Nat} (hij : i ≤ j) : pl row i ≤ pl row j := by
  induction j with
  | zero => have : i = 0 := by omega
            subst this; exact Nat.le_refl _
  | succ j ih =>
    by_cases e : i = j + 1
    · subst e; exact Nat.le_refl _
    · have := ih (by omega)
      simp only [pl]; omega
theorem pl_lts {row : List Int} (h : Sane row) {i j : Nat} (hij : i < j) (hi : on row i) : pl row i < pl row j := by
  have h1 := pl_lt h hi
  have h2 := pl_mono row (i := i + 1) (j := j) hij
  omega
theorem pl_ge {row : List Int} (h : Sane row) : ∀ {i : Nat}, (∀ j, j < i → on row j) → i ≤ pl row i
  | 0, _ => Nat.zero_le _
  | i + 1, hi => by
    have h1 := pl_ge h (i := i) fun j hj => hi j (by omega)
    have h2 := pl_lt h (hi i (by omega))
    omega
theorem pl_take' {row : List Int} (h : ∀ j, j < hds row → 1 ≤ row.getD j 0) : ∀ k, k ≤ hds row → (row.take k).sum = (pl row k : Int)
  | 0, _ => by simp [pl]
  | k + 1, hk => by
    have ih := pl_take' h k (by omega)
    have hl := hds_le row
    have hlt : k < row.length := by omega
    have h1 := h k (by omega)
    have hy : yv row k = row.getD k 0 := by unfold yv; rw [if_pos (by omega)]
    have e : ((pl row (k + 1) : Nat) : Int) = pl row k + yv row k := by simp only [pl]; omega
    rw [e, ← ih, List.take_add_one, List.sum_append, hy]
    simp [hlt]
theorem pl_take {row : List Int} (h : Sane row) : ∀ k, k ≤ hds row → (row.take k).sum = (pl row k : Int) := pl_take' h.pos
theorem pl_far {row : List Int} (h : Sane row) (hi : inf row = true) : ∀ j, (pl row (hds row + j) : Int) = pl row (hds row) + j * row.getD (hds row - 1) 0
  | 0 => by simp
  | j + 1 => by
    have ih := pl_far h hi j
    rw [← Nat.add_assoc, pl_succ h (.inl hi), ih]
    have : yv row (hds row + j) = row.getD (hds row - 1) 0 := by unfold yv; rw [if_neg (by omega)]
    rw [this]
    have : ((j + 1 : Nat) : Int) * row.getD (hds row - 1) 0 = j * row.getD (hds row - 1) 0 + row.getD (hds row - 1) 0 := by
      push_cast; rw [Int.add_mul, Int.one_mul]
    omega

theorem least (Q : Nat → Prop) (N : Nat) (h : ¬ Q N) : ∃ m, (∀ i, i < m → Q i) ∧ ¬ Q m := by
  induction N using Nat.strongRecOn with
  | _ N ih =>
    by_cases hq : ∃ k, k < N ∧ ¬ Q k
    · obtain ⟨k, hk, hn⟩ := hq; exact ih k hk hn
    · refine ⟨N, fun i hi => ?_, h⟩
      by_cases hQ : Q i
      · exact hQ
      · exact absurd ⟨i, hi, hQ⟩ hq
theorem exists_m {row : List Int} (h : Sane row) (n : Nat) : ∃ m, (∀ i, i < m → on row i ∧ pl row (i + 1) < n) ∧ ¬ (on row m ∧ pl row (m + 1) < n) := by
  refine least _ n fun ⟨h1, h2⟩ => ?_
  have := pl_ge h (i := n + 1) fun j hj => on_down h1 (by omega)
  omega

theorem sorted_ext : ∀ {l l' : List Int}, l.Pairwise (· < ·) → l'.Pairwise (· < ·) → (∀ x, x ∈ l ↔ x ∈ l') → l = l'
  | [], [], _, _, _ => rfl
  | [], b :: r, _, _, h => absurd ((h b).mpr (by simp)) (by simp)
  | a :: r, [], _, _, h => absurd ((h a).mp (by simp)) (by simp)
  | a :: r, b :: r', p, p', h => by
    obtain ⟨p1, p2⟩ := List.pairwise_cons.mp p
    obtain ⟨q1, q2⟩ := List.pairwise_cons.mp p'
    have hab : a = b := by
      have h1 := (h a).mp (by simp)
      have h2 := (h b).mpr (by simp)
      rcases List.mem_cons.mp h1 with e | h1
      · exact e
      · rcases List.mem_cons.mp h2 with e | h2
        · exact e.symm
        · have := p1 _ h2; have := q1 _ h1; omega
    subst hab
    rw [sorted_ext p2 q2 fun x => ⟨fun hx => ?_, fun hx => ?_⟩]
    · have := (h x).mp (List.mem_cons_of_mem _ hx)
      rcases List.mem_cons.mp this with e | this
      · have := p1 _ hx; omega
      · exact this
    · have := (h x).mpr (List.mem_cons_of_mem _ hx)
      rcases List.mem_cons.mp this with e | this
      · have := q1 _ hx; omega
      · exact this

theorem upFrom_sorted (a : Int) (n : Nat) : (upFrom a n).Pairwise (· < ·) := by
  unfold upFrom
  rw [List.pairwise_map]
  exact List.pairwise_lt_range.imp (by intro x y h; omega)
theorem mem_upFrom {a : Int} {n : Nat} {x : Int} : x ∈ upFrom a n ↔ a ≤ x ∧ x < a + n := by
  simp only [upFrom, List.mem_map, List.mem_range]
  constructor
  · rintro ⟨y, hy, rfl⟩; omega
  · rintro ⟨h1, h2⟩; exact ⟨(x - a).toNat, by omega, by omega⟩

def basePl (row : List Int) : List Int := (upFrom 0 (hds row)).map fun k => (row.take (k + 1).toNat).sum
def extPl (row : List Int) (bound : Int) : List Int :=
  if 0 < hds row ∧ inf row = true then (upFrom ((row.take (hds row)).sum + 1) (bound - ((row.take (hds row)).sum + 1)).toNat).filter (fun p => (p - (row.take (hds row)).sum).fmod (row.getD (hds row - 1) 0) == 0) else []
/-- the places below bound -/
def placesR (row : List Int) (bound : Int) : List Int := (basePl row ++ extPl row bound).filter (fun p => decide (p < bound))

theorem basePl_eq {row : List Int} (h : Sane row) : basePl row = (List.range (hds row)).map fun i => (pl row (i + 1) : Int) := by
  unfold basePl upFrom
  rw [List.map_map]
  apply List.map_congr_left
  intro k hk
  have hk := List.mem_range.mp hk
  simp only [Function.comp]
  have : ((0 : Int) + (k : Int) + 1).toNat = k + 1 := by omega
  rw [this, pl_take h _ (by omega)]

theorem mem_ext {row : List Int} (h : Sane row) {n : Nat} {x : Int} : x ∈ extPl row n ↔ x < n ∧ inf row = true ∧ ∃ i, hds row ≤ i ∧ x = pl row (i + 1) := by
  unfold extPl
  rw [pl_take h _ (Nat.le_refl _)]
  split
  · rename_i hc
    obtain ⟨h0, hinf⟩ := hc
    have hs := h.pos (hds row - 1) (by omega)
    simp only [List.mem_filter, mem_upFrom, beq_iff_eq]
    constructor
    · rintro ⟨⟨h1, h2⟩, h3⟩
      refine ⟨by omega, hinf, ?_⟩
      rw [Int.fmod_eq_emod_of_nonneg _ (by omega)] at h3
      obtain ⟨q, hq⟩ := Int.dvd_of_emod_eq_zero h3
      have hq0 : 0 < q := by
        rcases Int.lt_or_le 0 q with h | h
        · exact h
        · have := Int.mul_nonpos_of_nonneg_of_nonpos (show 0 ≤ row.getD (hds row - 1) 0 by omega) h
          omega
      refine ⟨hds row + (q.toNat - 1), by omega, ?_⟩
      have e : hds row + (q.toNat - 1) + 1 = hds row + q.toNat := by omega
      rw [e, pl_far h hinf]
      have : (q.toNat : Int) = q := by omega
      rw [this, Int.mul_comm]; omega
    · rintro ⟨h1, _, i, hi, rfl⟩
      obtain ⟨j, rfl⟩ : ∃ j, i = hds row + j := ⟨i - hds row, by omega⟩
      have e := pl_far h hinf (j + 1)
      rw [← Nat.add_assoc] at e
      have hlt := pl_lts h (i := hds row) (j := hds row + j + 1) (by omega) (.inl hinf)
      refine ⟨⟨by omega, by omega⟩, ?_⟩
      rw [e]
      have : (pl row (hds row) : Int) + ((j + 1 : Nat) : Int) * row.getD (hds row - 1) 0 - pl row (hds row) = ((j + 1 : Nat) : Int) * row.getD (hds row - 1) 0 := by omega
      rw [this, Int.fmod_eq_emod_of_nonneg _ (by omega), Int.mul_emod_left]
  · rename_i hc
    constructor
    · intro h; cases h
    · rintro ⟨_, hinf, _⟩
      refine absurd ⟨?_, hinf⟩ hc
      rcases Nat.eq_zero_or_pos (hds row) with h0 | h0
      · have := h.nr h0; rw [hinf] at this; cases this
      · exact h0

theorem mem_places {row : List Int} (h : Sane row) {n : Nat} {x : Int} : x ∈ placesR row n ↔ x < n ∧ ∃ i, on row i ∧ x = pl row (i + 1) := by
  unfold placesR
  rw [List.mem_filter, List.mem_append, mem_ext h, basePl_eq h]
  simp only [List.mem_map, List.mem_range, decide_eq_true_eq]
  constructor
  · rintro ⟨⟨i, hi, rfl⟩ | ⟨_, hinf, i, hi, rfl⟩, hx⟩
    · exact ⟨hx, i, .inr hi, rfl⟩
    · exact ⟨hx, i, .inl hinf, rfl⟩
  · rintro ⟨hx, i, hi, rfl⟩
    refine ⟨?_, hx⟩
    by_cases hlt : i < hds row
    · exact .inl ⟨i, hlt, rfl⟩
    · exact .inr ⟨hx, hi.resolve_right hlt, i, by omega, rfl⟩
theorem places_sorted {row : List Int} (h : Sane row) (n : Nat) : (placesR row n).Pairwise (· < ·) := by
  unfold placesR
  apply List.Pairwise.filter
  rw [List.pairwise_append, basePl_eq h]
  refine ⟨?_, ?_, ?_⟩
  · rw [List.pairwise_map]
    refine List.Pairwise.imp_of_mem (l := List.range (hds row)) (fun {x y} hx hy hxy => ?_) List.pairwise_lt_range
    have := pl_lts h (i := x + 1) (j := y + 1) (by omega) (.inr (by have := List.mem_range.mp hy; omega))
    omega
  · unfold extPl
    split
    · exact (upFrom_sorted _ _).filter _
    · exact List.Pairwise.nil
  · intro a ha b hb
    obtain ⟨i, hi, rfl⟩ := List.mem_map.mp ha
    obtain ⟨_, hinf, j, hj, rfl⟩ := (mem_ext h).mp hb
    have hi := List.mem_range.mp hi
    have := pl_lts h (i := i + 1) (j := j + 1) (by omega) (.inl hinf)
    omega
theorem places_eq {row : List Int} (h : Sane row) {n m : Nat} (h1 : ∀ i, i < m → on row i ∧ pl row (i + 1) < n) (h2 : ¬ (on row m ∧ pl row (m + 1) < n)) :
    placesR row n = (List.range m).map fun i => (pl row (i + 1) : Int) := by
  refine sorted_ext (places_sorted h n) ?_ fun x => ?_
  · rw [List.pairwise_map]
    refine List.Pairwise.imp_of_mem (l := List.range m) (fun {x y} hx hy hxy => ?_) List.pairwise_lt_range
    have := pl_lts h (i := x + 1) (j := y + 1) (by omega) (on_down (h1 y (List.mem_range.mp hy)).1 (by omega))
    omega
  · rw [mem_places h]
    simp only [List.mem_map, List.mem_range]
    constructor
    · rintro ⟨hx, i, hi, rfl⟩
      refine ⟨i, ?_, rfl⟩
      rcases Nat.lt_or_ge i m with hlt | hge
      · exact hlt
      · refine absurd ⟨on_down hi hge, ?_⟩ h2
        have := pl_mono row (i := m + 1) (j := i + 1) (by omega)
        omega
    · rintro ⟨i, hi, rfl⟩
      obtain ⟨a, b⟩ := h1 i hi
      exact ⟨by omega, i, a, rfl⟩
theorem places_in {row : List Int} (h : Sane row) {n : Nat} {x : Int} (hx : x ∈ placesR row n) : 0 < x ∧ x < n := by
  obtain ⟨h1, i, hi, rfl⟩ := (mem_places h).mp hx
  have := pl_lts h (i := 0) (j := i + 1) (by omega) (on_down hi (by omega))
  omega
theorem places_len {row : List Int} (h : Sane row) (n : Nat) : (placesR row n).length ≤ n := by
  obtain ⟨m, h1, h2⟩ := exists_m h n
  rw [places_eq h h1 h2]
  simp only [List.length_map, List.length_range]
  rcases Nat.eq_zero_or_pos m with h' | h'
  · omega
  · have := (h1 (m - 1) (by omega))
    have h3 := pl_ge h (i := m - 1 + 1) fun k hk => on_down this.1 (by omega)
    omega
theorem places_zero {row : List Int} (h : hds row = 0) (n : Nat) : placesR row n = [] := by
  simp [placesR, basePl, extPl, h, upFrom]
end Mine
end

section
open PySem PySem.W PyProof.Rows PySem.Calls PySem.Builtin.Str PySem.SeqAt PyProof.V
namespace Mine
/-- the text of the signs l -/
def mk (l : List Nat) : Str := ⟨l.toArray⟩
theorem mk_len (l : List Nat) : (mk l).length = l.length := by simp [mk, Str.length]
theorem mk_cat (a b : List Nat) : mk a ++ mk b = mk (a ++ b) := by
  show Str.append _ _ = _
  simp [mk, Str.append]
theorem mk_inj {a b : List Nat} : mk a = mk b ↔ a = b := by
  constructor
  · intro h
    have := congrArg (fun x : Str => x.cps.toList) h
    simpa [mk] using this
  · rintro rfl; rfl
/-- the part of l from a to below b -/
def sub {α : Type} (l : List α) (a b : Nat) : List α := (l.drop a).take (b - a)
/-- texts between which the sign sep stands -/
def jn (sep : List Nat) : List (List Nat) → List Nat
  | [] => []
  | [x] => x
  | x :: y :: r => x ++ sep ++ jn sep (y :: r)
theorem join_mk (sep : List Nat) : ∀ l : List (List Nat), Str.join (mk sep) (l.map mk) = mk (jn sep l)
  | [] => rfl
  | [x] => rfl
  | x :: y :: r => by
    have ih := join_mk sep (y :: r)
    simp only [List.map_cons] at ih ⊢
    show mk x ++ mk sep ++ Str.join (mk sep) (mk y :: r.map mk) = _
    rw [ih, mk_cat, mk_cat]; rfl
abbrev sls (l : List (List Nat)) : List PyData := l.map fun x => .str (mk x)

theorem idx_run {lo : Option Int} {a b n : Nat} (hlo : lo = some (a : Int) ∨ (lo = none ∧ a = 0)) (hab : a ≤ b) (hbn : b ≤ n) : strSliceIndices lo (some (b : Int)) 1 n = (List.range (b - a)).map (a + ·) := by
  have e : strSliceIndices lo (some (b : Int)) 1 n = sliceRange (a : Int) (b : Int) 1 := by
    rcases hlo with rfl | ⟨rfl, rfl⟩
    · simp only [strSliceIndices, show (1 : Int) > 0 by decide, if_true]
      rw [if_neg (by omega), if_neg (by omega)]
      congr 1 <;> omega
    · simp only [strSliceIndices, show (1 : Int) > 0 by decide, if_true]
      rw [if_neg (by omega)]
      congr 1; omega
  rw [e]
  unfold sliceRange
  simp only [show (1 : Int) > 0 by decide, if_true]
  have hc : (if (a : Int) < b then ((b : Int) - a + 1 - 1) / 1 else 0).toNat = b - a := by
    split
    · rw [Int.ediv_one]; omega
    · omega
  rw [hc]
  apply List.map_congr_left
  intro k _
  omega
theorem pick_sub (l : List Nat) (a : Nat) : ∀ k, a + k ≤ l.length → ((List.range k).map (a + ·)).filterMap (fun i => (mk l).cps[i]?) = (l.drop a).take k
  | 0, _ => by simp
  | k + 1, h => by
    rw [List.range_succ, List.map_append, List.filterMap_append, pick_sub l a k (by omega), List.take_add_one]
    congr 1
    simp [mk, List.getElem?_drop, show a + k < l.length from by omega]

section
variable {prog : Program} {w : World} {hz : Heap} {A : Around} {env : Env} {σ : Sto} {mg mb : Str → Option Value}
theorem ev_stritem {value slice : Expr} {pos : Pos} {l : List Nat} {c : Nat} {k : Int} (hv : EV prog w hz A env σ value (.str (mk l))) (hi : EV prog w hz A env σ slice (.int k))
    (h0 : 0 ≤ k) (hk : l[k.toNat]? = some c) (hfit : k < 2 ^ 63)
    (hs : ∀ o i, subscripted slice false o i = operate [o, i] (getItem o i) := by intro _ _; with_unfolding_all rfl) : EV prog w hz A env σ (.Subscript value slice pos) (.str (mk [c])) := by
  intro X s E p
  refine Subscript_ (hv.use p fun o s₁ r k₁ p₁ => hi.use p₁ fun i s₂ ri k₂ p₂ => ?_)
  cases r
  cases ri
  have hlt : k.toNat < l.length := by
    rcases Nat.lt_or_ge k.toNat l.length with h | h
    · exact h
    · rw [List.getElem?_eq_none h] at hk; cases hk
  refine tail_any (typeIs_str _ _ _) slot_str_getitem.lookup (PyProof.Rows.getItem_str (c := c) ?_ ?_ ⟨.str _ _, (k₁.trans k₂).trans .t⟩) (hs _ _)
  · rw [decide_eq_false (by omega), decide_eq_false (by omega)]; rfl
  · rw [seqIndex_of h0 (by rw [mk_len]; omega)]
    simpa [mk] using hk
theorem ispart_of {v : Value} {k : Option Int} (h : IsPart v k) : ∃ p : Option (Int × Tok), v = partValue p ∧ p.map (·.1) = k := by
  cases h with
  | none => exact ⟨none, rfl, rfl⟩
  | int i t => exact ⟨some (i, t), rfl, rfl⟩
theorem ev_strrun {value f : Expr} {lo : Option Expr} {p₀ pos : Pos} {l : List Nat} {o₁ : Option Int} {a b : Nat} (hv : EV prog w hz A env σ value (.str (mk l))) (hl : Part prog w hz A env σ lo o₁) (ho : o₁ = some (a : Int) ∨ (o₁ = none ∧ a = 0))
    (hf : EV prog w hz A env σ f (.int (b : Int))) (hab : a ≤ b) (hb : b ≤ l.length) (hn : l.length ≤ sizeLine) :
    EV prog w hz A env σ (.Subscript value (.Slice lo (some f) none p₀) pos) (.str (mk (sub l a b))) := by
  intro X s E p
  refine Subscript_ (hv.use p fun o s₁ r k₁ p₁ => wpAny_Slice (hl.use p₁ fun v₁ s₂ i₁ k₂ p₂ => (Part.some hf).use p₂ fun v₂ s₃ i₂ k₃ p₃ => Part.none.use p₃ fun v₃ s₄ i₃ k₄ p₄ => ?_))
  cases r with
  | str _ t =>
  obtain ⟨q₁, rfl, e₁⟩ := ispart_of i₁
  obtain ⟨q₂, rfl, e₂⟩ := ispart_of i₂
  cases i₃
  have hk : Kp s { s₄ with heap := s₄.heap.push { cls := .type "slice", data := .fields #[partValue q₁, partValue q₂, .none] } } := ((k₁.trans k₂).trans (k₃.trans k₄)).trans .push
  have hidx := idx_run (lo := o₁) (n := l.length) ho hab hb
  have hres : ∀ (c : Prop) [Decidable c], (c → a = 0 ∧ b = l.length) → (if c then mk l else ⟨((slicePicked (mk l) q₁ q₂ none).filterMap ((mk l).cps[·]?)).toArray⟩) = mk (sub l a b) := by
    intro c _ hc
    split
    · rename_i h
      obtain ⟨rfl, rfl⟩ := hc h
      simp [sub]
    · have e : slicePicked (mk l) q₁ q₂ none = (List.range (b - a)).map (a + ·) := by
        unfold slicePicked
        rw [e₁, e₂, mk_len]; exact hidx
      rw [e, pick_sub l a (b - a) (by omega)]; rfl
  have hcond : ((((none : Option (Int × Tok)).map (·.1)).getD 1 == 1 && (slicePicked (mk l) q₁ q₂ none).length == (mk l).length) = true) → a = 0 ∧ b = l.length := by
    intro h
    simp only [Bool.and_eq_true, beq_iff_eq] at h
    have h2 := h.2
    unfold slicePicked at h2
    rw [e₁, e₂, mk_len] at h2
    have h3 : (strSliceIndices o₁ (some (b : Int)) 1 l.length).length = l.length := h2
    rw [hidx] at h3
    simp at h3; omega
  refine tail_any (typeIs_str _ _ _) PySem.F.slot_str_getitem.lookup (wpAny_getItem_str_slice (l := q₁) (u := q₂) (st := none) ⟨_, Heap.get?_push_size _ rfl, rfl, rfl⟩ rfl ?_) (ops := [.ref s₄.heap.objs.size, .str (mk l) t]) rfl
  unfold sliceMade
  refine post_val_or_str ?_
  rw [hres _ hcond]
  refine ⟨?_, fun t' k => ⟨.str _ _, hk.trans .t⟩⟩
  rw [mk_len]; unfold sub; simp; omega

theorem Reps.strsAre {X : Addr → Prop} {h : Heap} : ∀ {vs : List Value} {ns : List (List Nat)}, Reps X h vs (sls ns) → StrsAre vs (ns.map mk)
  | _, [], .nil => .nil
  | _, n :: ns, .cons (.str _ t) r => .cons _ t r.strsAre
theorem ev_join {sep : List Nat} {e : Expr} {kk : Nat} {cp apos pos : Pos} {l : List (List Nat)} {sx : Str} (he : EV prog w hz A env σ e (.list (sls l))) (hsx : sx = mk sep) (hn : (l.map (·.length)).sum + l.length * sep.length ≤ 16777216)
    (hbase : attributeBase (.Constant (.str sx) kk cp) "join" env (eval (.Constant (.str sx) kk cp) env) = eval (.Constant (.str sx) kk cp) env := by rfl)
    (hline : (apos.endLine == pos.line) = true := by rfl) (hse : backTo pos (starEach [e] env) = [(false, eval e env)] := by rfl) :
    EV prog w hz A env σ (.Call (.Attribute (.Constant (.str sx) kk cp) "join" apos) [e] [] pos) (.str (mk (jn sep l))) := by
  intro X s E p
  refine wpAny_Call_method1_late hbase hline hse (EV.use (ev_str (x := sx) (k := kk) (pos := cp)) p fun v₀ s₀ r₀ k₀ p₀ => ?_)
  cases r₀ with
  | str _ t =>
  refine ⟨"str", "str.join", PySem.F.plainAttrs_str, PySem.F.slot_str_join, PySem.F.type_str_join, typeIs_str _ _ _, (fun _ e => by cases e), ?_⟩
  refine Calls.callWith_builtin rfl (Calls.evalArgs_plain (Calls.spliced_cons (he.use p₀ fun v s₁ r k₁ p₁ => Calls.spliced_nil ?_)))
  obtain ⟨a, vs, rfl, hl, _, rs⟩ := r.isList
  refine PyProof.Rows.join_list (ys := l.map mk) hl rs.strsAre ?_ fun t' k => ?_
  · rw [hsx, mk_len, List.length_map, List.map_map]
    have : (List.map ((fun x : Str => x.length) ∘ mk) l) = l.map (·.length) := List.map_congr_left fun x _ => mk_len x
    rw [this]; exact hn
  · have : PySem.Txt.join sx (l.map mk) = mk (jn sep l) := by
      unfold PySem.Txt.join
      rw [StrLaws.glued_eq_join, hsx, join_mk]
    rw [this]
    exact ⟨.str _ _, (k₀.trans k₁).trans .t⟩
theorem op_add_str {a b : List Nat} (hn : a.length + b.length ≤ sizeLine) : Op2 prog w hz A (binaryOp .Add) (.str (mk a)) (.str (mk b)) (.str (mk (a ++ b))) := by
  intro X s E v u _ _ r r'; cases r; cases r'
  refine PyProof.Rows.add_str (fun t' tk => ?_) (by rw [mk_len, mk_len]; exact hn)
  rw [mk_cat]
  exact ⟨.str _ _, .t⟩
theorem op_ne_str {a b : List Nat} : Op2 prog w hz A (compareOp .NotEq) (.str (mk a)) (.str (mk b)) (.bool (!decide (a = b))) := by
  intro X s E v u _ _ r r'; cases r; cases r'
  refine PyProof.Rows.ne_str ?_
  have : (mk a != mk b) = !decide (a = b) := by
    by_cases h : a = b
    · subst h; simp
    · have : mk a ≠ mk b := fun e => h (mk_inj.mp e)
      simp [h, this]
  rw [this]; exact ⟨.bool _, .refl _⟩
theorem ev_lenstr {x : Str} {np pos : Pos} {e : Expr} {l : List Nat} (G : Gl hz mg mb) (he : EV prog w hz A env σ e (.str (mk l))) (hn : l.length ≤ sizeLine) (hv : mg x = none) (hb : mb x = some (.builtin "len"))
    (hk : env.scope.kind = .function := by rfl) (hx : env.kindOf x = some .globalImplicit := by rfl) (hg : env.globals = mainGlobals := by rfl) (hbn : env.builtins = builtinsNs := by rfl) (hd : (x == ("__debug__" : Str)) = false := by decide)
    (hse : starEach [e] env = (false, eval e env) :: starEach [] env := by rfl) :
    EV prog w hz A env σ (.Call (.Name x np) [e] [] pos) (.int l.length) :=
  ev_builtin1 G he hv hb (fun X s E v _ _ r => by
    cases r
    refine PyProof.Rows.len_str (by rw [mk_len]; have : sizeLine = 16777216 := rfl; omega) ?_
    rw [mk_len]
    exact ⟨.int _ _, .t⟩) hk hx hg hbn hd hse
theorem ev_max {x : Str} {np pos : Pos} {e f : Expr} {a b : Int} (G : Gl hz mg mb) (hh : A.handled = none) (he : EV prog w hz A env σ e (.int a)) (hf : EV prog w hz A env σ f (.int b)) (hv : mg x = none) (hb : mb x = some (.builtin "max"))
    (hk : env.scope.kind = .function := by rfl) (hx : env.kindOf x = some .globalImplicit := by rfl) (hg : env.globals = mainGlobals := by rfl) (hbn : env.builtins = builtinsNs := by rfl) (hd : (x == ("__debug__" : Str)) = false := by decide)
    (hse : starEach [e, f] env = (false, eval e env) :: starEach [f] env := by rfl) (hse' : starEach [f] env = (false, eval f env) :: starEach [] env := by rfl) :
    EV prog w hz A env σ (.Call (.Name x np) [e, f] [] pos) (.int (max a b)) := by
  intro X s E p
  refine Call_ (built_name G p hv hb (PyProof.Rows.callWith_builtin1 ((evs_cons he (evs_cons hf evs_nil hse') hse).use p fun vs s₁ rs k p₁ => ?_) hse (by rw [hse']; rfl)) hk hx hg hbn hd)
  cases rs with
  | cons r1 rs =>
    cases rs with
    | cons r2 rs =>
      cases rs; cases r1; cases r2
      refine max_two_ints hh fun h' tk hk' => ?_
      refine ⟨?_, k.trans (.ht hk')⟩
      split
      · rw [Int.max_eq_right (by omega)]; exact .int _ _
      · rw [Int.max_eq_left (by omega)]; exact .int _ _
/-- a or b, as a value -/
theorem ev_or {a b : Expr} {pos : Pos} {t u : Bool} (ha : EV prog w hz A env σ a (.bool t)) (hb : EV prog w hz A env σ b (.bool u)) : EV prog w hz A env σ (.BoolOp .Or [a, b] pos) (.bool (t || u)) := by
  intro X s E p
  refine BoolOp_or (ha.use p fun v s₁ r k p₁ => ?_)
  cases r
  refine wpAny_truthy_bool ?_
  cases t
  · exact BoolOp_one (hb.use p₁ fun v s₂ r k' p₂ => by cases r; exact ⟨.bool _, k.trans k'⟩)
  · exact ⟨.bool _, k⟩
theorem ev_rev {value : Expr} {kk : Nat} {p₀ p₁ p₂ pos : Pos} {ds : List PyData} (hv : EV prog w hz A env σ value (.list ds)) (hn : ds.length ≤ sizeLine) :
    EV prog w hz A env σ (.Subscript value (.Slice none none (some (.UnaryOp .USub (.Constant (.int 1) kk p₁) p₂)) p₀) pos) (.list ds.reverse) :=
  ev_slice_pick hv .none .none (.some (ev_neg ev_int)) (by decide) hn fun X h vs r => by rw [krv_pick]; simpa using r.reverse

theorem strOk_mk {x : List Nat} (h : ∀ c ∈ x, c < 1000) : PyData.strOk (mk x) = true := by
  unfold PyData.strOk mk
  rw [Array.all_eq_true']
  intro c hc
  have := h c (by simpa using hc)
  simp; omega
theorem canLayAll_strs : ∀ l : List (List Nat), (∀ x ∈ l, ∀ c ∈ x, c < 1000) → PyData.canLayAll0 (sls l) = true
  | [], _ => by simp [PyData.canLayAll0]
  | x :: r, h => by
    have ih := canLayAll_strs r fun y hy => h y (List.mem_cons_of_mem _ hy)
    have h0 := strOk_mk (h x (by simp))
    simp only [sls, List.map_cons, PyData.canLayAll0, PyData.canLay0, h0, Bool.true_and]
    exact ih
theorem depthAll_strs : ∀ l : List (List Nat), PyData.depthAll (sls l) ≤ 1
  | [] => by simp [PyData.depthAll]
  | n :: r => by
    have := depthAll_strs r
    simp only [sls, List.map_cons, PyData.depthAll, PyData.depth] at this ⊢
    omega
theorem shaped_strs {l : List (List Nat)} (h : ∀ x ∈ l, ∀ c ∈ x, c < 1000) : shaped (.list (sls l)) = true := by
  have h1 := depthAll_strs l
  have h2 : PyData.depth (.list (sls l)) ≤ 64 := by simp only [PyData.depth]; omega
  show (PyData.canLay0 (.list (sls l)) && decide (PyData.depth (.list (sls l)) ≤ 64)) = true
  rw [Bool.and_eq_true]
  exact ⟨by simp only [PyData.canLay0]; exact canLayAll_strs l h, decide_eq_true h2⟩
theorem noMix_strs : ∀ l m : List (List Nat), noMixAll (sls l) (sls m) = true
  | [], [] => by simp [noMixAll]
  | [], _ :: _ => by simp [noMixAll]
  | _ :: _, [] => by simp [noMixAll]
  | _ :: r, _ :: q => by
    have := noMix_strs r q
    simp only [sls] at this
    simp [noMixAll, noMix, this]
theorem same_strs : ∀ l m : List (List Nat), PySem.Spec.sameAll (sls l) (sls m) = decide (l = m)
  | [], [] => by simp [PySem.Spec.sameAll]
  | [], _ :: _ => by simp [PySem.Spec.sameAll]
  | _ :: _, [] => by simp [PySem.Spec.sameAll]
  | n :: r, k :: q => by
    have := same_strs r q
    simp only [sls] at this
    simp only [sls, List.map_cons, PySem.Spec.sameAll, PySem.Spec.same, this]
    by_cases h : n = k
    · subst h; simp
    · have h' : mk n ≠ mk k := fun e => h (mk_inj.mp e)
      simp [h, h']
theorem op_eq_strs {l m : List (List Nat)} (hu : A.units + 64 < cLine) (hl : ∀ x ∈ l, ∀ c ∈ x, c < 1000) (hm : ∀ x ∈ m, ∀ c ∈ x, c < 1000) : Op2 prog w hz A (compareOp .Eq) (.list (sls l)) (.list (sls m)) (.bool (decide (l = m))) := by
  intro X s E v u _ _ r r'
  obtain ⟨as, ra⟩ := r.reads
  obtain ⟨bs, rb⟩ := r'.reads
  refine eq_dataH_same ra rb (shaped_strs hl) (shaped_strs hm) hu (by simp only [noMix]; exact noMix_strs l m) ?_
  simp only [PySem.Spec.same]
  rw [same_strs]; exact ⟨.bool _, .refl _⟩
end
end Mine
end

section
open PySem PySem.W PyProof.Rows PySem.Calls
namespace Mine
abbrev q3 : Program := PySem.Challenge.pw_mq0443_03
/-- the built-in names that the law wants -/
structure Bi (hz : Heap) (mg mb : Str → Option Value) : Prop where
  gl : Gl hz mg mb
  len : mg "len" = none
  lenb : mb "len" = some (.builtin "len")
  rng : mg "range" = none
  rngb : mb "range" = some (.type "range")
  sum : mg "sum" = none
  sumb : mb "sum" = some (.builtin "sum")
  max : mg "max" = none
  maxb : mb "max" = some (.builtin "max")
structure Sm (hz : Heap) (mg mb : Str → Option Value) : Prop where
  bi : Bi hz mg mb
  heads : ∃ f, mg "_law_heads" = some (.ref f) ∧ Def q3 hz 4 f
  endless : ∃ f, mg "_law_endless" = some (.ref f) ∧ Def q3 hz 5 f
  places : ∃ f, mg "_law_places" = some (.ref f) ∧ Def q3 hz 6 f
  wide : ∃ f, mg "_law_wide" = some (.ref f) ∧ Def q3 hz 7 f
theorem hds_inf {row : List Int} : decide ((row.drop (hds row)).take 1 = [0]) = inf row := rfl
section
variable {prog : Program} {w : World} {hz : Heap} {mg mb : Str → Option Value}
theorem heads3_fn {f : Addr} {row : List Int} (B : Bi hz mg mb) (D : Def q3 hz 4 f) (hn : row.length ≤ 1000) : FN prog w hz 1 f [.list (ils row)] (.int (hds row)) := by
  obtain ⟨o, pm, cd, doc, ho, hd, hcd⟩ := D
  have hSz : sizeLine = 16777216 := rfl
  refine fn_intro ["row"] ho hd B.gl.nolimit hcd rfl rfl ?_ ?_ rfl ?_ ?_ rfl rfl rfl
  · intro vs hv
    match vs, hv with
    | [a], _ => rfl
  · decide
  · intro L x hx
    simp at hx; subst hx
    exact .inl rfl
  intro A L Y sb s E hA F
  refine ex_assign F ev_int (fun s₁ F₁ => ?_) (by intro _ _ e; cases e) ⟨.inl rfl, fun _ => rfl, rfl⟩
  refine ex_heads (row := row) F₁ B.gl rfl rfl B.len B.lenb (by omega) ⟨.inl rfl, fun _ => rfl, rfl⟩ fun s₂ F₂ => ?_
  exact ex_ret F₂ (ev_name rfl) fun v s₂ r F₂ => ⟨v, rfl, r, F₂.out⟩
theorem endless3_fn {f : Addr} {row : List Int} (S : Sm hz mg mb) (D : Def q3 hz 5 f) (hn : row.length ≤ 1000) : FN prog w hz 2 f [.list (ils row)] (.bool (inf row)) := by
  obtain ⟨o, pm, cd, doc, ho, hd, hcd⟩ := D
  obtain ⟨fh, hvh, Dh⟩ := S.heads
  obtain ⟨oh, pmh, cdh, doch, hoh, hdh, hcdh⟩ := id Dh
  have hSz : sizeLine = 16777216 := rfl
  have gl := S.bi.gl
  refine fn_intro ["row"] ho hd gl.nolimit hcd rfl rfl ?_ ?_ rfl ?_ ?_ rfl rfl rfl
  · intro vs hv
    match vs, hv with
    | [a], _ => rfl
  · decide
  · intro L x hx
    simp at hx; subst hx
    exact .inl rfl
  intro A L Y sb s E hA F
  have hh := hds_le row
  refine ex_assign F (ev_call gl hvh hoh hdh (evs_cons (ev_name rfl) evs_nil) (heads3_fn (row := row) S.bi Dh hn) hA) (fun s₁ F₁ => ?_) (by intro _ _ e; cases e) ⟨.inl rfl, fun _ => rfl, rfl⟩
  refine ex_ret F₁ (ev_cmp (ev_run_int (ns := row) (ev_name rfl) (ev_name rfl) (ev_bin (ev_name rfl) ev_int op_add) (by omega) (by omega) (by omega)) (ev_lits [0] (evs_cons ev_int evs_nil)) (op_eq_ints hA.u64)) fun v s₂ r F₂ => ⟨v, rfl, ?_, F₂.out⟩
  have e : decide ((row.drop ((hds row : Int)).toNat).take (((hds row : Int) + 1).toNat - ((hds row : Int)).toNat) = [0]) = inf row := by
    have : ((hds row : Int) + 1).toNat - ((hds row : Int)).toNat = 1 := by omega
    rw [this]; rfl
  rw [← e]; exact r

set_option maxHeartbeats 4000000 in
theorem places3_fn {f : Addr} {row : List Int} {bound : Nat} (S : Sm hz mg mb) (D : Def q3 hz 6 f) (hS : Sane row) (hn : row.length ≤ 1000) (hbd : bound ≤ 100000) (hw : pl row (hds row) ≤ 100000) :
    FN prog w hz 3 f [.list (ils row), .int bound] (.list (ils (placesR row bound))) := by
  obtain ⟨o, pm, cd, doc, ho, hd, hcd⟩ := D
  obtain ⟨fh, hvh, Dh⟩ := S.heads
  obtain ⟨oh, pmh, cdh, doch, hoh, hdh, hcdh⟩ := id Dh
  obtain ⟨fe, hve, De⟩ := S.endless
  obtain ⟨oe, pme, cde, doce, hoe, hde, hcde⟩ := id De
  have hSz : sizeLine = 16777216 := rfl
  have B := S.bi
  have G := B.gl
  have hh := hds_le row
  have hwh := pl_take hS _ (Nat.le_refl _)
  refine fn_intro ["row", "bound"] ho hd G.nolimit hcd rfl rfl ?_ ?_ rfl ?_ ?_ rfl rfl rfl
  · intro vs hv
    match vs, hv with
    | [a, b], _ => rfl
  · decide
  · intro L x hx
    simp at hx
    rcases hx with rfl | rfl <;> exact .inr ⟨rfl, _, rfl⟩
  intro A L Y sb s E hA F
  refine ex_assign F (ev_call G hvh hoh hdh (evs_cons (ev_name rfl) evs_nil) (heads3_fn (row := row) B Dh hn) (hA.less (by omega))) (fun s₁ F₁ => ?_) (by intro _ _ e; cases e) ⟨.inr ⟨rfl, _, rfl⟩, (fun h => by cases h), rfl⟩
  refine ex_assign F₁ (ev_sum G hA.handled (ev_upto_int (ns := row) (ev_name rfl) (ev_name rfl) (by omega) (by omega)) B.sum B.sumb) (fun s₂ F₂ => ?_) (by intro _ _ e; cases e) ⟨.inr ⟨rfl, _, rfl⟩, (fun h => by cases h), rfl⟩
  rw [Int.toNat_natCast] at F₂
  have F₃ := F₂.as [("row", .list (ils row)), ("bound", .int bound), ("heads", .int (hds row)), ("whole", .int (row.take (hds row)).sum)] ⟨rfl, rfl, rfl, rfl, trivial⟩
  refine ex_comp (fun _ => true) (fun d => match d with | .int k => .int (row.take (k + 1).toNat).sum | d => d) (τ := stoL [("row", .list (ils row))]) (ds := ils (upFrom 0 (hds row))) F₃
    ⟨rfl, by decide, rfl, by decide, rfl, stoL_all ?_⟩ (it_range1 (b := (hds row : Int)) G (ev_name rfl) B.rng B.rngb hA.handled (by omega) (by omega)) (by simp [upFrom]; omega) (fun C d hdm => ts_nil) (fun C d hdm _ => ?_) (fun s₄ F₄ => ?_) rfl ⟨.inl rfl, fun _ => rfl, rfl⟩
  · intro p hp
    rw [List.mem_singleton.mp hp]
    exact ⟨rfl, rfl, fun _ => rfl, fun c e => e⟩
  · obtain ⟨i, hi⟩ := List.mem_iff_getElem?.mp hdm
    obtain ⟨hi, rfl⟩ := upFrom_get hi
    exact ev_sum G hA.handled (ev_upto_int (ns := row) (ev_name rfl) (ev_bin (ev_name rfl) ev_int op_add) (by omega) (by omega)) B.sum B.sumb
  rw [filter_all] at F₄
  have e : (ils (upFrom 0 (hds row))).map (fun d => match d with | .int k => .int (row.take (k + 1).toNat).sum | d => d) = ils (basePl row) := by simp [basePl, Function.comp_def]
  rw [e] at F₄
  have fin : ∀ (s : Shared), FS hz (callEnvC (fdOf q3 6 pm cd doc) L f) Y sb [] [] (stoL [("row", .list (ils row)), ("bound", .int bound), ("heads", .int (hds row)), ("whole", .int (row.take (hds row)).sum)]) (some ("places", ils (basePl row ++ extPl row bound))) s →
      wpAny (model prog w) A (execs ((bodyOf q3 6).drop 4) (callEnvC (fdOf q3 6 pm cd doc) L f)) (fun fl s' => ∃ v, fl = .ret v ∧ Rep Y s'.heap v (.list (ils (placesR row bound))) ∧ Kp sb s') E s := by
    intro s F
    have hlen : (basePl row ++ extPl row bound).length ≤ 1000000 := by
      have : (extPl row bound).length ≤ 200000 := by
        unfold extPl; split
        · refine Nat.le_trans (List.length_filter_le _ _) ?_
          simp [upFrom]; omega
        · simp
      simp [basePl, upFrom]; omega
    refine ex_ret F (EVF.ev (evf_comp (fun d => match d with | .int p => decide (p < bound) | _ => false) (fun d => d) (τ := stoL [("bound", .int bound)]) (ds := ils (basePl row ++ extPl row bound)) ⟨rfl, by decide, rfl, by decide, rfl, stoL_all ?_⟩ (it_list (ev_name rfl) hA.handled) (by simp only [List.length_map]; omega) (fun C d hdm => ?_) (fun C d hdm _ => ?_))) fun v s₂ r F₂ => ⟨v, rfl, ?_, F₂.out⟩
    · intro p hp
      rw [List.mem_singleton.mp hp]
      exact ⟨rfl, rfl, fun _ => rfl, fun c e => e⟩
    · obtain ⟨x, _, rfl⟩ := List.mem_map.mp hdm
      exact ts_one (eb_cmp (ev_name rfl) (ev_name rfl) op_lt)
    · obtain ⟨x, _, rfl⟩ := List.mem_map.mp hdm
      exact ev_name rfl
    · have e : (((ils (basePl row ++ extPl row bound)).filter fun d => match d with | .int p => decide (p < bound) | _ => false).map fun d => d) = ils (placesR row bound) := by
        rw [List.map_id']
        unfold placesR ils
        rw [List.filter_map]; rfl
      rw [← e]; exact r
  refine ex_if (b := inf row) F₄ (eb_bool (ev_call G hve hoe hde (evs_cons (ev_name rfl) evs_nil) (endless3_fn (row := row) S De hn) (hA.less (by omega)))) fun s₇ F₇ => ?_
  by_cases hinf : inf row = true
  · have h0 : 0 < hds row := by
      rcases Nat.eq_zero_or_pos (hds row) with h0 | h0
      · have := hS.nr h0; rw [hinf] at this; cases this
      · exact h0
    have hs := hS.pos (hds row - 1) (by omega)
    rw [hinf]
    have he : extPl row bound = (upFrom ((row.take (hds row)).sum + 1) ((bound : Int) - ((row.take (hds row)).sum + 1)).toNat).filter (fun p => (p - (row.take (hds row)).sum).fmod (row.getD (hds row - 1) 0) == 0) := by unfold extPl; rw [if_pos ⟨h0, hinf⟩]
    have hm1 : ((hds row : Int) - 1).toNat = hds row - 1 := by omega
    refine ex_extend F₇ (evf_comp (fun d => match d with | .int p => (p - (row.take (hds row)).sum).fmod (row.getD (hds row - 1) 0) == 0 | _ => false) (fun d => d) (τ := stoL [("whole", .int (row.take (hds row)).sum), ("row", .list (ils row)), ("heads", .int (hds row))])
      (ds := ils (upFrom ((row.take (hds row)).sum + 1) ((bound : Int) - ((row.take (hds row)).sum + 1)).toNat)) ⟨rfl, by decide, rfl, by decide, rfl, stoL_all ?_⟩ (it_range2 G (ev_bin (ev_name rfl) ev_int op_add) (ev_name rfl) B.rng B.rngb hA.handled (by omega) (by omega) (by omega) (by omega)) (by simp [upFrom]; omega) (fun C d hdm => ?_) (fun C d hdm _ => ?_)) (fun s₈ F₈ => ?_) ?_
    · intro p hp
      simp only [List.mem_cons, List.not_mem_nil, or_false] at hp
      rcases hp with rfl | rfl | rfl <;> exact ⟨rfl, rfl, fun _ => rfl, fun c e => e⟩
    · obtain ⟨x, _, rfl⟩ := List.mem_map.mp hdm
      refine ts_one (eb_cmp (ev_bin (d₂ := .int (row.getD (hds row - 1) 0)) (ev_bin (ev_name rfl) (ev_name rfl) op_sub) ?_ (op_mod (by omega))) ev_int op_eq)
      rw [← hm1]
      exact ev_item_int (ns := row) (ev_name rfl) (ev_bin (ev_name rfl) ev_int op_sub) (by omega) (by omega) (by omega)
    · obtain ⟨x, _, rfl⟩ := List.mem_map.mp hdm
      exact ev_name rfl
    · have e : ils (basePl row) ++ (((ils (upFrom ((row.take (hds row)).sum + 1) ((bound : Int) - ((row.take (hds row)).sum + 1)).toNat)).filter fun d => match d with | .int p => (p - (row.take (hds row)).sum).fmod (row.getD (hds row - 1) 0) == 0 | _ => false).map fun d => d) = ils (basePl row ++ extPl row bound) := by
        rw [List.map_id', he]
        unfold ils
        rw [List.filter_map, List.map_append]; rfl
      rw [e] at F₈
      exact ex_nil (fin s₈ F₈)
    · rw [List.map_id']
      have h1 := List.length_filter_le (fun d : PyData => match d with | .int p => (p - (row.take (hds row)).sum).fmod (row.getD (hds row - 1) 0) == 0 | _ => false) (ils (upFrom ((row.take (hds row)).sum + 1) ((bound : Int) - ((row.take (hds row)).sum + 1)).toNat))
      have h2 : (ils (upFrom ((row.take (hds row)).sum + 1) ((bound : Int) - ((row.take (hds row)).sum + 1)).toNat)).length ≤ 200000 := by simp [upFrom]; omega
      have h3 : (ils (basePl row)).length ≤ 1000 := by simp [basePl, upFrom]; omega
      omega
  · have he : extPl row bound = [] := by unfold extPl; rw [if_neg (fun h => hinf h.2)]
    rw [Bool.eq_false_iff.mpr hinf]
    refine ex_nil (fin s₇ ?_)
    rw [he, List.append_nil]
    exact F₇

def wideR (outer narrow : List Int) : List Int := (placesR outer ((narrow.length + 1 : Nat) : Int)).map fun p => narrow.getD (p - 1).toNat 0
theorem wide3_fn {f : Addr} {outer narrow : List Int} (S : Sm hz mg mb) (D : Def q3 hz 7 f) (hS : Sane outer) (hn : outer.length ≤ 1000) (hn' : narrow.length ≤ 10000) (hw : pl outer (hds outer) ≤ 100000) :
    FN prog w hz 4 f [.list (ils outer), .list (ils narrow)] (.list (ils (wideR outer narrow))) := by
  obtain ⟨o, pm, cd, doc, ho, hd, hcd⟩ := D
  obtain ⟨fp, hvp, Dp⟩ := S.places
  obtain ⟨op, pmp, cdp, docp, hop, hdp, hcdp⟩ := id Dp
  have hSz : sizeLine = 16777216 := rfl
  have B := S.bi
  have G := B.gl
  refine fn_intro ["outer", "narrow"] ho hd G.nolimit hcd rfl rfl ?_ ?_ rfl ?_ ?_ rfl rfl rfl
  · intro vs hv
    match vs, hv with
    | [a, b], _ => rfl
  · decide
  · intro L x hx
    simp at hx
    rcases hx with rfl | rfl
    · exact .inl rfl
    · exact .inr ⟨rfl, _, rfl⟩
  intro A L Y sb s E hA F
  have hpfn := places3_fn (prog := prog) (w := w) (row := outer) (bound := narrow.length + 1) S Dp hS hn (by omega) hw
  have hmem := fun x => @places_in outer hS (narrow.length + 1) x
  have hpl := places_len hS (narrow.length + 1)
  unfold wideR
  generalize placesR outer ((narrow.length + 1 : Nat) : Int) = pls at *
  refine ex_ret F (EVF.ev (evf_comp (fun _ => true) (fun d => match d with | .int p => .int (narrow.getD (p - 1).toNat 0) | d => d) (τ := stoL [("narrow", .list (ils narrow))]) (ds := ils pls) ⟨rfl, by decide, rfl, by decide, rfl, stoL_all ?_⟩
    (it_list (ev_call G hvp hop hdp (evs_cons (ev_name rfl) (evs_cons (ev_bin (ev_len_int (ns := narrow) G (ev_name rfl) (by omega) B.len B.lenb) ev_int op_add) evs_nil)) hpfn hA) hA.handled) (by simp; omega) (fun C d hdm => ts_nil) (fun C d hdm _ => ?_))) fun v s₂ r F₂ => ⟨v, rfl, ?_, F₂.out⟩
  · intro p hp
    rw [List.mem_singleton.mp hp]
    exact ⟨rfl, rfl, fun _ => rfl, fun c e => e⟩
  · obtain ⟨x, hx, rfl⟩ := List.mem_map.mp hdm
    have := hmem x hx
    exact ev_item_int (ns := narrow) (ev_name rfl) (ev_bin (ev_name rfl) ev_int op_sub) (by omega) (by omega) (by omega)
  · rw [filter_all] at r
    simpa [Function.comp_def] using r

def sizesR (marks : List Int) : List Int := (upFrom 1 (marks.length - 1)).map fun (k : Int) => marks.getD k.toNat 0 - marks.getD (k - 1).toNat 0
def togR (inner outer : List Int) : List Int :=
  let sizes := sizesR ([0] ++ wideR outer (placesR inner ((100 : Nat) : Int)))
  if inf inner = true ∧ inf outer = true then sizes.take (max (hds inner) (hds outer)) ++ [0] else sizes
set_option maxHeartbeats 4000000 in
theorem together_fn {f : Addr} {inner outer : List Int} (S : Sm hz mg mb) (D : Def q3 hz 8 f) (hI : Sane inner) (hO : Sane outer) (hn : inner.length ≤ 1000) (hn' : outer.length ≤ 1000) (hw : pl inner (hds inner) ≤ 100000) (hw' : pl outer (hds outer) ≤ 100000) :
    FN prog w hz 5 f [.list (ils inner), .list (ils outer)] (.list (ils (togR inner outer))) := by
  obtain ⟨o, pm, cd, doc, ho, hd, hcd⟩ := D
  obtain ⟨fh, hvh, Dh⟩ := S.heads
  obtain ⟨oh, pmh, cdh, doch, hoh, hdh, hcdh⟩ := id Dh
  obtain ⟨fe, hve, De⟩ := S.endless
  obtain ⟨oe, pme, cde, doce, hoe, hde, hcde⟩ := id De
  obtain ⟨fp, hvp, Dp⟩ := S.places
  obtain ⟨op, pmp, cdp, docp, hop, hdp, hcdp⟩ := id Dp
  obtain ⟨fw, hvw, Dw⟩ := S.wide
  obtain ⟨ow, pmw, cdw, docw, how, hdw, hcdw⟩ := id Dw
  have hSz : sizeLine = 16777216 := rfl
  have B := S.bi
  have G := B.gl
  have hhi := hds_le inner
  have hho := hds_le outer
  refine fn_intro ["inner", "outer"] ho hd G.nolimit hcd rfl rfl ?_ ?_ rfl ?_ ?_ rfl rfl rfl
  · intro vs hv
    match vs, hv with
    | [a, b], _ => rfl
  · decide
  · intro L x hx
    simp at hx
    rcases hx with rfl | rfl <;> exact .inl rfl
  intro A L Y sb s E hA F
  have hpl := places_len hI 100
  have hwl : (wideR outer (placesR inner ((100 : Nat) : Int))).length ≤ 200 := by
    unfold wideR
    have := places_len hO ((placesR inner ((100 : Nat) : Int)).length + 1)
    simp only [List.length_map]; omega
  unfold togR
  have hpfn := places3_fn (prog := prog) (w := w) (row := inner) (bound := 100) S Dp hI hn (by omega) hw
  have hwfn := wide3_fn (prog := prog) (w := w) (outer := outer) (narrow := placesR inner ((100 : Nat) : Int)) S Dw hO hn' (by omega) hw'
  generalize placesR inner ((100 : Nat) : Int) = narrow at *
  generalize wideR outer narrow = wide at *
  refine ex_assign F (ev_bin (ev_lits [0] (evs_cons ev_int evs_nil)) (ev_call G hvw how hdw (evs_cons (ev_name rfl) (evs_cons (ev_call G hvp hop hdp (evs_cons (ev_name rfl) (evs_cons ev_int evs_nil)) hpfn (hA.less (by omega))) evs_nil)) hwfn hA) (op_cat_int (by simp; omega))) (fun s₁ F₁ => ?_) (by intro _ _ e; cases e) ⟨.inr ⟨rfl, _, rfl⟩, (fun h => by cases h), rfl⟩
  generalize hmarks : [(0 : Int)] ++ wide = marks at *
  have hml : marks.length ≤ 201 := by rw [← hmarks]; simp; omega
  refine ex_comp (fun _ => true) (fun d => match d with | .int k => .int (marks.getD k.toNat 0 - marks.getD (k - 1).toNat 0) | d => d) (τ := stoL [("marks", .list (ils marks))]) (ds := ils (upFrom 1 ((marks.length : Int) - 1).toNat)) F₁
    ⟨rfl, by decide, rfl, by decide, rfl, stoL_all ?_⟩ (it_range2 (a := 1) (b := (marks.length : Int)) G ev_int (ev_len_int (ns := marks) G (ev_name rfl) (by omega) B.len B.lenb) B.rng B.rngb hA.handled (by omega) (by omega) (by omega) (by omega)) (by simp [upFrom]; omega) (fun C d hdm => ts_nil) (fun C d hdm _ => ?_) (fun s₂ F₂ => ?_) rfl ⟨.inl rfl, fun _ => rfl, rfl⟩
  · intro p hp
    rw [List.mem_singleton.mp hp]
    exact ⟨rfl, rfl, fun _ => rfl, fun c e => e⟩
  · obtain ⟨q, hq⟩ := List.mem_iff_getElem?.mp hdm
    obtain ⟨hq, rfl⟩ := upFrom_get hq
    exact ev_bin (ev_item_int (ns := marks) (ev_name rfl) (ev_name rfl) (by omega) (by omega) (by omega)) (ev_item_int (ns := marks) (ev_name rfl) (ev_bin (ev_name rfl) ev_int op_sub) (by omega) (by omega) (by omega)) op_sub
  have F₃ := F₂.freeze
  rw [filter_all] at F₃
  have e : (ils (upFrom 1 ((marks.length : Int) - 1).toNat)).map (fun d => match d with | .int k => .int (marks.getD k.toNat 0 - marks.getD (k - 1).toNat 0) | d => d) = ils (sizesR marks) := by
    have : ((marks.length : Int) - 1).toNat = marks.length - 1 := by omega
    simp [sizesR, Function.comp_def, this]
  rw [e] at F₃
  have hsl : (sizesR marks).length ≤ 300 := by simp [sizesR, upFrom]; omega
  generalize sizesR marks = sizes at *
  refine ex_if (b := inf inner && (inf outer && true)) F₃ (eb_boolop (and_cons (eb_bool (ev_call G hve hoe hde (evs_cons (ev_name rfl) evs_nil) (endless3_fn (row := inner) S De hn) (hA.less (by omega)))) fun _ => and_cons (eb_bool (ev_call G hve hoe hde (evs_cons (ev_name rfl) evs_nil) (endless3_fn (row := outer) S De hn') (hA.less (by omega)))) fun _ => and_nil)) fun s₄ F₄ => ?_
  by_cases hc : inf inner = true ∧ inf outer = true
  · rw [if_pos hc, show (inf inner && (inf outer && true)) = true from by simp [hc.1, hc.2]]
    refine ex_ret F₄ (ev_bin (ev_upto_int (ns := sizes) (k := max (hds inner : Int) (hds outer : Int)) (ev_name rfl) (ev_max G hA.handled (ev_call G hvh hoh hdh (evs_cons (ev_name rfl) evs_nil) (heads3_fn (row := inner) B Dh hn) (hA.less (by omega))) (ev_call G hvh hoh hdh (evs_cons (ev_name rfl) evs_nil) (heads3_fn (row := outer) B Dh hn') (hA.less (by omega))) B.max B.maxb) (by omega) (by omega)) (ev_lits [0] (evs_cons ev_int evs_nil)) (op_cat_int (by simp; omega))) fun v s₅ r F₅ => ⟨v, rfl, ?_, F₅.out⟩
    have : (max (hds inner : Int) (hds outer : Int)).toNat = max (hds inner) (hds outer) := by omega
    rw [this] at r
    exact r
  · rw [if_neg hc, show (inf inner && (inf outer && true)) = false from by
      rw [Bool.and_eq_false_iff]
      by_cases h : inf inner = true
      · right; simp; exact Bool.eq_false_iff.mpr fun h' => hc ⟨h, h'⟩
      · left; exact Bool.eq_false_iff.mpr h]
    exact ex_nil (ex_ret F₄ (ev_name rfl) fun v s₅ r F₅ => ⟨v, rfl, r, F₅.out⟩)
end
end Mine
end

section
open PySem PySem.W PyProof.Rows PySem.Calls
namespace Mine
/-- what the laws' text stands upon -/
structure Gn (hz : Heap) (mg mb : Str → Option Value) : Prop where
  bi : Bi hz mg mb
  gen : ∃ f, mg "_grouping_intervals" = some (.ref f) ∧ Def qp hz 2 f
  cm : ∃ t, mg "CHAR_MAX" = some (.int 127 t)
  ve : mg "ValueError" = none
  vb : mb "ValueError" = some (.type "ValueError")
/-- T has n parts, cut a b is what lies from the a-th to below the b-th -/
structure Cutting (prog : Program) (w : World) (hz : Heap) (T : PyData) (n : Nat) (cut : Nat → Nat → PyData) : Prop where
  len : ∀ {A : Around} {env : Env} {σ : Sto} {mg mb : Str → Option Value} {x : Str} {np p₁ pos : Pos}, Gl hz mg mb → mg "len" = none → mb "len" = some (.builtin "len") → EV prog w hz A env σ (.Name x p₁) T → env.scope.kind = .function →
    env.kindOf "len" = some .globalImplicit → env.globals = mainGlobals → env.builtins = builtinsNs → EV prog w hz A env σ (.Call (.Name "len" np) [.Name x p₁] [] pos) (.int n)
  run : ∀ {A : Around} {env : Env} {σ : Sto} {value f : Expr} {lo : Option Expr} {p₀ pos : Pos} {o₁ : Option Int} {a b : Nat}, EV prog w hz A env σ value T → Part prog w hz A env σ lo o₁ → (o₁ = some (a : Int) ∨ (o₁ = none ∧ a = 0)) →
    EV prog w hz A env σ f (.int (b : Int)) → a ≤ b → b ≤ n → EV prog w hz A env σ (.Subscript value (.Slice lo (some f) none p₀) pos) (cut a b)
theorem cutting_str {prog : Program} {w : World} {hz : Heap} {l : List Nat} (hn : l.length ≤ 1000) : Cutting prog w hz (.str (mk l)) l.length (fun a b => .str (mk (sub l a b))) where
  len := fun G h1 h2 he hk hx hg hbn => ev_lenstr G he (by have : sizeLine = 16777216 := rfl; omega) h1 h2 hk hx hg hbn
  run := fun hv hl ho hf hab hb => ev_strrun hv hl ho hf hab hb (by have : sizeLine = 16777216 := rfl; omega)
theorem cutting_list {prog : Program} {w : World} {hz : Heap} {ds : List PyData} (hn : ds.length ≤ 1000) : Cutting prog w hz (.list ds) ds.length (fun a b => .list (sub ds a b)) where
  len := fun G h1 h2 he hk hx hg hbn => ev_len G he (by have : sizeLine = 16777216 := rfl; omega) h1 h2 hk hx hg hbn
  run := fun {A env σ value f lo p₀ pos o₁ a b} hv hl ho hf hab hb => by
    have hS : sizeLine = 16777216 := rfl
    cases hl with
    | none =>
      rcases ho with ho | ⟨_, rfl⟩
      · cases ho
      · have := ev_upto (p₀ := p₀) (pos := pos) hv hf (by omega) (by omega)
        rw [Int.toNat_natCast] at this
        simpa [sub] using this
    | some he =>
      rcases ho with ho | ⟨ho, _⟩
      · cases ho
        have := ev_run (p₀ := p₀) (pos := pos) hv he hf (by omega) (by omega) (by omega)
        rw [Int.toNat_natCast, Int.toNat_natCast] at this
        exact this
      · cases ho
def partsD (cut : Nat → Nat → PyData) (row : List Int) (n m : Nat) : List PyData := ((List.range m).map (fun i => cut (n - pl row (i + 1)) (n - pl row i)) ++ [cut 0 (n - pl row m)]).reverse
section
variable {prog : Program} {w : World} {hz : Heap} {mg mb : Str → Option Value}
set_option maxHeartbeats 4000000 in
theorem parted_fn {f : Addr} {T : PyData} {n m : Nat} {cut : Nat → Nat → PyData} {row : List Int} (G : Gn hz mg mb) (D : Def q3 hz 9 f) (C : Cutting prog w hz T n cut) (hS : Sane row) (hn : row.length ≤ 1000) (hn0 : 0 < n) (hnl : n ≤ 1000)
    (h1 : ∀ i, i < m → on row i ∧ pl row (i + 1) < n) (h2 : ¬ (on row m ∧ pl row (m + 1) < n)) : FN prog w hz 2 f [T, .list (ils row)] (.list (partsD cut row n m)) := by
  obtain ⟨o, pm, cd, doc, ho, hd, hcd⟩ := D
  obtain ⟨fg, hvg, og, pmg, cdg, docg, hog, hdg, hcdg⟩ := G.gen
  obtain ⟨tc, hcm⟩ := G.cm
  have hSz : sizeLine = 16777216 := rfl
  have gl := G.bi.gl
  have hpm : ∀ k, k ≤ m → pl row k < n := fun k hk => by
    cases k with
    | zero => exact hn0
    | succ k => exact (h1 k (by omega)).2
  have hmn : m < n := by
    have := pl_ge hS (i := m) fun j hj => (h1 j hj).1
    have := hpm m (Nat.le_refl _)
    omega
  refine fn_intro ["things", "row"] ho hd gl.nolimit hcd rfl rfl ?_ ?_ rfl ?_ ?_ rfl rfl rfl
  · intro vs hv
    match vs, hv with
    | [a, b], _ => rfl
  · decide
  · intro L x hx
    simp at hx
    rcases hx with rfl | rfl <;> exact .inl rfl
  intro A L Y sb s E hA F
  refine ex_assign F (C.len gl G.bi.len G.bi.lenb (ev_name rfl) rfl rfl rfl rfl) (fun s₁ F₁ => ?_) (by intro _ _ e; cases e) ⟨.inl rfl, fun _ => rfl, rfl⟩
  refine ex_own F₁ evf_nil (fun s₂ F₂ => ?_) rfl ⟨.inl rfl, fun _ => rfl, rfl⟩
  let ps : Nat → List PyData := fun i => (List.range i).map fun i => cut (n - pl row (i + 1)) (n - pl row i)
  have hpsl : ∀ i, (ps i).length = i := fun i => by simp [ps]
  have fin : ∀ (σ : Sto) (s : Shared), Agree σ [("things", T), ("ending", .int ((n - pl row m : Nat) : Int))] → FS hz (callEnvC (fdOf q3 9 pm cd doc) L f) Y sb [] [] σ (some ("parts", ps m)) s →
      wpAny (model prog w) A (execs ((bodyOf q3 9).drop 3) (callEnvC (fdOf q3 9 pm cd doc) L f)) (fun fl s' => ∃ v, fl = .ret v ∧ Rep Y s'.heap v (.list (partsD cut row n m)) ∧ Kp sb s') E s := by
    intro σ s hag F
    have F := F.as _ hag
    refine ex_append F (C.run (a := 0) (b := n - pl row m) (ev_name rfl) .none (.inr ⟨rfl, rfl⟩) (ev_name rfl) (by omega) (by omega)) (fun s₃ F₃ => ?_) (by rw [hpsl]; omega)
    refine ex_ret F₃ (ev_rev (ev_name rfl) (by simp [hpsl]; omega)) fun v s₄ r F₄ => ⟨v, rfl, r, F₄.out⟩
  refine ex_forgen (row := row) (m + 2) (F₂.as [("things", T), ("row", .list (ils row)), ("ending", .int ((n - pl row 0 : Nat) : Int))] ⟨rfl, rfl, rfl, trivial⟩) gl hvg hog hdg hcdg hcm (ev_name rfl) hA hS.nr
    (fun i σ own => i ≤ m ∧ σ = stoL [("things", T), ("row", .list (ils row)), ("ending", .int ((n - pl row i : Nat) : Int))] ∧ own = some (("parts" : Str), ps i))
    (fun σ own => σ = stoL [("things", T), ("ending", .int ((n - pl row m : Nat) : Int))] ∧ own = some (("parts" : Str), ps m)) ⟨Nat.zero_le _, rfl, rfl⟩ (by omega) ?_ ?_ ?_ ?_ ⟨.inl rfl, fun _ => rfl, rfl⟩
  · rintro i σ own Y' pr' pg' s E' hon ⟨him, rfl, rfl⟩ hY F
    have F := F.as [("things", T), ("row", .list (ils row)), ("ending", .int ((n - pl row i : Nat) : Int)), ("size", .int (yv row i))] ⟨rfl, rfl, rfl, rfl, trivial⟩
    have hps := pl_succ hS hon
    have hyv := hS.yv hon
    have hpi := hpm i him
    refine ex_if (b := decide (yv row i ≥ ((n - pl row i : Nat) : Int))) F (eb_cmp (ev_name rfl) (ev_name rfl) op_ge) fun s₃ F₃ => ?_
    by_cases hlt : pl row (i + 1) < n
    · have him' : i < m := by
        rcases Nat.lt_or_ge i m with h | h
        · exact h
        · have : i = m := by omega
          subst this; exact absurd ⟨hon, hlt⟩ h2
      rw [show decide (yv row i ≥ ((n - pl row i : Nat) : Int)) = false from by simp; omega]
      refine ex_nil (ex_append F₃ (C.run (a := n - pl row (i + 1)) (b := n - pl row i) (ev_name rfl) (.some (ev_bin (ev_name rfl) (ev_name rfl) op_sub)) (.inl ?_) (ev_name rfl) (by omega) (by omega)) (fun s₄ F₄ => ?_) (by rw [hpsl]; omega))
      · congr 1; omega
      have e : ps i ++ [cut (n - pl row (i + 1)) (n - pl row i)] = ps (i + 1) := by simp [ps, List.range_succ]
      rw [e] at F₄
      refine ex_assign F₄ (ev_bin (ev_name rfl) (ev_name rfl) op_sub) (fun s₅ F₅ => ex_nil ⟨by omega, _, _, ⟨by omega, rfl, rfl⟩, F₅.as _ ⟨rfl, rfl, ?_, trivial⟩⟩) (by intro _ _ e; cases e; decide) ⟨.inl rfl, fun _ => rfl, rfl⟩
      have e : ((n - pl row i : Nat) : Int) - yv row i = ((n - pl row (i + 1) : Nat) : Int) := by omega
      rw [e]; rfl
    · have him' : i = m := by
        rcases Nat.lt_or_ge i m with h | h
        · exact absurd (h1 i h).2 hlt
        · omega
      subst him'
      rw [show decide (yv row i ≥ ((n - pl row i : Nat) : Int)) = true from by simp; omega]
      refine ex_break ⟨_, _, ⟨rfl, rfl⟩, F₃.as _ ⟨rfl, rfl, trivial⟩⟩
  · rintro σ own s ⟨him, rfl, rfl⟩ hinf F
    have him' : hds row = m := by
      rcases Nat.lt_or_ge (hds row) m with h | h
      · rcases (h1 _ h).1 with h | h
        · rw [hinf] at h; cases h
        · omega
      · omega
    rw [him'] at F
    exact fin _ s ⟨rfl, rfl, trivial⟩ F
  · rintro σ own s ⟨rfl, rfl⟩ F
    exact fin _ s ⟨rfl, rfl, trivial⟩ F
  · rintro i σ y es ⟨_, _, h⟩
    cases h; decide

theorem parted_x {f : Addr} {T : PyData} {n : Nat} {cut : Nat → Nat → PyData} {row : List Int} (G : Gn hz mg mb) (D : Def q3 hz 9 f) (C : Cutting prog w hz T n cut) (h0 : row.head? = some 0) :
    FNX prog w hz 2 f [T, .list (ils row)] := by
  obtain ⟨o, pm, cd, doc, ho, hd, hcd⟩ := D
  obtain ⟨fg, hvg, og, pmg, cdg, docg, hog, hdg, hcdg⟩ := G.gen
  obtain ⟨tc, hcm⟩ := G.cm
  have gl := G.bi.gl
  refine fn_introX ["things", "row"] ho hd gl.nolimit hcd rfl rfl ?_ ?_ rfl ?_ ?_ rfl rfl rfl
  · intro vs hv
    match vs, hv with
    | [a, b], _ => rfl
  · decide
  · intro L x hx
    simp at hx
    rcases hx with rfl | rfl <;> exact .inl rfl
  intro A L Y sb s E Q outer hA hfr hff F hE
  refine ex_assign F (C.len gl G.bi.len G.bi.lenb (ev_name rfl) rfl rfl rfl rfl) (fun s₁ F₁ => ?_) (by intro _ _ e; cases e) ⟨.inl rfl, fun _ => rfl, rfl⟩
  refine ex_own F₁ evf_nil (fun s₂ F₂ => ?_) rfl ⟨.inl rfl, fun _ => rfl, rfl⟩
  obtain ⟨X, hX, P⟩ := F₂.pre
  exact ex_forgen_raise (row := row) P gl hvg hog hdg hcdg hcm G.ve G.vb (ev_name rfl) hA h0 hfr (F₂.frames rfl rfl hff) rfl fun s' e Fl => hE s₂ e s' F₂.out Fl
end
end Mine
end

section
open PySem PySem.W PyProof.Rows PySem.Calls
namespace Mine
/-- F a, F (a + 1), .. below b -/
def seg {α : Type} (F : Nat → α) (a b : Nat) : List α := (List.range (b - a)).map fun i => F (a + i)
section
variable {α β : Type}
theorem seg_len (F : Nat → α) (a b : Nat) : (seg F a b).length = b - a := by simp [seg]
theorem seg_nil (F : Nat → α) (a : Nat) : seg F a a = [] := by simp [seg]
theorem seg_snoc (F : Nat → α) {a b : Nat} (h : a ≤ b) : seg F a (b + 1) = seg F a b ++ [F b] := by
  unfold seg
  have : b + 1 - a = (b - a) + 1 := by omega
  rw [this, List.range_succ, List.map_append]
  simp only [List.map_cons, List.map_nil]
  congr 3; omega
theorem seg_append (F : Nat → α) {a b c : Nat} (h : a ≤ b) (h' : b ≤ c) : seg F a b ++ seg F b c = seg F a c := by
  obtain ⟨d, rfl⟩ : ∃ d, c = b + d := ⟨c - b, by omega⟩
  clear h'
  induction d with
  | zero => simp [seg_nil]
  | succ d ih => rw [← Nat.add_assoc, seg_snoc F (by omega), seg_snoc F (by omega), ← List.append_assoc, ih]
theorem seg_cons (F : Nat → α) {a b : Nat} (h : a < b) : seg F a b = F a :: seg F (a + 1) b := by
  rw [← seg_append F (show a ≤ a + 1 by omega) (show a + 1 ≤ b by omega), seg_snoc F (Nat.le_refl a), seg_nil]; rfl
theorem seg_map (F : Nat → α) (f : α → β) (a b : Nat) : (seg F a b).map f = seg (fun i => f (F i)) a b := by simp [seg, Function.comp_def]
theorem seg_congr {F G : Nat → α} {a b : Nat} (h : ∀ i, a ≤ i → i < b → F i = G i) : seg F a b = seg G a b := by
  unfold seg
  apply List.map_congr_left
  intro i hi
  have := List.mem_range.mp hi
  exact h _ (by omega) (by omega)
theorem seg_get (F : Nat → α) {a b i : Nat} (h : i < b - a) : (seg F a b)[i]? = some (F (a + i)) := by
  simp [seg, List.getElem?_range h]
theorem sub_seg (F : Nat → α) {a b c : Nat} (h : a ≤ b) (h' : b ≤ c) : sub (seg F 0 c) a b = seg F a b := by
  have e : seg F 0 c = seg F 0 a ++ (seg F a b ++ seg F b c) := by rw [seg_append F h h', seg_append F (by omega) (by omega)]
  unfold sub
  rw [e, List.drop_append_of_le_length (by rw [seg_len]; omega), List.drop_of_length_le (by rw [seg_len]; omega), List.nil_append, List.take_append_of_le_length (by rw [seg_len]; omega), List.take_of_length_le (by rw [seg_len]; omega)]
theorem seg_self (l : List Nat) : seg (fun i => l.getD i 0) 0 l.length = l := by
  apply List.ext_getElem?
  intro i
  rcases Nat.lt_or_ge i l.length with h | h
  · rw [seg_get _ (by omega)]; simp [List.getD_eq_getElem?_getD, h]
  · rw [List.getElem?_eq_none (by rw [seg_len]; omega), List.getElem?_eq_none h]
theorem sub_getD (l : List Nat) {a b : Nat} (h : a ≤ b) (h' : b ≤ l.length) : sub l a b = seg (fun i => l.getD i 0) a b := by
  conv => lhs; rw [← seg_self l]
  exact sub_seg _ h h'
theorem sub_rev (l : List α) {a b : Nat} (h : a ≤ b) (h' : b ≤ l.length) : sub l.reverse (l.length - b) (l.length - a) = (sub l a b).reverse := by
  unfold sub
  rw [List.drop_reverse]
  have e1 : l.length - (l.length - b) = b := by omega
  have e2 : l.length - a - (l.length - b) = b - a := by omega
  rw [e1, e2, List.take_reverse]
  have e3 : (l.take b).length - (b - a) = a := by rw [List.length_take]; omega
  rw [e3, List.drop_take]
theorem seg_rev (F : Nat → α) {a b : Nat} (h : a ≤ b) : (seg F a b).reverse = seg (fun i => F (a + b - 1 - i)) a b := by
  obtain ⟨d, rfl⟩ : ∃ d, b = a + d := ⟨b - a, by omega⟩
  clear h
  induction d with
  | zero => simp [seg_nil]
  | succ d ih =>
    rw [← Nat.add_assoc, seg_snoc F (by omega), List.reverse_append, ih]
    rw [seg_cons (fun i => F (a + (a + d + 1) - 1 - i)) (by omega)]
    have e : a + (a + d + 1) - 1 - a = a + d := by omega
    simp only [e, List.reverse_singleton, List.singleton_append]
    congr 1
    unfold seg
    have e1 : a + d + 1 - (a + 1) = d := by omega
    have e2 : a + d - a = d := by omega
    rw [e1, e2]
    apply List.map_congr_left
    intro i _
    show F (a + (a + d) - 1 - (a + i)) = F (a + (a + d + 1) - 1 - (a + 1 + i))
    rw [show a + (a + d) - 1 - (a + i) = a + (a + d + 1) - 1 - (a + 1 + i) from by omega]
end
theorem flat1 (F : Nat → Nat) (l : List Nat) : (l.map fun i => [F i]).flatten = l.map F := by
  induction l with
  | nil => rfl
  | cons x l ih => simp [ih]
/-- all of it in a row -/
def Wv (f : Nat → List Nat) (a b : Nat) : List Nat := (seg f a b).flatten
theorem Wv_nil (f : Nat → List Nat) (a : Nat) : Wv f a a = [] := by simp [Wv, seg_nil]
theorem Wv_snoc (f : Nat → List Nat) {a b : Nat} (h : a ≤ b) : Wv f a (b + 1) = Wv f a b ++ f b := by simp [Wv, seg_snoc f h]
theorem Wv_append (f : Nat → List Nat) {a b c : Nat} (h : a ≤ b) (h' : b ≤ c) : Wv f a b ++ Wv f b c = Wv f a c := by
  unfold Wv; rw [← List.flatten_append, seg_append f h h']
theorem Wv_cons (f : Nat → List Nat) {a b : Nat} (h : a < b) : Wv f a b = f a ++ Wv f (a + 1) b := by simp [Wv, seg_cons f h]
theorem Wv_congr {f g : Nat → List Nat} {a b : Nat} (h : ∀ i, a ≤ i → i < b → f i = g i) : Wv f a b = Wv g a b := by unfold Wv; rw [seg_congr h]
theorem Wv_comp (g : Nat → List Nat) (pos : Nat → Nat) {a b : Nat} (hab : a ≤ b) (hm : ∀ q, a ≤ q → q < b → pos q ≤ pos (q + 1)) : Wv (fun q => Wv g (pos q) (pos (q + 1))) a b = Wv g (pos a) (pos b) ∧ pos a ≤ pos b := by
  obtain ⟨d, rfl⟩ : ∃ d, b = a + d := ⟨b - a, by omega⟩
  clear hab
  induction d with
  | zero => simp [Wv_nil]
  | succ d ih =>
    obtain ⟨h1, h2⟩ := ih fun q h1 h2 => hm q h1 (by omega)
    have h3 := hm (a + d) (by omega) (by omega)
    rw [← Nat.add_assoc, Wv_snoc _ (by omega), h1, Wv_append g h2 h3]
    exact ⟨rfl, by omega⟩

theorem jn_snoc (sep x : List Nat) : ∀ L : List (List Nat), L ≠ [] → jn sep (L ++ [x]) = jn sep L ++ sep ++ x
  | [], h => absurd rfl h
  | [y], _ => rfl
  | y :: z :: r, _ => by
    have ih := jn_snoc sep x (z :: r) (by simp)
    simp only [List.cons_append] at ih ⊢
    simp only [jn, ih, List.append_assoc]
theorem jn_seg (sep : List Nat) (F : Nat → List Nat) {a b : Nat} (h : a < b) : jn sep (seg F a b) = F a ++ Wv (fun i => sep ++ F i) (a + 1) b := by
  obtain ⟨d, rfl⟩ : ∃ d, b = a + 1 + d := ⟨b - (a + 1), by omega⟩
  clear h
  induction d with
  | zero => rw [Nat.add_zero, seg_snoc F (Nat.le_refl a), seg_nil, Wv_nil]; simp [jn]
  | succ d ih =>
    rw [← Nat.add_assoc, seg_snoc F (by omega), jn_snoc _ _ _ (by intro e; have := congrArg List.length e; simp [seg_len] at this; omega), ih, Wv_snoc _ (by omega)]
    simp [List.append_assoc]
theorem jn_rev (sep : List Nat) (hs : sep.reverse = sep) : ∀ L : List (List Nat), (jn sep L).reverse = jn sep (L.map List.reverse).reverse
  | [] => rfl
  | [x] => by simp [jn]
  | x :: y :: r => by
    have ih := jn_rev sep hs (y :: r)
    have e : ((x :: y :: r).map List.reverse).reverse = ((y :: r).map List.reverse).reverse ++ [x.reverse] := by simp
    rw [e, jn_snoc _ _ _ (by simp), ← ih]
    simp [jn, hs, List.append_assoc]
theorem jn_empty : ∀ L : List (List Nat), jn [] L = L.flatten
  | [] => rfl
  | [x] => by simp [jn]
  | x :: y :: r => by
    have ih := jn_empty (y :: r)
    simp [jn, ih]

/-- the parts of l -/
def partsL {α : Type} (l : List α) (row : List Int) (m : Nat) : List (List α) := ((List.range m).map (fun i => sub l (l.length - pl row (i + 1)) (l.length - pl row i)) ++ [sub l 0 (l.length - pl row m)]).reverse
def posn (row : List Int) (m n q : Nat) : Nat := if q ≤ m then pl row q else n
theorem partsL_len {α : Type} (l : List α) (row : List Int) (m : Nat) : (partsL l row m).length = m + 1 := by simp [partsL]
theorem partsL_seg {α : Type} (l : List α) (row : List Int) (m : Nat) (h : pl row m ≤ l.length) :
    partsL l row m = (seg (fun q => (sub l.reverse (posn row m l.length q) (posn row m l.length (q + 1))).reverse) 0 (m + 1)).reverse := by
  unfold partsL
  congr 1
  rw [seg_snoc _ (Nat.zero_le m)]
  have key : ∀ a b, a ≤ b → b ≤ l.length → sub l (l.length - b) (l.length - a) = (sub l.reverse a b).reverse := fun a b h1 h2 => by
    have := sub_rev l.reverse h1 (by simpa using h2)
    simpa using this
  congr 1
  · unfold seg
    rw [Nat.sub_zero]
    apply List.map_congr_left
    intro i hi
    have hi := List.mem_range.mp hi
    rw [Nat.zero_add]
    have e1 : posn row m l.length i = pl row i := by unfold posn; rw [if_pos (by omega)]
    have e2 : posn row m l.length (i + 1) = pl row (i + 1) := by unfold posn; rw [if_pos (by omega)]
    show _ = (sub l.reverse (posn row m l.length i) (posn row m l.length (i + 1))).reverse
    rw [e1, e2]
    exact key _ _ (pl_mono row (by omega)) (Nat.le_trans (pl_mono row (by omega)) h)
  · have e1 : posn row m l.length m = pl row m := by unfold posn; rw [if_pos (by omega)]
    have e2 : posn row m l.length (m + 1) = l.length := by unfold posn; rw [if_neg (by omega)]
    show _ = [(sub l.reverse (posn row m l.length m) (posn row m l.length (m + 1))).reverse]
    rw [e1, e2]
    have := key (pl row m) l.length h (Nat.le_refl _)
    rw [Nat.sub_self] at this
    rw [this]

section
variable {cs : List Nat} {n m₁ m₂ : Nat} {pos pos2 : Nat → Nat}
/-- how two rows lie upon each other -/
structure Lay (n m₁ m₂ : Nat) (pos pos2 : Nat → Nat) : Prop where
  p0 : pos 0 = 0
  pn : pos (m₁ + 1) = n
  pm : ∀ q, q ≤ m₁ → pos q < pos (q + 1)
  q0 : pos2 0 = 0
  qn : pos2 (m₂ + 1) = m₁ + 1
  qm : ∀ j, j ≤ m₂ → pos2 j < pos2 (j + 1)
theorem Lay.le (L : Lay n m₁ m₂ pos pos2) {a b : Nat} (h : a ≤ b) (hb : b ≤ m₁ + 1) : pos a ≤ pos b := (Wv_comp (fun _ => []) pos h fun q _ h2 => Nat.le_of_lt (L.pm q (by omega))).2
theorem Lay.le2 (L : Lay n m₁ m₂ pos pos2) {a b : Nat} (h : a ≤ b) (hb : b ≤ m₂ + 1) : pos2 a ≤ pos2 b := (Wv_comp (fun _ => []) pos2 h fun q _ h2 => Nat.le_of_lt (L.qm q (by omega))).2
theorem Lay.lt (L : Lay n m₁ m₂ pos pos2) {a b : Nat} (h : a < b) (hb : b ≤ m₁ + 1) : pos a < pos b := by
  have h1 := L.pm a (by omega)
  have h2 := L.le (a := a + 1) (b := b) (by omega) hb
  omega
theorem Lay.lt2 (L : Lay n m₁ m₂ pos pos2) {a b : Nat} (h : a < b) (hb : b ≤ m₂ + 1) : pos2 a < pos2 b := by
  have h1 := L.qm a (by omega)
  have h2 := L.le2 (a := a + 1) (b := b) (by omega) hb
  omega
theorem Lay.top (L : Lay n m₁ m₂ pos pos2) {j : Nat} (h : j ≤ m₂ + 1) : pos2 j ≤ m₁ + 1 := by
  have := L.le2 h (Nat.le_refl _); rw [L.qn] at this; exact this
theorem Lay.end (L : Lay n m₁ m₂ pos pos2) {q : Nat} (h : q ≤ m₁ + 1) : pos q ≤ n := by
  have := L.le h (Nat.le_refl _); rw [L.pn] at this; exact this

/-- the bundles, from the right -/
def bun (R : List Nat) (pos pos2 : Nat → Nat) (m₂ : Nat) : List (List (List Nat)) :=
  (seg (fun j => (seg (fun q => (sub R (pos q) (pos (q + 1))).reverse) (pos2 j) (pos2 (j + 1))).reverse) 0 (m₂ + 1)).reverse

/-- the signs with their marks -/
theorem due_rev (sepAt : Nat → List Nat) (hsr : ∀ p, (sepAt p).reverse = sepAt p) (hn : cs.length = n) (h0 : 0 < n) :
    ([cs.getD 0 0] ++ Wv (fun k => sepAt (n - k) ++ [cs.getD k 0]) 1 n).reverse = Wv (fun p => (if p = 0 then [] else sepAt p) ++ [cs.reverse.getD p 0]) 0 n := by
  have hR : ∀ i, i < n → cs.reverse.getD i 0 = cs.getD (n - 1 - i) 0 := fun i hi => by
    rw [List.getD_eq_getElem?_getD, List.getD_eq_getElem?_getD, List.getElem?_reverse (by omega), hn]
  have e1 : (Wv (fun k => sepAt (n - k) ++ [cs.getD k 0]) 1 n).reverse = Wv (fun i => [cs.reverse.getD (i - 1) 0] ++ sepAt i) 1 n := by
    unfold Wv
    rw [List.reverse_flatten, seg_map, seg_rev _ (by omega)]
    congr 1
    apply seg_congr
    intro i h1 h2
    have e : n - (1 + n - 1 - i) = i := by omega
    simp only [e, List.reverse_append, hsr, List.reverse_singleton]
    rw [hR (i - 1) (by omega)]
    have : 1 + n - 1 - i = n - 1 - (i - 1) := by omega
    rw [this]
  rw [List.reverse_append, e1]
  have e2 : [cs.getD 0 0].reverse = [cs.reverse.getD (n - 1) 0] := by
    rw [hR (n - 1) (by omega), Nat.sub_self]; rfl
  rw [e2]
  have key : ∀ k, 0 < k → Wv (fun i => [cs.reverse.getD (i - 1) 0] ++ sepAt i) 1 k ++ [cs.reverse.getD (k - 1) 0] = Wv (fun p => (if p = 0 then [] else sepAt p) ++ [cs.reverse.getD p 0]) 0 k := by
    intro k hk
    obtain ⟨d, rfl⟩ : ∃ d, k = 1 + d := ⟨k - 1, by omega⟩
    clear hk
    induction d with
    | zero => rw [Nat.add_zero, Wv_nil, Wv_snoc _ (Nat.zero_le 0), Wv_nil]; simp
    | succ d ih =>
      rw [← Nat.add_assoc, Wv_snoc _ (by omega), Wv_snoc _ (by omega), ← ih]
      have : 1 + d ≠ 0 := by omega
      simp only [if_neg this, List.append_assoc]
      rfl
  exact key n h0

theorem bundles_join (L : Lay n m₁ m₂ pos pos2) (hn : cs.length = n) (h0 : 0 < n) (sepAt : Nat → List Nat) (hsr : ∀ p, (sepAt p).reverse = sepAt p)
    (hs0 : ∀ p, (∀ q, 1 ≤ q → q ≤ m₁ → p ≠ pos q) → sepAt p = [])
    (hs1 : ∀ q, 1 ≤ q → q ≤ m₁ → (∀ j, 1 ≤ j → j ≤ m₂ → q ≠ pos2 j) → sepAt (pos q) = [44])
    (hs2 : ∀ j, 1 ≤ j → j ≤ m₂ → sepAt (pos (pos2 j)) = [59]) :
    jn [59] ((bun cs.reverse pos pos2 m₂).map (jn [44])) = [cs.getD 0 0] ++ Wv (fun k => sepAt (n - k) ++ [cs.getD k 0]) 1 n := by
  rw [← List.reverse_inj, due_rev sepAt hsr hn h0, jn_rev [59] rfl]
  have hRl : cs.reverse.length = n := by simpa using hn
  generalize cs.reverse = R at *
  let Y : Nat → List Nat := fun q => sub R (pos q) (pos (q + 1))
  let B : Nat → List Nat := fun j => jn [44] (seg Y (pos2 j) (pos2 (j + 1)))
  have eL : (((bun R pos pos2 m₂).map (jn [44])).map List.reverse).reverse = seg B 0 (m₂ + 1) := by
    unfold bun
    rw [List.map_reverse, List.map_reverse, List.reverse_reverse, seg_map, seg_map]
    apply seg_congr
    intro j _ _
    rw [jn_rev [44] rfl, List.map_reverse, List.reverse_reverse, seg_map]
    simp only [List.reverse_reverse]; rfl
  rw [eL]
  let g : Nat → List Nat := fun p => (if p = 0 then [] else sepAt p) ++ [R.getD p 0]
  let h : Nat → List Nat := fun q => Wv g (pos q) (pos (q + 1))
  have c1 : Wv h 0 (m₁ + 1) = Wv g 0 n := by
    have := (Wv_comp g pos (Nat.zero_le (m₁ + 1)) fun q _ h2 => Nat.le_of_lt (L.pm q (by omega))).1
    rw [L.p0, L.pn] at this; exact this
  have c2 : Wv (fun j => Wv h (pos2 j) (pos2 (j + 1))) 0 (m₂ + 1) = Wv h 0 (m₁ + 1) := by
    have := (Wv_comp h pos2 (Nat.zero_le (m₂ + 1)) fun q _ h2 => Nat.le_of_lt (L.qm q (by omega))).1
    rw [L.q0, L.qn] at this; exact this
  -- one part
  have hh : ∀ q, q ≤ m₁ → h q = (if q = 0 then [] else sepAt (pos q)) ++ Y q := by
    intro q hq
    have hlt := L.pm q hq
    have hen := L.end (q := q + 1) (by omega)
    have e1 : Y q = [R.getD (pos q) 0] ++ Wv (fun p => [R.getD p 0]) (pos q + 1) (pos (q + 1)) := by
      show sub R (pos q) (pos (q + 1)) = _
      rw [sub_getD R (by omega) (by omega), seg_cons _ hlt]
      simp only [List.singleton_append]
      congr 1
      unfold Wv
      unfold seg
      exact (flat1 (fun i => R.getD (pos q + 1 + i) 0) _).symm
    have e2 : Wv g (pos q + 1) (pos (q + 1)) = Wv (fun p => [R.getD p 0]) (pos q + 1) (pos (q + 1)) := by
      apply Wv_congr
      intro p h1 h2
      have hz : sepAt p = [] := by
        refine hs0 p fun q' h3 h4 e => ?_
        rcases Nat.lt_or_ge q q' with h5 | h5
        · have := L.le (a := q + 1) (b := q') (by omega) (by omega); omega
        · have := L.le (a := q') (b := q) (by omega) (by omega); omega
      have hp : p ≠ 0 := by omega
      simp only [g, if_neg hp, hz, List.nil_append]
    show Wv g (pos q) (pos (q + 1)) = _
    rw [Wv_cons g hlt, e2, e1]
    have e3 : (pos q = 0) ↔ q = 0 := by
      constructor
      · intro h
        rcases Nat.eq_zero_or_pos q with h' | h'
        · exact h'
        · have := L.lt (a := 0) (b := q) h' (by omega); rw [L.p0] at this; omega
      · rintro rfl; exact L.p0
    simp only [g, e3, List.append_assoc]
  -- one bundle
  have hH : ∀ j, j ≤ m₂ → Wv h (pos2 j) (pos2 (j + 1)) = (if j = 0 then [] else [59]) ++ B j := by
    intro j hj
    have hlt := L.qm j hj
    have htop := L.top (j := j + 1) (by omega)
    have e1 : B j = Y (pos2 j) ++ Wv (fun q => [44] ++ Y q) (pos2 j + 1) (pos2 (j + 1)) := jn_seg [44] Y hlt
    have e2 : Wv h (pos2 j + 1) (pos2 (j + 1)) = Wv (fun q => [44] ++ Y q) (pos2 j + 1) (pos2 (j + 1)) := by
      apply Wv_congr
      intro q h1 h2
      have hq : sepAt (pos q) = [44] := by
        refine hs1 q (by omega) (by omega) fun j' h3 h4 e => ?_
        rcases Nat.lt_or_ge j j' with h5 | h5
        · have := L.le2 (a := j + 1) (b := j') (by omega) (by omega); omega
        · have := L.le2 (a := j') (b := j) (by omega) (by omega); omega
      rw [hh q (by omega), if_neg (by omega), hq]
    rw [Wv_cons h hlt, e2, e1, hh _ (by omega)]
    by_cases hj0 : j = 0
    · subst hj0
      rw [L.q0]; simp
    · have hp : pos2 j ≠ 0 := by
        have := L.lt2 (a := 0) (b := j) (by omega) (by omega); rw [L.q0] at this; omega
      rw [if_neg hp, if_neg hj0, hs2 j (by omega) hj]
      simp [List.append_assoc]
  rw [← c1, ← c2, Wv_cons _ (by omega), hH 0 (Nat.zero_le _), jn_seg [59] B (by omega), if_pos rfl, List.nil_append]
  congr 1
  apply Wv_congr
  intro j h1 h2
  rw [hH j (by omega), if_neg (by omega)]

/-- the bundles without marks -/
theorem bundles_flat (L : Lay n m₁ m₂ pos pos2) {R : List Nat} (hn : R.length = n) : (bun R pos pos2 m₂).map (jn []) = (seg (fun j => (sub R (pos (pos2 j)) (pos (pos2 (j + 1)))).reverse) 0 (m₂ + 1)).reverse := by
  unfold bun
  rw [List.map_reverse, seg_map]
  congr 1
  apply seg_congr
  intro j _ hj
  have hlt := L.qm j (by omega)
  have htop := L.top (j := j + 1) (by omega)
  rw [jn_empty]
  have e1 : (seg (fun q => (sub R (pos q) (pos (q + 1))).reverse) (pos2 j) (pos2 (j + 1))).reverse.flatten = (Wv (fun q => sub R (pos q) (pos (q + 1))) (pos2 j) (pos2 (j + 1))).reverse := by
    unfold Wv
    rw [List.reverse_flatten, seg_map]
  rw [e1]
  congr 1
  have e2 : Wv (fun q => sub R (pos q) (pos (q + 1))) (pos2 j) (pos2 (j + 1)) = Wv (fun q => Wv (fun i => [R.getD i 0]) (pos q) (pos (q + 1))) (pos2 j) (pos2 (j + 1)) := by
    apply Wv_congr
    intro q h1 h2
    have := L.pm q (by omega)
    have := L.end (q := q + 1) (by omega)
    rw [sub_getD R (by omega) (by omega)]
    unfold Wv seg
    exact (flat1 (fun i => R.getD (pos q + i) 0) _).symm
  have h3 := L.le (a := pos2 j) (b := pos2 (j + 1)) (by omega) htop
  have h4 := L.end htop
  rw [e2, (Wv_comp _ pos (by omega) fun q _ h2 => Nat.le_of_lt (L.pm q (by omega))).1, sub_getD R h3 (by omega)]
  unfold Wv seg
  exact flat1 (fun i => R.getD (pos (pos2 j) + i) 0) _
end
end Mine
end

section
open PySem PySem.W PyProof.Rows PySem.Calls
namespace Mine
/-- m is the number of the places below n -/
def Ix (row : List Int) (n m : Nat) : Prop := (∀ i, i < m → on row i ∧ pl row (i + 1) < n) ∧ ¬ (on row m ∧ pl row (m + 1) < n)
theorem Ix.mono {row : List Int} {n m n' m' : Nat} (h : Ix row n m) (h' : Ix row n' m') (hn : n ≤ n') : m ≤ m' := by
  rcases Nat.lt_or_ge m' m with hl | hl
  · obtain ⟨a, b⟩ := h.1 m' hl
    exact absurd ⟨a, by omega⟩ h'.2
  · exact hl
theorem Ix.lt {row : List Int} {n m : Nat} (h : Ix row n m) (h0 : 0 < n) {k : Nat} (hk : k ≤ m) : pl row k < n := by
  cases k with
  | zero => exact h0
  | succ k => exact (h.1 k (by omega)).2
theorem wide_eq {I O : List Int} (hO : Sane O) {m₁ m₂ : Nat} (h : Ix O (m₁ + 1) m₂) {narrow : List Int} (hn : narrow = (List.range m₁).map fun i => (pl I (i + 1) : Int)) :
    wideR O narrow = (List.range m₂).map fun j => (pl I (pl O (j + 1)) : Int) := by
  have hl : narrow.length = m₁ := by rw [hn]; simp
  unfold wideR
  rw [hl, places_eq hO h.1 h.2, List.map_map]
  apply List.map_congr_left
  intro j hj
  have hj := List.mem_range.mp hj
  have h1 := (h.1 j hj).2
  have h2 := pl_lts hO (i := 0) (j := j + 1) (by omega) (on_down (h.1 j hj).1 (by omega))
  simp only [Function.comp]
  obtain ⟨k, hk⟩ : ∃ k, pl O (j + 1) = k + 1 := ⟨pl O (j + 1) - 1, by omega⟩
  rw [hk]
  have e : (((k + 1 : Nat) : Int) - 1).toNat = k := by omega
  rw [e, hn, List.getD_eq_getElem?_getD, List.getElem?_map, List.getElem?_range (by omega)]
  rfl
theorem sizes_eq (p : Nat → Nat) (hp : p 0 = 0) (m : Nat) : sizesR ([(0 : Int)] ++ (List.range m).map fun j => (p (j + 1) : Int)) = (List.range m).map fun j => (p (j + 1) : Int) - p j := by
  unfold sizesR
  have hg : ∀ k, k ≤ m → ([(0 : Int)] ++ (List.range m).map fun j => (p (j + 1) : Int)).getD k 0 = p k := by
    intro k hk
    cases k with
    | zero => simp [hp]
    | succ k => simp [List.getD_eq_getElem?_getD, List.getElem?_range (show k < m from by omega)]
  have hl : ([(0 : Int)] ++ (List.range m).map fun j => (p (j + 1) : Int)).length - 1 = m := by simp
  rw [hl]
  unfold upFrom
  rw [List.map_map]
  apply List.map_congr_left
  intro k hk
  have hk := List.mem_range.mp hk
  simp only [Function.comp]
  have e1 : ((1 : Int) + (k : Int)).toNat = k + 1 := by omega
  have e2 : ((1 : Int) + (k : Int) - 1).toNat = k := by omega
  rw [e1, e2, hg _ (by omega), hg _ (by omega)]
theorem hds_all : ∀ {l : List Int}, (∀ x ∈ l, stops x = false) → ∀ r, hds (l ++ r) = l.length + hds r
  | [], _, r => by simp
  | x :: l, h, r => by
    have ih := hds_all (l := l) (fun y hy => h y (List.mem_cons_of_mem _ hy)) r
    have hx := h x (by simp)
    simp only [List.cons_append, hds, hx, ih, List.length_cons]
    simp; omega
theorem stops_mid {x : Int} (h : 1 ≤ x) (h' : x < 127) : stops x = false := by
  simp [stops]; omega
/-- rows with small sizes -/
structure Small (row : List Int) : Prop extends Sane row where
  le3 : ∀ j, j < hds row → row.getD j 0 ≤ 3
  short : hds row ≤ 7
theorem Small.pl3 {row : List Int} (h : Small row) : ∀ i, (∀ j, j < i → on row j) → pl row i ≤ 3 * i
  | 0, _ => by simp [pl]
  | i + 1, ho => by
    have ih := h.pl3 i fun j hj => ho j (by omega)
    have h1 := pl_succ h.toSane (ho i (by omega))
    have hy : yv row i ≤ 3 := by
      unfold yv
      split
      · rename_i hlt; exact h.le3 i hlt
      · rename_i hge
        rcases ho i (by omega) with hi | hi
        · refine h.le3 _ ?_
          rcases Nat.eq_zero_or_pos (hds row) with h0 | h0
          · have := h.nr h0; rw [hi] at this; cases this
          · omega
        · exact absurd hi hge
    omega
theorem Small.far {row : List Int} (h : Small row) (hi : inf row = true) {n m : Nat} (hx : Ix row n m) {k : Nat} (hk : 3 * k < n) : k ≤ m := by
  rcases Nat.lt_or_ge m k with hl | hl
  · have := h.pl3 (m + 1) fun j _ => .inl hi
    exact absurd ⟨.inl hi, by omega⟩ hx.2
  · exact hl

theorem tog_spec {I O : List Int} (hI : Small I) (hO : Small O) {n m₁ m₂ : Nat} (hn0 : 0 < n) (hn : n ≤ 100) (h₁ : Ix I n m₁) (h₂ : Ix O (m₁ + 1) m₂) :
    Sane (togR I O) ∧ (togR I O).length ≤ 1000 ∧ Ix (togR I O) n m₂ ∧ ∀ j, j ≤ m₂ → pl (togR I O) j = pl I (pl O j) := by
  have sI := hI.toSane
  have sO := hO.toSane
  obtain ⟨M₁, hM₁⟩ := exists_m sI 100
  obtain ⟨M₂, hM₂⟩ := exists_m sO (M₁ + 1)
  have hM₁ : Ix I 100 M₁ := hM₁
  have hM₂ : Ix O (M₁ + 1) M₂ := hM₂
  have l1 := h₁.mono hM₁ hn
  have l2 := h₂.mono hM₂ (by omega)
  have hMl : M₁ ≤ 100 := by
    have := pl_ge sI (i := M₁) fun j hj => (hM₁.1 j hj).1
    have := hM₁.lt (by omega) (Nat.le_refl _)
    omega
  have hM2l : M₂ ≤ 100 := by
    have := pl_ge sO (i := M₂) fun j hj => (hM₂.1 j hj).1
    have := hM₂.lt (by omega) (Nat.le_refl _)
    omega
  let p : Nat → Nat := fun j => pl I (pl O j)
  let D : Nat → Int := fun j => (p (j + 1) : Int) - p j
  have hsz : sizesR ([0] ++ wideR O (placesR I ((100 : Nat) : Int))) = (List.range M₂).map D := by
    rw [wide_eq sO hM₂ (places_eq sI hM₁.1 hM₁.2)]
    exact sizes_eq p (by simp [p, pl]) M₂
  -- the steps below the hundred
  have hD : ∀ j, j < M₂ → 1 ≤ D j ∧ D j < 100 := by
    intro j hj
    obtain ⟨a, b⟩ := hM₂.1 j hj
    have h3 := pl_lts sO (i := j) (j := j + 1) (by omega) a
    have h4 := pl_lts sI (i := pl O j) (j := pl O (j + 1)) h3 (hM₁.1 (pl O j) (by omega)).1
    have h5 := hM₁.lt (by omega) (k := pl O (j + 1)) (by omega)
    show 1 ≤ ((pl I (pl O (j + 1)) : Int) - pl I (pl O j)) ∧ ((pl I (pl O (j + 1)) : Int) - pl I (pl O j)) < 100
    omega
  have hst : ∀ m, m ≤ M₂ → ∀ x ∈ (List.range m).map D, stops x = false := by
    intro m hm x hx
    obtain ⟨j, hj, rfl⟩ := List.mem_map.mp hx
    have := hD j (by have := List.mem_range.mp hj; omega)
    exact stops_mid this.1 (by omega)
  have hgD : ∀ m j, j < m → ((List.range m).map D).getD j 0 = D j := by
    intro m j hj
    rw [List.getD_eq_getElem?_getD, List.getElem?_map, List.getElem?_range hj]; rfl
  have below : ∀ i, i < m₂ → p (i + 1) < n := by
    intro i hi
    have := (h₂.1 i hi).2
    exact h₁.lt hn0 (by omega)
  have above : (on O m₂) → (∀ q, q < pl O (m₂ + 1) → on I q) → ¬ p (m₂ + 1) < n := by
    intro ho hq hlt
    refine h₂.2 ⟨ho, ?_⟩
    rcases Nat.lt_or_ge m₁ (pl O (m₂ + 1)) with h | h
    · have h3 := pl_mono I (i := m₁ + 1) (j := pl O (m₂ + 1)) (by omega)
      exact absurd ⟨hq m₁ h, by show pl I (m₁ + 1) < n; have : pl I (pl O (m₂ + 1)) < n := hlt; omega⟩ h₁.2
    · omega
  unfold togR
  simp only [hsz]
  by_cases hc : inf I = true ∧ inf O = true
  · rw [if_pos hc]
    obtain ⟨iI, iO⟩ := hc
    generalize hM : max (hds I) (hds O) = M
    have hM7 : M ≤ 7 := by have := hI.short; have := hO.short; omega
    have hI0 : 0 < hds I := by
      rcases Nat.eq_zero_or_pos (hds I) with h0 | h0
      · have := sI.nr h0; rw [iI] at this; cases this
      · exact h0
    have hO0 : 0 < hds O := by
      rcases Nat.eq_zero_or_pos (hds O) with h0 | h0
      · have := sO.nr h0; rw [iO] at this; cases this
      · exact h0
    have hMM : M ≤ M₂ := by
      have := hI.far iI hM₁ (k := 33) (by omega)
      have := hO.far iO hM₂ (k := 11) (by omega)
      omega
    have ht : ((List.range M₂).map D).take M = (List.range M).map D := by
      rw [← List.map_take, List.take_range, Nat.min_eq_left hMM]
    rw [ht]
    generalize hT : (List.range M).map D ++ [0] = T
    have hTh : hds T = M := by
      rw [← hT, hds_all (hst M hMM)]; simp [hds, stops]
    have hTi : inf T = true := by
      unfold inf
      rw [hTh, ← hT, List.drop_left' (by simp)]; simp
    have hTg : ∀ j, j < M → T.getD j 0 = D j := by
      intro j hj
      rw [← hT, List.getD_eq_getElem?_getD, List.getElem?_append_left (by simpa using hj), ← List.getD_eq_getElem?_getD]
      exact hgD M j hj
    have hTs : Sane T := ⟨fun j hj => by rw [hTg j (by omega)]; exact (hD j (by omega)).1, fun h0 => by omega⟩
    -- from the last head on the steps are alike
    have hOs : ∀ j, M - 1 ≤ j → (pl O (j + 1) : Int) = pl O j + O.getD (hds O - 1) 0 := by
      intro j hj
      rw [pl_succ sO (.inl iO)]
      congr 1
      unfold yv
      split
      · have : j = hds O - 1 := by omega
        rw [this]
      · rfl
    have hIs : ∀ q k, M - 1 ≤ q → (pl I (q + k) : Int) = pl I q + k * I.getD (hds I - 1) 0 := by
      intro q k hq
      induction k with
      | zero => simp
      | succ k ih =>
        rw [← Nat.add_assoc, pl_succ sI (.inl iI), ih]
        have : yv I (q + k) = I.getD (hds I - 1) 0 := by
          unfold yv
          split
          · have : q + k = hds I - 1 := by omega
            rw [this]
          · rfl
        rw [this]
        push_cast
        rw [Int.add_mul, Int.one_mul]; omega
    have hDs : ∀ j, M - 1 ≤ j → D j = O.getD (hds O - 1) 0 * I.getD (hds I - 1) 0 := by
      intro j hj
      have hs := sO.pos (hds O - 1) (by omega)
      have h3 := hOs j hj
      have h4 := pl_ge sO (i := j) fun k _ => .inl iO
      have e : pl O (j + 1) = pl O j + (O.getD (hds O - 1) 0).toNat := by omega
      show ((pl I (pl O (j + 1)) : Int) - pl I (pl O j)) = _
      rw [e, hIs _ _ (by omega)]
      have : (((O.getD (hds O - 1) 0).toNat : Nat) : Int) = O.getD (hds O - 1) 0 := by omega
      rw [this]; omega
    have hTy : ∀ j, yv T j = D j := by
      intro j
      unfold yv
      rw [hTh]
      split
      · rename_i h; exact hTg j h
      · rename_i h
        rw [hTg (M - 1) (by omega), hDs _ (Nat.le_refl _), hDs j (by omega)]
    have hTp : ∀ j, pl T j = p j := by
      intro j
      induction j with
      | zero => simp [pl, p]
      | succ j ih =>
        have h3 := pl_succ hTs (i := j) (.inl hTi)
        rw [hTy, ih] at h3
        have h4 : D j = (p (j + 1) : Int) - p j := rfl
        omega
    refine ⟨hTs, by rw [← hT]; simp; omega, ⟨fun i hi => ⟨.inl hTi, by rw [hTp]; exact below i hi⟩, ?_⟩, fun j _ => hTp j⟩
    rintro ⟨_, hlt⟩
    rw [hTp] at hlt
    exact above (.inl iO) (fun _ _ => .inl iI) hlt
  · rw [if_neg hc]
    generalize hT : (List.range M₂).map D = T
    have hTl : T.length = M₂ := by rw [← hT]; simp
    have hTh : hds T = M₂ := by
      have := hds_all (hst M₂ (Nat.le_refl _)) []
      rw [List.append_nil, hT] at this
      rw [this, hTl]; rfl
    have hTi : inf T = false := inf_end (by rw [hTh, hTl])
    have hTg : ∀ j, j < M₂ → T.getD j 0 = D j := by
      intro j hj
      rw [← hT]; exact hgD M₂ j hj
    have hTs : Sane T := ⟨fun j hj => by rw [hTg j (by omega)]; exact (hD j (by omega)).1, fun _ => hTi⟩
    have hTp : ∀ j, j ≤ M₂ → pl T j = p j := by
      intro j
      induction j with
      | zero => intro _; simp [pl, p]
      | succ j ih =>
        intro hj
        have h3 := pl_succ hTs (i := j) (.inr (by omega))
        have h5 : yv T j = D j := by unfold yv; rw [if_pos (by omega), hTg j (by omega)]
        rw [h5, ih (by omega)] at h3
        have h4 : D j = (p (j + 1) : Int) - p j := rfl
        omega
    refine ⟨hTs, by omega, ⟨fun i hi => ⟨.inr (by omega), by rw [hTp _ (by omega)]; exact below i hi⟩, ?_⟩, fun j hj => hTp j (by omega)⟩
    rintro ⟨ho, hlt⟩
    rcases ho with ho | ho
    · rw [hTi] at ho; cases ho
    · rw [hTp _ (by omega)] at hlt
      obtain ⟨a, b⟩ := hM₂.1 m₂ (by omega)
      exact above a (fun q hq => (hM₁.1 q (by omega)).1) hlt
end Mine
end

section
open PySem PySem.W PyProof.Rows PySem.Calls
namespace Mine
theorem sub_len {α : Type} (l : List α) (a b : Nat) : (sub l a b).length ≤ l.length := by unfold sub; simp; omega
theorem sub_mem {α : Type} {l : List α} {a b : Nat} {x : α} (h : x ∈ sub l a b) : x ∈ l := List.mem_of_mem_drop (List.mem_of_mem_take h)
theorem sub_map {α β : Type} (l : List α) (f : α → β) (a b : Nat) : sub (l.map f) a b = (sub l a b).map f := by simp [sub, List.map_take, List.map_drop]
theorem mem_parts {α : Type} {l : List α} {row : List Int} {m : Nat} {x : List α} (h : x ∈ partsL l row m) : ∃ a b, x = sub l a b := by
  unfold partsL at h
  rw [List.mem_reverse, List.mem_append] at h
  rcases h with h | h
  · obtain ⟨i, _, rfl⟩ := List.mem_map.mp h
    exact ⟨_, _, rfl⟩
  · rw [List.mem_singleton.mp h]; exact ⟨_, _, rfl⟩
theorem partsD_str (cs : List Nat) (row : List Int) (m : Nat) : partsD (fun a b => .str (mk (sub cs a b))) row cs.length m = sls (partsL cs row m) := by
  simp [partsD, partsL, Function.comp_def]
theorem partsD_list (P : List (List Nat)) (row : List Int) (m : Nat) : partsD (fun a b => .list (sub (sls P) a b)) row P.length m = (partsL P row m).map fun b => .list (sls b) := by
  simp [partsD, partsL, Function.comp_def, sub_map]
def unS : PyData → List (List Nat)
  | .list ds => ds.map fun d => match d with
    | .str x => x.cps.toList
    | _ => []
  | _ => []
theorem unS_sls (b : List (List Nat)) : unS (.list (sls b)) = b := by
  simp [unS, Function.comp_def, mk]
theorem sum_len : ∀ {l : List (List Nat)} {B : Nat}, (∀ x ∈ l, x.length ≤ B) → (l.map (·.length)).sum ≤ l.length * B
  | [], _, _ => by simp
  | x :: l, B, h => by
    have ih := sum_len (l := l) fun y hy => h y (List.mem_cons_of_mem _ hy)
    have := h x (by simp)
    simp only [List.map_cons, List.sum_cons, List.length_cons, Nat.add_mul, Nat.one_mul]
    omega
theorem jn_len (sep : List Nat) : ∀ l : List (List Nat), (jn sep l).length ≤ (l.map (·.length)).sum + l.length * sep.length
  | [] => by simp [jn]
  | [x] => by simp [jn]
  | x :: y :: r => by
    have ih := jn_len sep (y :: r)
    simp only [jn, List.length_append, List.map_cons, List.sum_cons, List.length_cons, Nat.add_mul, Nat.one_mul] at ih ⊢
    omega

section
variable {I O : List Int} {n m₁ m₂ : Nat}
theorem posn_lo {row : List Int} {m n q : Nat} (h : q ≤ m) : posn row m n q = pl row q := by unfold posn; rw [if_pos h]
theorem posn_hi {row : List Int} {m n : Nat} : posn row m n (m + 1) = n := by unfold posn; rw [if_neg (by omega)]
theorem lay_of (hI : Sane I) (hO : Sane O) (h0 : 0 < n) (h₁ : Ix I n m₁) (h₂ : Ix O (m₁ + 1) m₂) : Lay n m₁ m₂ (posn I m₁ n) (posn O m₂ (m₁ + 1)) := by
  refine ⟨by rw [posn_lo (Nat.zero_le _)]; rfl, posn_hi, fun q hq => ?_, by rw [posn_lo (Nat.zero_le _)]; rfl, posn_hi, fun j hj => ?_⟩
  · rw [posn_lo hq]
    by_cases h : q = m₁
    · subst h; rw [posn_hi]; exact h₁.lt h0 (Nat.le_refl _)
    · rw [posn_lo (by omega)]; exact pl_lt hI (h₁.1 q (by omega)).1
  · rw [posn_lo hj]
    by_cases h : j = m₂
    · subst h; rw [posn_hi]; exact h₂.lt (by omega) (Nat.le_refl _)
    · rw [posn_lo (by omega)]; exact pl_lt hO (h₂.1 j (by omega)).1
theorem bundles_bun {cs : List Nat} (hI : Sane I) (hO : Sane O) (hn : cs.length = n) (h0 : 0 < n) (h₁ : Ix I n m₁) (h₂ : Ix O (m₁ + 1) m₂) :
    partsL (partsL cs I m₁) O m₂ = bun cs.reverse (posn I m₁ n) (posn O m₂ (m₁ + 1)) m₂ := by
  subst hn
  have L := lay_of hI hO h0 h₁ h₂
  rw [partsL_seg (partsL cs I m₁) O m₂ (by rw [partsL_len]; exact Nat.le_of_lt (h₂.lt (by omega) (Nat.le_refl _))), partsL_len]
  unfold bun
  congr 1
  apply seg_congr
  intro j _ hj
  rw [partsL_seg cs I m₁ (Nat.le_of_lt (h₁.lt h0 (Nat.le_refl _))), List.reverse_reverse]
  rw [sub_seg _ (Nat.le_of_lt (L.qm j (by omega))) (L.top (by omega))]

def narrowL (I : List Int) (m₁ : Nat) : List Int := (List.range m₁).map fun i => (pl I (i + 1) : Int)
def wideL (I O : List Int) (m₂ : Nat) : List Int := (List.range m₂).map fun j => (pl I (pl O (j + 1)) : Int)
def sepAt (wide narrow : List Int) (p : Nat) : List Nat := if wide.any (· == (p : Int)) = true then [59] else if narrow.any (· == (p : Int)) = true then [44] else []
theorem any_iff {l : List Int} {p : Int} : l.any (· == p) = true ↔ p ∈ l := by
  rw [List.any_eq_true]
  constructor
  · rintro ⟨x, hx, e⟩; rw [← beq_iff_eq.mp e]; exact hx
  · intro h; exact ⟨p, h, by simp⟩
theorem law3_join {cs : List Nat} (hI : Sane I) (hO : Sane O) (hn : cs.length = n) (h0 : 0 < n) (h₁ : Ix I n m₁) (h₂ : Ix O (m₁ + 1) m₂) :
    jn [59] ((partsL (partsL cs I m₁) O m₂).map (jn [44])) = [cs.getD 0 0] ++ Wv (fun k => sepAt (wideL I O m₂) (narrowL I m₁) (n - k) ++ [cs.getD k 0]) 1 n := by
  have L := lay_of hI hO h0 h₁ h₂
  rw [bundles_bun hI hO hn h0 h₁ h₂]
  have inj : ∀ a b, a ≤ m₁ → b ≤ m₁ → pl I a = pl I b → a = b := by
    intro a b ha hb e
    rcases Nat.lt_trichotomy a b with h | h | h
    · have := pl_lts hI h (on_down (h₁.1 (b - 1) (by omega)).1 (by omega)); omega
    · exact h
    · have := pl_lts hI h (on_down (h₁.1 (a - 1) (by omega)).1 (by omega)); omega
  have plO : ∀ j, j < m₂ → 1 ≤ pl O (j + 1) ∧ pl O (j + 1) ≤ m₁ := by
    intro j hj
    have h1 := (h₂.1 j hj).2
    have h2 := pl_lts hO (i := 0) (j := j + 1) (by omega) (on_down (h₂.1 j hj).1 (by omega))
    omega
  refine bundles_join L hn h0 _ (fun p => ?_) (fun p hp => ?_) (fun q h1 h2 hq => ?_) (fun j h1 h2 => ?_)
  · unfold sepAt; split
    · rfl
    · split <;> rfl
  · unfold sepAt
    rw [if_neg, if_neg]
    · rw [any_iff]
      intro h
      obtain ⟨i, hi, e⟩ := List.mem_map.mp h
      have hi := List.mem_range.mp hi
      refine hp (i + 1) (by omega) (by omega) ?_
      rw [posn_lo (by omega)]; omega
    · rw [any_iff]
      intro h
      obtain ⟨j, hj, e⟩ := List.mem_map.mp h
      have hj := List.mem_range.mp hj
      have := plO j hj
      refine hp (pl O (j + 1)) (by omega) (by omega) ?_
      rw [posn_lo (by omega)]; omega
  · unfold sepAt
    rw [posn_lo h2]
    rw [if_neg, if_pos]
    · rw [any_iff]
      refine List.mem_map.mpr ⟨q - 1, List.mem_range.mpr (by omega), ?_⟩
      have : q - 1 + 1 = q := by omega
      rw [this]
    · rw [any_iff]
      intro h
      obtain ⟨j, hj, e⟩ := List.mem_map.mp h
      have hj := List.mem_range.mp hj
      have := plO j hj
      have e2 := inj q (pl O (j + 1)) h2 (by omega) (by omega)
      refine hq (j + 1) (by omega) (by omega) ?_
      rw [posn_lo (by omega)]; exact e2
  · have h3 := plO (j - 1) (by omega)
    have e : j - 1 + 1 = j := by omega
    rw [e] at h3
    unfold sepAt
    rw [posn_lo (row := O) h2, posn_lo (by omega), if_pos]
    rw [any_iff]
    refine List.mem_map.mpr ⟨j - 1, List.mem_range.mpr (by omega), ?_⟩
    rw [e]
theorem law3_flat {cs : List Nat} {T : List Int} (hI : Sane I) (hO : Sane O) (hn : cs.length = n) (h0 : 0 < n) (h₁ : Ix I n m₁) (h₂ : Ix O (m₁ + 1) m₂) (h₃ : Ix T n m₂) (hT : ∀ j, j ≤ m₂ → pl T j = pl I (pl O j)) :
    (partsL (partsL cs I m₁) O m₂).map (jn []) = partsL cs T m₂ := by
  have L := lay_of hI hO h0 h₁ h₂
  rw [bundles_bun hI hO hn h0 h₁ h₂, bundles_flat L (by simpa using hn), partsL_seg cs T m₂ (by rw [hn]; exact Nat.le_of_lt (h₃.lt h0 (Nat.le_refl _)))]
  have key : ∀ j, j ≤ m₂ + 1 → posn T m₂ cs.length j = posn I m₁ n (posn O m₂ (m₁ + 1) j) := by
    intro j hj
    by_cases h : j = m₂ + 1
    · subst h; rw [posn_hi, posn_hi, posn_hi, hn]
    · rw [posn_lo (by omega), posn_lo (row := O) (by omega), hT j (by omega), posn_lo]
      have := h₂.lt (by omega) (k := j) (by omega)
      omega
  congr 1
  apply seg_congr
  intro j _ hj
  rw [key j (by omega), key (j + 1) (by omega)]
end

/-- the rows and the text -/
def menuI : List Int := [2, 1, 3, 2, 1, 3, 0, 127]
def menuO : List Int := [2, 3, 1, 2, 3, 2, 0, 127]
def pickI (x : Int) : Int := menuI.getD (x.fmod 8).toNat 0
def pickO (x : Int) : Int := menuO.getD ((x.fdiv 8).fmod 8).toNat 0
def tailI (z : Int) : List Int := ([[0], [0], []] : List (List Int)).getD (z.fmod 3).toNat []
def tailO (z : Int) : List Int := ([[0], [0], [127]] : List (List Int)).getD (z.fmod 3).toNat []
theorem fmod3 (z : Int) : z.fmod 3 = 0 ∨ z.fmod 3 = 1 ∨ z.fmod 3 = 2 := by
  have h3 := @fmod_nat z 3 (by decide)
  omega
theorem tailI_get (z : Int) : ([[0], [0], []].map fun l => PyData.list (ils l))[(z.fmod 3).toNat]? = some (.list (ils (tailI z))) := by
  unfold tailI
  rcases fmod3 z with h | h | h <;> rw [h] <;> rfl
theorem tailO_get (z : Int) : ([[0], [0], [127]].map fun l => PyData.list (ils l))[(z.fmod 3).toNat]? = some (.list (ils (tailO z))) := by
  unfold tailO
  rcases fmod3 z with h | h | h <;> rw [h] <;> rfl
theorem menu_mem {menu : List Int} (hm : menu.length = 8) {P : Int → Prop} (h : ∀ x ∈ menu, P x) (z : Int) : P (menu.getD (z.fmod 8).toNat 0) := by
  have h8 := @fmod_nat z 8 (by decide)
  rw [List.getD_eq_getElem?_getD, List.getElem?_eq_getElem (by omega)]
  exact h _ (List.getElem_mem _)
/-- the rows as the law draws them -/
structure Drawn3 (row : List Int) : Prop where
  items : ∀ x ∈ row, (1 ≤ x ∧ x ≤ 3) ∨ x = 0 ∨ x = 127
  len : row.length ≤ 7
  ne : 1 ≤ row.length
theorem drawn_of {l t : List Int} {f : Int → Int} (hf : ∀ z, (1 ≤ f z ∧ f z ≤ 3) ∨ f z = 0 ∨ f z = 127) (ht : t = [] ∨ t = [0] ∨ t = [127]) (hl : l ≠ []) : Drawn3 ((l.take 6).map f ++ t) := by
  have hp : 0 < l.length := List.length_pos_iff.mpr hl
  refine ⟨fun x hx => ?_, ?_, ?_⟩
  · rcases List.mem_append.mp hx with hx | hx
    · obtain ⟨z, _, rfl⟩ := List.mem_map.mp hx; exact hf z
    · rcases ht with rfl | rfl | rfl
      · cases hx
      · right; left; simpa using hx
      · right; right; simpa using hx
  · rcases ht with rfl | rfl | rfl <;> simp <;> omega
  · simp; omega
theorem Drawn3.pos {row : List Int} (h : Drawn3 row) {j : Nat} (hj : j < hds row) : 1 ≤ row.getD j 0 ∧ row.getD j 0 ≤ 3 := by
  have hl := hds_le row
  have hs := stops_not (hds_lt hj)
  have hm : row.getD j 0 ∈ row := by
    rw [List.getD_eq_getElem?_getD, List.getElem?_eq_getElem (by omega)]
    exact List.getElem_mem _
  rcases h.items _ hm with h | h | h
  · exact h
  · exact absurd h hs.2
  · exact absurd h hs.1
theorem hds_zero_inf {row : List Int} (h0 : row.head? ≠ some 0) (h : hds row = 0) : inf row = false := by
  cases row with
  | nil => rfl
  | cons x r =>
    simp only [hds] at h
    split at h
    · rename_i hx
      rcases stops_cases hx with rfl | rfl
      · simp [inf, hds, hx]
      · simp at h0
    · omega
theorem Drawn3.small {row : List Int} (h : Drawn3 row) (h0 : row.head? ≠ some 0) : Small row :=
  { pos := fun j hj => (h.pos hj).1, nr := hds_zero_inf h0, le3 := fun j hj => (h.pos hj).2, short := Nat.le_trans (hds_le row) h.len }
theorem Small.hds3 {row : List Int} (h : Small row) : pl row (hds row) ≤ 100000 := by
  have h1 := h.pl3 (hds row) fun j hj => .inr hj
  have := h.short
  omega
def base24 : List Nat := [54, 49, 56, 48, 51, 51, 57, 56, 56, 55, 52, 57, 56, 57, 52, 56, 52, 56, 50, 48, 52, 53, 56, 54]
def digs : List Nat := [48, 49, 50, 51, 52, 53, 54, 55, 56, 57]
def dig (x : Int) : Nat := digs.getD (x.fmod 10).toNat 0
theorem dig_get (x : Int) : digs[(x.fmod 10).toNat]? = some (dig x) := by
  have h10 := @fmod_nat x 10 (by decide)
  unfold dig
  rw [List.getD_eq_getElem?_getD, List.getElem?_eq_getElem (by simp [digs]; omega)]; rfl
def text3 (script : List Int) : List Nat := base24 ++ (script.take 10).map dig
theorem text3_len (script : List Int) : 24 ≤ (text3 script).length ∧ (text3 script).length ≤ 34 := by
  unfold text3; simp [base24]; omega
theorem text3_small (script : List Int) : ∀ c ∈ text3 script, c < 1000 := by
  intro c hc
  unfold text3 at hc
  rcases List.mem_append.mp hc with hc | hc
  · simp [base24] at hc; omega
  · obtain ⟨x, _, rfl⟩ := List.mem_map.mp hc
    have := List.mem_of_getElem? (dig_get x)
    simp [digs] at this; omega
theorem flat_ones (l : List Int) : jn [] (l.map fun x => [dig x]) = l.map dig := by
  rw [jn_empty]
  induction l with
  | nil => rfl
  | cons x l ih => simp [ih]
end Mine
end

section
open PySem PySem.W PyProof.Rows PySem.Calls
namespace Mine
structure Law3Defs (hz : Heap) (mg mb : Str → Option Value) : Prop where
  gn : Gn hz mg mb
  sm : Sm hz mg mb
  together : ∃ f, mg "_law_together" = some (.ref f) ∧ Def q3 hz 8 f
  parted : ∃ f, mg "_law_parted" = some (.ref f) ∧ Def q3 hz 9 f
theorem Wv_len {f : Nat → List Nat} {B : Nat} (h : ∀ i, (f i).length ≤ B) (a b : Nat) : (Wv f a b).length ≤ (b - a) * B := by
  unfold Wv
  rw [List.length_flatten]
  have := sum_len (l := seg f a b) (B := B) fun x hx => by
    obtain ⟨i, _, rfl⟩ := List.mem_map.mp hx; exact h _
  rw [seg_len] at this; exact this
section
variable {prog : Program} {w : World} {hz : Heap} {mg mb : Str → Option Value}
theorem ev_strc {A : Around} {env : Env} {σ : Sto} {x : Str} {kk : Nat} {pos : Pos} {l : List Nat} (h : x = mk l) : EV prog w hz A env σ (.Constant (.str x) kk pos) (.str (mk l)) := h ▸ ev_str

set_option maxRecDepth 100000 in
set_option maxHeartbeats 4000000 in
/-- the law behind its drawing -/
theorem law3_tail {f : Addr} {pm cd doc : Value} {cs : List Nat} {I O : List Int} (G : Law3Defs hz mg mb) (hcs : 24 ≤ cs.length ∧ cs.length ≤ 34) (hcc : ∀ c ∈ cs, c < 1000) (dI : Drawn3 I) (dO : Drawn3 O)
    (A : Around) (L : Addr) (Y : Addr → Prop) (sb s : Shared) (E : Value → Shared → Prop) (hA : Ok A 6) (hfr : A.frames = some [callEnvC (fdOf q3 10 pm cd doc) L f]) {σ : Sto} (hag : Agree σ [("text", .str (mk cs)), ("inner", .list (ils I)), ("outer", .list (ils O))])
    (F : FS hz (callEnvC (fdOf q3 10 pm cd doc) L f) Y sb [] [] σ none s) :
    wpAny (model prog w) A (execs ((bodyOf q3 10).drop 2) (callEnvC (fdOf q3 10 pm cd doc) L f)) (fun fl s' => ∃ v, fl = .ret v ∧ Rep Y s'.heap v (.bool true) ∧ Kp sb s') E s := by
  have S := G.sm
  have B := S.bi
  have gl := B.gl
  obtain ⟨fp, hvp, Dp⟩ := S.places
  obtain ⟨op, pmp, cdp, docp, hop, hdp, hcdp⟩ := id Dp
  obtain ⟨fw, hvw, Dw⟩ := S.wide
  obtain ⟨ow, pmw, cdw, docw, how, hdw, hcdw⟩ := id Dw
  obtain ⟨ft, hvt, Dt⟩ := G.together
  obtain ⟨ot, pmt, cdt, doct, hot, hdt, hcdt⟩ := id Dt
  obtain ⟨fx, hvx, Dx⟩ := G.parted
  obtain ⟨ox, pmx, cdx, docx, hox, hdx, hcdx⟩ := id Dx
  have hSz : sizeLine = 16777216 := rfl
  have F := F.as _ hag
  have nI := dI.ne
  have nO := dO.ne
  have lI := dI.len
  have lO := dO.len
  have head : ∀ {row : List Int}, 1 ≤ row.length → ((row.getD 0 0 == 0) = true ↔ row.head? = some 0) := by
    intro row h
    cases row with
    | nil => simp at h
    | cons x r => simp
  have cutS : Cutting prog w hz (.str (mk cs)) cs.length (fun a b => .str (mk (sub cs a b))) := cutting_str (by omega)
  -- where a nought comes first
  have raised : ∀ {Q' : Flow → Shared → Prop} (s' : Shared) (E' : Value → Shared → Prop) (x : Value), (I.head? = some 0 ∨ O.head? = some 0) → FS hz (callEnvC (fdOf q3 10 pm cd doc) L f) Y sb [] [] (stoL [("inner", .list (ils I)), ("outer", .list (ils O))]) none s' →
      (∀ v s₂, Rep Y s₂.heap v (.bool true) → Kp sb s₂ → Q' (.ret v) s₂) → ∀ {p₁ p₂ p₃ p₄ p₅ p₆ p₇ p₈ p₉ p₁₀ p₁₁ p₁₂ : Pos} {k₁ k₂ k₃ k₄ : Nat},
      wpAny (model prog w) (A.mark (some x)) (execs [.Return (some (.BoolOp .Or [.Compare (.Subscript (.Name "inner" p₁) (.Constant (.int 0) k₁ p₂) p₃) [.Eq] [.Constant (.int 0) k₂ p₄] p₅, .Compare (.Subscript (.Name "outer" p₆) (.Constant (.int 0) k₃ p₇) p₈) [.Eq] [.Constant (.int 0) k₄ p₉] p₁₀] p₁₁)) p₁₂] (callEnvC (fdOf q3 10 pm cd doc) L f)) Q' E' s' := by
    intro Q' s' E' x h0 F hq p₁ p₂ p₃ p₄ p₅ p₆ p₇ p₈ p₉ p₁₀ p₁₁ p₁₂ k₁ k₂ k₃ k₄
    refine ex_ret F (ev_or (ev_cmp (ev_item_int (ns := I) (k := 0) (ev_name rfl) ev_int (by decide) (by omega) (by omega)) ev_int op_eq) (ev_cmp (ev_item_int (ns := O) (k := 0) (ev_name rfl) ev_int (by decide) (by omega) (by omega)) ev_int op_eq)) fun v s₂ r F₂ => hq v s₂ ?_ F₂.out
    have e : ((I.getD (0 : Int).toNat 0 == 0) || (O.getD (0 : Int).toNat 0 == 0)) = true := by
      rw [Bool.or_eq_true]
      exact h0.imp (head nI).mpr (head nO).mpr
    rw [e] at r; exact r
  by_cases hI0 : I.head? = some 0
  · refine ex_try_x (σ := stoL [("inner", .list (ils I)), ("outer", .list (ils O))]) (own := none) (Y := Y) (sb := sb) (pr := []) (pg := []) gl G.gn.ve G.gn.vb rfl hfr (fun E' Q' hE => ?_) (fun e s' E' F => raised s' E' _ (.inl hI0) F fun v s₂ r k => ⟨v, rfl, r, k⟩)
    refine ex_assign_xv (outer := []) F (xv_arg (o := ox) gl hvx hdx (xv_call gl hvx hox hdx (evs_cons (ev_name rfl) (evs_cons (ev_name rfl) evs_nil)) (parted_x (row := I) G.gn Dx cutS hI0) (hA.less (by omega)) hfr)) rfl rfl trivial (fun y sm s' Fm Fl => hE y sm s' _ (.inl rfl) (Fm.as _ ⟨rfl, rfl, trivial⟩) Fl)
  have mI := dI.small hI0
  have sI := mI.toSane
  obtain ⟨m₁, h₁⟩ := exists_m sI cs.length
  have h₁ : Ix I cs.length m₁ := h₁
  have hm1 : m₁ ≤ 34 := by
    have := pl_ge sI (i := m₁) fun j hj => (h₁.1 j hj).1
    have := h₁.lt (by omega) (Nat.le_refl _)
    omega
  have part1 := parted_fn (prog := prog) (w := w) (row := I) G.gn Dx cutS sI (by omega) (by omega) (by omega) h₁.1 h₁.2
  rw [partsD_str] at part1
  have hPl := partsL_len cs I m₁
  have hPm : ∀ x ∈ partsL cs I m₁, x.length ≤ 34 ∧ ∀ c ∈ x, c < 1000 := by
    intro x hx
    obtain ⟨a, b, rfl⟩ := mem_parts hx
    have := sub_len cs a b
    exact ⟨by omega, fun c hc => hcc c (sub_mem hc)⟩
  have cutL : Cutting prog w hz (.list (sls (partsL cs I m₁))) (partsL cs I m₁).length (fun a b => .list (sub (sls (partsL cs I m₁)) a b)) := by
    have := cutting_list (prog := prog) (w := w) (hz := hz) (ds := sls (partsL cs I m₁)) (by simp [hPl]; omega)
    rwa [List.length_map] at this
  by_cases hO0 : O.head? = some 0
  · refine ex_try_x (σ := stoL [("inner", .list (ils I)), ("outer", .list (ils O))]) (own := none) (Y := Y) (sb := sb) (pr := []) (pg := []) gl G.gn.ve G.gn.vb rfl hfr (fun E' Q' hE => ?_) (fun e s' E' F => raised s' E' _ (.inr hO0) F fun v s₂ r k => ⟨v, rfl, r, k⟩)
    refine ex_assign_xv (outer := []) F (xv_call gl hvx hox hdx (evs_cons (ev_call gl hvx hox hdx (evs_cons (ev_name rfl) (evs_cons (ev_name rfl) evs_nil)) part1 (hA.less (by omega))) (evs_cons (ev_name rfl) evs_nil)) (parted_x (row := O) G.gn Dx cutL hO0) (hA.less (by omega)) hfr) rfl rfl trivial (fun y sm s' Fm Fl => hE y sm s' _ (.inl rfl) (Fm.as _ ⟨rfl, rfl, trivial⟩) Fl)
  have mO := dO.small hO0
  have sO := mO.toSane
  obtain ⟨m₂, h₂⟩ := exists_m sO (m₁ + 1)
  have h₂ : Ix O (m₁ + 1) m₂ := h₂
  have hm2 : m₂ ≤ 34 := by
    have := pl_ge sO (i := m₂) fun j hj => (h₂.1 j hj).1
    have := h₂.lt (by omega) (Nat.le_refl _)
    omega
  have part2 := parted_fn (prog := prog) (w := w) (row := O) (m := m₂) G.gn Dx cutL sO (by omega) (by omega) (by omega) (by rw [hPl]; exact h₂.1) (by rw [hPl]; exact h₂.2)
  rw [partsD_list] at part2
  have hjoin := law3_join sI sO rfl (by omega) h₁ h₂
  obtain ⟨sT, lT, hT, hTp⟩ := tog_spec mI mO (by omega) (by omega) h₁ h₂
  have hflat := law3_flat sI sO rfl (by omega) h₁ h₂ hT hTp
  have part3 := parted_fn (prog := prog) (w := w) (row := togR I O) G.gn Dx cutS sT lT (by omega) (by omega) hT.1 hT.2
  rw [partsD_str] at part3
  have hbm : ∀ b ∈ partsL (partsL cs I m₁) O m₂, b.length ≤ 35 ∧ ∀ x ∈ b, x.length ≤ 34 := by
    intro b hb
    obtain ⟨u, v, rfl⟩ := mem_parts hb
    have := sub_len (partsL cs I m₁) u v
    exact ⟨by omega, fun x hx => (hPm x (sub_mem hx)).1⟩
  have hbl := partsL_len (partsL cs I m₁) O m₂
  have hTm : ∀ x ∈ partsL cs (togR I O) m₂, ∀ c ∈ x, c < 1000 := by
    intro x hx c hc
    obtain ⟨a, b, rfl⟩ := mem_parts hx
    exact hcc c (sub_mem hc)
  have hjl : ∀ (sep : List Nat), sep.length ≤ 1 → ∀ b ∈ partsL (partsL cs I m₁) O m₂, (b.map (·.length)).sum + b.length * sep.length ≤ 2000 ∧ (jn sep b).length ≤ 2000 := by
    intro sep hs b hb
    obtain ⟨h1, h2⟩ := hbm b hb
    have h3 := sum_len h2
    have h4 := jn_len sep b
    have h5 : b.length * 34 ≤ 35 * 34 := Nat.mul_le_mul_right _ h1
    have h6 : b.length * sep.length ≤ 35 * 1 := Nat.mul_le_mul h1 hs
    omega
  generalize partsL (partsL cs I m₁) O m₂ = bundles at *
  refine ex_try fun E' => ex_assign F (ev_call gl hvx hox hdx (evs_cons (ev_call gl hvx hox hdx (evs_cons (ev_name rfl) (evs_cons (ev_name rfl) evs_nil)) part1 (hA.less (by omega))) (evs_cons (ev_name rfl) evs_nil)) part2 (hA.less (by omega))) (fun s₁ F₁ => ex_nil ?_) (by intro _ _ e; cases e) ⟨.inl rfl, fun _ => rfl, rfl⟩
  refine ex_if (b := false) F₁ ((eb_boolop (or_cons (eb_cmp (ev_item_int (ns := I) (k := 0) (ev_name rfl) ev_int (by decide) (by omega) (by omega)) ev_int op_eq) fun _ => or_cons (eb_cmp (ev_item_int (ns := O) (k := 0) (ev_name rfl) ev_int (by decide) (by omega) (by omega)) ev_int op_eq) fun _ => or_nil)).cast ?_) fun s₂ F₂ => ex_nil ?_
  · have e1 : (I.getD (0 : Int).toNat 0 == 0) = false := Bool.eq_false_iff.mpr fun h => hI0 ((head nI).mp h)
    have e2 : (O.getD (0 : Int).toNat 0 == 0) = false := Bool.eq_false_iff.mpr fun h => hO0 ((head nO).mp h)
    rw [e1, e2]; rfl
  have hpl := places3_fn (prog := prog) (w := w) (row := I) (bound := cs.length) S Dp sI (by omega) (by omega) mI.hds3
  have eN : placesR I (cs.length : Int) = narrowL I m₁ := places_eq sI h₁.1 h₁.2
  rw [eN] at hpl
  refine ex_assign F₂ (ev_call gl hvp hop hdp (evs_cons (ev_name rfl) (evs_cons (ev_lenstr gl (ev_name rfl) (by omega) B.len B.lenb) evs_nil)) hpl (hA.less (by omega))) (fun s₃ F₃ => ?_) (by intro _ _ e; cases e) ⟨.inl rfl, fun _ => rfl, rfl⟩
  have hnl : (narrowL I m₁).length ≤ 10000 := by simp [narrowL]; omega
  have hwd := wide3_fn (prog := prog) (w := w) (outer := O) (narrow := narrowL I m₁) S Dw sO (by omega) hnl mO.hds3
  have eW : wideR O (narrowL I m₁) = wideL I O m₂ := wide_eq sO h₂ rfl
  rw [eW] at hwd
  refine ex_assign F₃ (ev_call gl hvw how hdw (evs_cons (ev_name rfl) (evs_cons (ev_name rfl) evs_nil)) hwd (hA.less (by omega))) (fun s₄ F₄ => ?_) (by intro _ _ e; cases e) ⟨.inl rfl, fun _ => rfl, rfl⟩
  have htog := together_fn (prog := prog) (w := w) (inner := I) (outer := O) S Dt sI sO (by omega) (by omega) mI.hds3 mO.hds3
  generalize togR I O = T at *
  generalize narrowL I m₁ = narrow at *
  generalize wideL I O m₂ = wide at *
  have hget : ∀ i : Nat, i < cs.length → cs[i]? = some (cs.getD i 0) := fun i hi => by
    rw [List.getD_eq_getElem?_getD, List.getElem?_eq_getElem hi]; rfl
  refine ex_assign F₄ (ev_stritem (k := 0) (ev_name rfl) ev_int (by decide) (hget 0 (by omega)) (by decide)) (fun s₅ F₅ => ?_) (by intro _ _ e; cases e) ⟨.inl rfl, fun _ => rfl, rfl⟩
  let dueL : Nat → List Nat := fun k => [cs.getD 0 0] ++ Wv (fun k => sepAt wide narrow (cs.length - k) ++ [cs.getD k 0]) 1 k
  have hdl : ∀ k, (dueL k).length ≤ 1 + k * 2 := by
    intro k
    have := Wv_len (f := fun k => sepAt wide narrow (cs.length - k) ++ [cs.getD k 0]) (B := 2) (fun i => by
      unfold sepAt; simp; split
      · simp
      · split <;> simp) 1 k
    have h2 : (k - 1) * 2 ≤ k * 2 := Nat.mul_le_mul_right _ (by omega)
    simp only [dueL, List.length_append, List.length_singleton]
    omega
  have F₅ := F₅.as [("text", .str (mk cs)), ("inner", .list (ils I)), ("outer", .list (ils O)), ("bundles", .list (bundles.map fun b => .list (sls b))), ("narrow", .list (ils narrow)), ("wide", .list (ils wide)), ("due", .str (mk (dueL (1 + 0))))] ⟨rfl, rfl, rfl, rfl, rfl, rfl, by simp [dueL, Wv_nil]; rfl, trivial⟩
  refine ex_for F₅ (it_range2 (a := 1) (b := (cs.length : Int)) gl ev_int (ev_lenstr gl (ev_name rfl) (by omega) B.len B.lenb) B.rng B.rngb hA.handled (by omega) (by omega) (by omega) (by omega))
    (fun i σ own => own = none ∧ σ = stoL [("text", .str (mk cs)), ("inner", .list (ils I)), ("outer", .list (ils O)), ("bundles", .list (bundles.map fun b => .list (sls b))), ("narrow", .list (ils narrow)), ("wide", .list (ils wide)), ("due", .str (mk (dueL (1 + i))))]) (fun _ _ => False) ⟨rfl, rfl⟩ ?_ ?_ (fun _ _ _ h => h.elim) (by rintro _ _ _ _ ⟨h, _⟩; cases h) ⟨.inl rfl, fun _ => rfl, rfl⟩
  · rintro i d σ own Y' pr' s E'' hd ⟨rfl, rfl⟩ hY F
    obtain ⟨hi, rfl⟩ := upFrom_get hd
    refine ex_assign F (ev_bin (ev_lenstr gl (ev_name rfl) (by omega) B.len B.lenb) (ev_name rfl) op_sub) (fun s₆ F₆ => ?_) (by intro _ _ e; cases e) ⟨.inl rfl, fun _ => rfl, rfl⟩
    have ep : (cs.length : Int) - (1 + (i : Int)) = ((cs.length - (1 + i) : Nat) : Int) := by omega
    rw [ep] at F₆
    have hk : (1 + (i : Int)).toNat = 1 + i := by omega
    have hdi := hdl (1 + i)
    have hsl : (sepAt wide narrow (cs.length - (1 + i))).length ≤ 1 := by
      unfold sepAt; split
      · simp
      · split <;> simp
    refine ex_assign F₆ (d := .str (mk (dueL (1 + i) ++ sepAt wide narrow (cs.length - (1 + i)) ++ [cs.getD (1 + i) 0]))) (ev_bin (ev_bin (ev_name rfl) (ev_ifexp (c := wide.any (· == ((cs.length - (1 + i) : Nat) : Int))) (eb_cmp (ev_name rfl) (ev_name rfl) op_in_ints) (fun h => ?_) (fun h => ?_)) (op_add_str (b := sepAt wide narrow (cs.length - (1 + i))) (by omega)))
      (ev_stritem (k := 1 + (i : Int)) (ev_name rfl) (ev_name rfl) (by omega) (by rw [hk]; exact hget _ (by omega)) (by omega)) (op_add_str (by simp; omega))) (fun s₇ F₇ => ex_nil ?_) (by intro _ _ e; cases e) ⟨.inl rfl, fun _ => rfl, rfl⟩
    · have : sepAt wide narrow (cs.length - (1 + i)) = [59] := by unfold sepAt; rw [if_pos h]
      rw [this]; exact ev_strc (by decide +kernel)
    · refine ev_ifexp (c := narrow.any (· == ((cs.length - (1 + i) : Nat) : Int))) (eb_cmp (ev_name rfl) (ev_name rfl) op_in_ints) (fun h' => ?_) (fun h' => ?_)
      · have : sepAt wide narrow (cs.length - (1 + i)) = [44] := by unfold sepAt; rw [if_neg (by rw [h]; decide), if_pos h']
        rw [this]; exact ev_strc (by decide +kernel)
      · have : sepAt wide narrow (cs.length - (1 + i)) = [] := by unfold sepAt; rw [if_neg (by rw [h]; decide), if_neg (by rw [h']; decide)]
        rw [this]; exact ev_strc (by decide +kernel)
    · have e : dueL (1 + i) ++ sepAt wide narrow (cs.length - (1 + i)) ++ [cs.getD (1 + i) 0] = dueL (1 + (i + 1)) := by
        simp only [dueL]
        rw [← Nat.add_assoc, Wv_snoc _ (by omega)]
        simp only [List.append_assoc]
      rw [e] at F₇
      exact ⟨_, _, ⟨rfl, rfl⟩, F₇.as _ ⟨rfl, rfl, rfl, rfl, rfl, rfl, rfl, trivial⟩⟩
  rintro σ own s ⟨rfl, rfl⟩ F
  have el : 1 + (ils (upFrom 1 ((cs.length : Int) - 1).toNat)).length = cs.length := by simp [upFrom]; omega
  rw [el] at F
  have hcomp : ∀ (sep : List Nat), sep.length ≤ 1 → ((bundles.map fun b => PyData.list (sls b)).filter fun _ => true).map (fun d => .str (mk (jn sep (unS d)))) = sls (bundles.map (jn sep)) := by
    intro sep _
    rw [filter_all, List.map_map, sls, List.map_map]
    apply List.map_congr_left
    intro b _
    simp only [Function.comp, unS_sls]
  refine ex_if (b := false) F ((eb_cmp (ev_join (sep := [59]) (l := bundles.map (jn [44])) (EV.cast (EVF.ev (evf_comp (fun _ => true) (fun d => .str (mk (jn [44] (unS d)))) (τ := stoL []) (cl := []) (ds := bundles.map fun b => .list (sls b)) ⟨rfl, by decide, rfl, by decide, rfl, fun y d e => by simp [stoL] at e⟩
    (it_list (ev_name rfl) hA.handled) (by simp; omega) (fun C d hdm => ts_nil) (fun C d hdm _ => ?_))) (by rw [hcomp [44] (by simp)])) (by decide +kernel) ?_) (ev_name rfl) op_ne_str).cast ?_) fun s₆ F₆ => ex_nil ?_
  · obtain ⟨b, hb, rfl⟩ := List.mem_map.mp hdm
    rw [unS_sls]
    have := (hjl [44] (by simp) b hb).1
    exact ev_join (sep := [44]) (ev_name rfl) (by decide +kernel) (by omega)
  · have h1 := sum_len (l := bundles.map (jn [44])) (B := 2000) fun x hx => by
      obtain ⟨b, hb, rfl⟩ := List.mem_map.mp hx
      exact (hjl [44] (by simp) b hb).2
    rw [List.length_map] at h1 ⊢
    simp only [List.length_singleton]
    omega
  · rw [hjoin]
    simp [dueL]
  · refine ex_ret F₆ (ev_cmp (d₁ := .list (sls (bundles.map (jn [])))) (EV.cast (EVF.ev (evf_comp (fun _ => true) (fun d => .str (mk (jn [] (unS d)))) (τ := stoL []) (cl := []) (ds := bundles.map fun b => .list (sls b)) ⟨rfl, by decide, rfl, by decide, rfl, fun y d e => by simp [stoL] at e⟩
      (it_list (ev_name rfl) hA.handled) (by simp; omega) (fun C d hdm => ts_nil) (fun C d hdm _ => ?_))) (by rw [hcomp [] (by simp)])) (ev_call gl hvx hox hdx (evs_cons (ev_name rfl) (evs_cons (ev_call gl hvt hot hdt (evs_cons (ev_name rfl) (evs_cons (ev_name rfl) evs_nil)) htog (hA.less (by omega))) evs_nil)) part3 (hA.less (by omega))) (op_eq_strs hA.u64 ?_ hTm)) fun v s₅ r F₅ => ⟨v, rfl, ?_, F₅.out⟩
    · obtain ⟨b, hb, rfl⟩ := List.mem_map.mp hdm
      rw [unS_sls]
      have := (hjl [] (by simp) b hb).1
      exact ev_join (sep := []) (ev_name rfl) (by decide +kernel) (by omega)
    · rw [hflat]; exact hTm
    · rw [hflat] at r
      simpa using r
end
end Mine
end

section
open PySem PySem.W PyProof.Rows PySem.Calls
namespace Mine
theorem tailI_cases (z : Int) : tailI z = [] ∨ tailI z = [0] ∨ tailI z = [127] := by
  unfold tailI
  rcases fmod3 z with h | h | h <;> rw [h] <;> simp
theorem tailO_cases (z : Int) : tailO z = [] ∨ tailO z = [0] ∨ tailO z = [127] := by
  unfold tailO
  rcases fmod3 z with h | h | h <;> rw [h] <;> simp
theorem tail_len {t : List Int} (h : t = [] ∨ t = [0] ∨ t = [127]) : t.length ≤ 1 := by rcases h with rfl | rfl | rfl <;> simp
theorem pickI_ok (z : Int) : (1 ≤ pickI z ∧ pickI z ≤ 3) ∨ pickI z = 0 ∨ pickI z = 127 :=
  menu_mem (menu := menuI) rfl (P := fun v => (1 ≤ v ∧ v ≤ 3) ∨ v = 0 ∨ v = 127) (by intro x hx; simp [menuI] at hx; omega) z
theorem pickO_ok (z : Int) : (1 ≤ pickO z ∧ pickO z ≤ 3) ∨ pickO z = 0 ∨ pickO z = 127 :=
  menu_mem (menu := menuO) rfl (P := fun v => (1 ≤ v ∧ v ≤ 3) ∨ v = 0 ∨ v = 127) (by intro x hx; simp [menuO] at hx; omega) (z.fdiv 8)
theorem menu_get {menu : List Int} (hm : menu.length = 8) (z : Int) : (ils menu)[(z.fmod 8).toNat]? = some (.int (menu.getD (z.fmod 8).toNat 0)) := by
  have h8 := @fmod_nat z 8 (by decide)
  exact ils_get (by omega)
section
variable {prog : Program} {w : World} {hz : Heap} {mg mb : Str → Option Value}
set_option maxRecDepth 100000 in
set_option maxHeartbeats 8000000 in
theorem law3_fn {f : Addr} {script : List Int} (G : Law3Defs hz mg mb) (D : Def q3 hz 10 f) (hn : script.length ≤ 1000) : FN0 prog w hz 7 f [.list (ils script)] (.bool true) := by
  obtain ⟨o, pm, cd, doc, ho, hd, hcd⟩ := D
  have B := G.sm.bi
  have gl := B.gl
  have hSz : sizeLine = 16777216 := rfl
  refine fn_intro0 ["script"] ho hd gl.nolimit hcd rfl rfl ?_ ?_ rfl ?_ ?_ rfl rfl rfl
  · intro vs hv
    match vs, hv with
    | [a], _ => rfl
  · decide
  · intro L x hx
    simp at hx; subst hx
    exact .inl rfl
  intro A L Y sb s E hA hfr F
  have htl := text3_len script
  have htc := text3_small script
  refine ex_assign F (d := .str (mk (text3 script))) ?_ (fun s₁ F₁ => ?_) (by intro _ _ e; cases e) ⟨.inl rfl, fun _ => rfl, rfl⟩
  · unfold text3
    refine ev_bin (ev_strc (l := base24) (by decide +kernel)) (EV.cast (ev_join (sep := []) (l := (script.take 10).map fun x => [dig x]) (EV.cast (EVF.ev (evf_comp (fun _ => true) (fun d => match d with | .int x => .str (mk [dig x]) | d => d) (τ := stoL []) (cl := []) (ds := ils (script.take 10)) ⟨rfl, by decide, rfl, by decide, rfl, fun y d e => by simp [stoL] at e⟩
      (it_list (ev_upto_int (ns := script) (ev_name rfl) ev_int (by decide) (by omega)) hA.handled) (by simp; omega) (fun C d hdm => ts_nil) (fun C d hdm _ => ?_))) ?_) (by decide +kernel) ?_) (by rw [flat_ones])) (op_add_str ?_)
    · obtain ⟨x, _, rfl⟩ := List.mem_map.mp hdm
      have h10 := @fmod_nat x 10 (by decide)
      exact ev_stritem (l := digs) (ev_strc (by decide +kernel)) (ev_bin (ev_name rfl) ev_int (op_mod (by decide))) h10.1 (dig_get x) (by omega)
    · rw [filter_all]; simp [Function.comp_def]
    · have h1 := sum_len (l := (script.take 10).map fun x => [dig x]) (B := 1) fun x hx => by
        obtain ⟨y, _, rfl⟩ := List.mem_map.mp hx; simp
      simp only [List.length_map] at h1 ⊢
      simp at h1 ⊢; omega
    · simp [base24]; omega
  generalize text3 script = cs at *
  refine ex_if (b := decide (script = [])) F₁ (eb_cmp (ev_name rfl) (ev_lits [] evs_nil) (op_eq_ints hA.u64)) fun s₂ F₂ => ?_
  by_cases hc : script = []
  · rw [show decide (script = []) = true from decide_eq_true hc]
    refine ex_assign F₂ (ev_lits [2, 1, 0] (evs_cons ev_int (evs_cons ev_int (evs_cons ev_int evs_nil)))) (fun s₃ F₃ => ?_) (by intro _ _ e; cases e) ⟨.inl rfl, fun _ => rfl, rfl⟩
    refine ex_assign F₃ (ev_lits [1, 2, 0] (evs_cons ev_int (evs_cons ev_int (evs_cons ev_int evs_nil)))) (fun s₄ F₄ => ex_nil ?_) (by intro _ _ e; cases e) ⟨.inl rfl, fun _ => rfl, rfl⟩
    exact law3_tail (I := [2, 1, 0]) (O := [1, 2, 0]) G htl htc ⟨by simp, by simp, by simp⟩ ⟨by simp, by simp, by simp⟩ A L Y sb s₄ E hA hfr ⟨rfl, rfl, rfl, trivial⟩ F₄
  · rw [show decide (script = []) = false from decide_eq_false hc]
    have lI := tail_len (tailI_cases (script.length : Int))
    have lO := tail_len (tailO_cases (script.take 16).sum)
    refine ex_assign F₂ (d := .list (ils ((script.take 6).map pickI ++ tailI (script.length : Int)))) ?_ (fun s₃ F₃ => ?_) (by intro _ _ e; cases e) ⟨.inl rfl, fun _ => rfl, rfl⟩
    · refine ev_bin (EV.cast (EVF.ev (evf_comp (fun _ => true) (fun d => match d with | .int x => .int (pickI x) | d => d) (τ := stoL []) (cl := []) (ds := ils (script.take 6)) ⟨rfl, by decide, rfl, by decide, rfl, fun y d e => by simp [stoL] at e⟩
        (it_list (ev_upto_int (ns := script) (ev_name rfl) ev_int (by decide) (by omega)) hA.handled) (by simp; omega) (fun C d hdm => ts_nil) (fun C d hdm _ => ?_))) (c := .list (ils ((script.take 6).map pickI))) ?_) ?_ (op_cat_int ?_)
      · obtain ⟨x, _, rfl⟩ := List.mem_map.mp hdm
        have h8 := @fmod_nat x 8 (by decide)
        refine ev_titem (ds := ils menuI) (ev_tuple (evs_cons ev_int (evs_cons ev_int (evs_cons ev_int (evs_cons ev_int (evs_cons ev_int (evs_cons ev_int (evs_cons ev_int (evs_cons ev_int evs_nil))))))))) (ev_bin (ev_name rfl) ev_int (op_mod (by decide))) h8.1 (menu_get rfl x) (by omega)
      · rw [filter_all]; simp [Function.comp_def]
      · have h3 := @fmod_nat (script.length : Int) 3 (by decide)
        refine ev_item (k := (script.length : Int).fmod 3) ?_ (ev_bin (ev_len_int (ns := script) gl (ev_name rfl) (by omega) B.len B.lenb) ev_int (op_mod (by decide))) h3.1 (tailI_get (script.length : Int)) (by omega) (fun _ _ => rfl)
        exact ev_list (evs_cons (ev_lits [0] (evs_cons ev_int evs_nil)) (evs_cons (ev_lits [0] (evs_cons ev_int evs_nil)) (evs_cons (ev_lits [] evs_nil) evs_nil)))
      · simp; omega
    refine ex_assign F₃ (d := .list (ils ((script.take 6).map pickO ++ tailO (script.take 16).sum))) ?_ (fun s₄ F₄ => ex_nil ?_) (by intro _ _ e; cases e) ⟨.inl rfl, fun _ => rfl, rfl⟩
    · refine ev_bin (EV.cast (EVF.ev (evf_comp (fun _ => true) (fun d => match d with | .int x => .int (pickO x) | d => d) (τ := stoL []) (cl := []) (ds := ils (script.take 6)) ⟨rfl, by decide, rfl, by decide, rfl, fun y d e => by simp [stoL] at e⟩
        (it_list (ev_upto_int (ns := script) (ev_name rfl) ev_int (by decide) (by omega)) hA.handled) (by simp; omega) (fun C d hdm => ts_nil) (fun C d hdm _ => ?_))) (c := .list (ils ((script.take 6).map pickO))) ?_) ?_ (op_cat_int ?_)
      · obtain ⟨x, _, rfl⟩ := List.mem_map.mp hdm
        have h8 := @fmod_nat (x.fdiv 8) 8 (by decide)
        refine ev_titem (ds := ils menuO) (ev_tuple (evs_cons ev_int (evs_cons ev_int (evs_cons ev_int (evs_cons ev_int (evs_cons ev_int (evs_cons ev_int (evs_cons ev_int (evs_cons ev_int evs_nil))))))))) (ev_bin (ev_bin (ev_name rfl) ev_int (op_div (by decide) (by decide))) ev_int (op_mod (by decide))) h8.1 (menu_get rfl (x.fdiv 8)) (by omega)
      · rw [filter_all]; simp [Function.comp_def]
      · have h3 := @fmod_nat (script.take 16).sum 3 (by decide)
        refine ev_item (k := (script.take 16).sum.fmod 3) ?_ (ev_bin (ev_sum gl hA.handled (ev_upto_int (ns := script) (ev_name rfl) ev_int (by decide) (by omega)) B.sum B.sumb) ev_int (op_mod (by decide))) h3.1 (tailO_get (script.take 16).sum) (by omega) (fun _ _ => rfl)
        exact ev_list (evs_cons (ev_lits [0] (evs_cons ev_int evs_nil)) (evs_cons (ev_lits [0] (evs_cons ev_int evs_nil)) (evs_cons (ev_lits [127] (evs_cons ev_int evs_nil)) evs_nil)))
      · simp; omega
    exact law3_tail G htl htc (drawn_of pickI_ok (tailI_cases _) hc) (drawn_of pickO_ok (tailO_cases _) hc) A L Y sb s₄ E hA hfr ⟨rfl, rfl, rfl, trivial⟩ F₄
end
end Mine
end

section
section
open PySem PySem.W PyProof.Rows
set_option maxRecDepth 100000
set_option maxHeartbeats 8000000
namespace Mine
open_top hd03 for PySem.Challenge.rw_mq0443_03
end Mine
end
end

section
open PySem PySem.W PyProof.Rows PySem.Calls
set_option maxRecDepth 100000
set_option maxHeartbeats 8000000
namespace Mine
theorem def_of {p q : Program} {loose : List Str} {mean : ExcName → Option Value} {mg mb : Str → Option Value} {h : Heap} {i : Nat} (T : Top p loose mean mg mb h) {x : Str}
    (e : ((recsOf p).find? (fun d => d.name == x)).map (fun d => (d.name, d.params, d.body, d.scope)) = some (nameOf q i, argsOf q i, bodyOf q i, scopeOf q i)) : ∃ f, mg x = some (.ref f) ∧ Def q h i f := by
  cases hf : (recsOf p).find? (fun d => d.name == x) with
  | none => rw [hf] at e; cases e
  | some d =>
    rw [hf] at e
    simp only [Option.map_some, Option.some.injEq, Prod.mk.injEq] at e
    obtain ⟨e1, e2, e3, e4⟩ := e
    have hx : d.name = x := beq_iff_eq.mp (List.find?_some (p := fun d : DefRec => d.name == x) hf)
    obtain ⟨f, o, pm, cd, doc, h1, h2, h3, h4⟩ := T.fn d (List.mem_of_find?_eq_some hf)
    rw [e1, e2, e3, e4] at h3
    exact ⟨f, hx ▸ h1, o, pm, cd, doc, h2, h3, e1 ▸ h4⟩
theorem const_int {p : Program} {loose : List Str} {mean : ExcName → Option Value} {mg mb : Str → Option Value} {h : Heap} (T : Top p loose mean mg mb h) {x : Str} {i : Int} (e : valOf p x = some (.int i)) : ∃ t, mg x = some (.int i t) := by
  obtain ⟨v, hv, r⟩ := T.const x _ e
  cases r h with
  | int _ t => exact ⟨t, hv⟩
theorem join3 : PySem.Challenge.rw_mq0443_03.Holds := hd03 (by
  intro w s₀ s₁ mg mb G Y a o pm cd doc dV kV ho hd hcd hD hmg hg args vals as hpre hlay hrd hwl hlo
  have T := G.T
  clear Y
  wrow_args hpre hlay hrd hwl hlo
  rename_i ns _ _ _ _ _ _ _ x us _ hL _ _ _ hI _ hlen _
  have B : Bi s₁.heap mg mb := by
    refine ⟨⟨T.g, T.b, T.nolimit⟩, ?_, ?_, ?_, ?_, ?_, ?_, ?_, ?_⟩
    · exact T.free _ (by decide +kernel) (by decide +kernel) (by decide +kernel) (by decide +kernel) (by decide +kernel)
    · exact (T.builtins _ (by decide)).trans (by kernel_rfl)
    · exact T.free _ (by decide +kernel) (by decide +kernel) (by decide +kernel) (by decide +kernel) (by decide +kernel)
    · exact (T.builtins _ (by decide)).trans (by kernel_rfl)
    · exact T.free _ (by decide +kernel) (by decide +kernel) (by decide +kernel) (by decide +kernel) (by decide +kernel)
    · exact (T.builtins _ (by decide)).trans (by kernel_rfl)
    · exact T.free _ (by decide +kernel) (by decide +kernel) (by decide +kernel) (by decide +kernel) (by decide +kernel)
    · exact (T.builtins _ (by decide)).trans (by kernel_rfl)
  have GG : Law3Defs s₁.heap mg mb := by
    refine ⟨⟨B, ?_, ?_, ?_, ?_⟩, ⟨B, ?_, ?_, ?_, ?_⟩, ?_, ?_⟩
    · exact def_of T (x := "_grouping_intervals") (by kernel_rfl)
    · exact const_int T (by kernel_rfl)
    · exact T.free _ (by decide +kernel) (by decide +kernel) (by decide +kernel) (by decide +kernel) (by decide +kernel)
    · exact (T.builtins _ (by decide)).trans (by kernel_rfl)
    · exact def_of T (x := "_law_heads") (by kernel_rfl)
    · exact def_of T (x := "_law_endless") (by kernel_rfl)
    · exact def_of T (x := "_law_places") (by kernel_rfl)
    · exact def_of T (x := "_law_wide") (by kernel_rfl)
    · exact def_of T (x := "_law_together") (by kernel_rfl)
    · exact def_of T (x := "_law_parted") (by kernel_rfl)
  have D : Def q3 s₁.heap 10 a := by
    have e1 : dV = .none := by
      rcases hD.pos with ⟨_, h⟩ | ⟨h, _⟩
      · exact h
      · exact absurd rfl h
    have e2 : kV = .none := by
      rcases hD.kw with ⟨_, h⟩ | ⟨h, _⟩
      · exact h
      · exact absurd rfl h
    subst e1 e2
    exact ⟨o, pm, cd, doc, ho, hd, hcd⟩
  have hlen' : ns.length ≤ 1000 := by simp at hlen; omega
  refine wpAny_mono (law3_fn (prog := PySem.Challenge.rw_mq0443_03.row.prog) (w := w) GG D hlen' callerA (fun _ => False) s₁ (fun _ _ => False) [.ref x] ⟨rfl, by decide, by decide⟩ rfl (.refl _) (fun _ h => h.elim) (.cons (rep_list hL id (by simpa using IntsAre.reps hI)) .nil)) (fun v s' h => ?_) (fun _ _ h => h.elim)
  obtain ⟨r, k⟩ := h
  cases r
  refine ⟨.inl ⟨_, .bool true, [], rfl, ?_, .bool _, ?_, ?_⟩, .of_keep k.heap, k.os, k.bare ?_⟩
  · intro cls; rfl
  · show (WShape.has [] (WData.bool true) .bool && WTm.holds [] (.eq .res (.lit (.bool true))) { args := _, res := some (WData.bool true), after := _ }) = true
    have e1 : WShape.has [] (WData.bool true) .bool = true := by simp [WShape.has, WShape.arms]
    have e2 : same (WData.bool true) (WData.bool true) = true := by simp [same]
    rw [e1]
    simp [WTm.holds, WTm.value, e2]
  · intro _; exact ⟨List.nodup_nil, fun a h => by cases h⟩
  · rw [hg]; intro g hg'; simp at hg')
end Mine
end

theorem PySem.Challenge.cw_mq0443_03_holds : PySem.Challenge.rw_mq0443_03.Holds :=
  Mine.join3
