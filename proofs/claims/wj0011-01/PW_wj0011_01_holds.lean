import PyProof.Rows.All
import Wide.All
import OpenK.AllK
import Wide.FinOn
import PySem.Challenge.RW_wj0011_01
open PySem PySem.W PyProof.Rows
set_option linter.unusedVariables false
set_option Elab.async false
set_option maxRecDepth 100000

namespace Mine

/-- what is settled of the heap: a part of it that no later step turns -/
abbrev Mp := Addr → Option Obj

/-- a value as plain data -/
inductive D where
  | none | bool (b : Bool) | int (i : Int) | str (x : Str) | ptr (a : Addr) | list (l : List D) | tup (l : List D)

abbrev lstO (vs : List Value) (n : Nat) : Obj := { cls := .type "list", data := .seq vs.toArray n }
abbrev tupO (vs : List Value) : Obj := { cls := .type "tuple", data := .seq vs.toArray }

mutual
inductive Rel (H : Mp) : Value → D → Prop
  | none : Rel H .none .none
  | bool (b : Bool) : Rel H (.bool b) (.bool b)
  | int (i : Int) (t : Tok) : Rel H (.int i t) (.int i)
  | str (x : Str) (t : Tok) : Rel H (.str x t) (.str x)
  | ptr (a : Addr) : Rel H (.ref a) (.ptr a)
  | list {a : Addr} {vs : List Value} {n : Nat} {l : List D} (h : H a = some (lstO vs n)) (r : Rels H vs l) : Rel H (.ref a) (.list l)
  | tup {a : Addr} {vs : List Value} {l : List D} (h : H a = some (tupO vs)) (r : Rels H vs l) : Rel H (.ref a) (.tup l)
inductive Rels (H : Mp) : List Value → List D → Prop
  | nil : Rels H [] []
  | cons {v : Value} {d : D} {vs : List Value} {l : List D} (h : Rel H v d) (r : Rels H vs l) : Rels H (v :: vs) (d :: l)
end

mutual
theorem Rel.mono {H H' : Mp} (k : ∀ a o, H a = some o → H' a = some o) : ∀ {v : Value} {d : D}, Rel H v d → Rel H' v d
  | _, _, .none => .none
  | _, _, .bool b => .bool b
  | _, _, .int i t => .int i t
  | _, _, .str x t => .str x t
  | _, _, .ptr a => .ptr a
  | _, _, .list h r => .list (k _ _ h) (Rels.mono k r)
  | _, _, .tup h r => .tup (k _ _ h) (Rels.mono k r)
theorem Rels.mono {H H' : Mp} (k : ∀ a o, H a = some o → H' a = some o) : ∀ {vs : List Value} {l : List D}, Rels H vs l → Rels H' vs l
  | _, _, .nil => .nil
  | _, _, .cons h r => .cons (Rel.mono k h) (Rels.mono k r)
end
theorem Rels.length {H : Mp} : ∀ {vs : List Value} {l : List D}, Rels H vs l → vs.length = l.length
  | _, _, .nil => rfl
  | _, _, .cons _ r => by simp [Rels.length r]
theorem Rels.get {H : Mp} : ∀ {vs : List Value} {l : List D} (_ : Rels H vs l) (i : Nat) {d : D}, l[i]? = some d → ∃ v, vs[i]? = some v ∧ Rel H v d
  | _, _, .cons h _, 0, _, e => by cases e; exact ⟨_, rfl, h⟩
  | _, _, .cons _ r, i + 1, _, e => by simpa using Rels.get r i (by simpa using e)
theorem Rels.get' {H : Mp} : ∀ {vs : List Value} {l : List D} (_ : Rels H vs l) (i : Nat) {v : Value}, vs[i]? = some v → ∃ d, l[i]? = some d ∧ Rel H v d
  | _, _, .cons h _, 0, _, e => by cases e; exact ⟨_, rfl, h⟩
  | _, _, .cons _ r, i + 1, _, e => by simpa using Rels.get' r i (by simpa using e)
theorem Rels.append {H : Mp} : ∀ {vs : List Value} {l : List D} {vs' : List Value} {l' : List D}, Rels H vs l → Rels H vs' l' → Rels H (vs ++ vs') (l ++ l')
  | _, _, _, _, .nil, x => x
  | _, _, _, _, .cons h r, x => .cons h (Rels.append r x)
theorem Rels.ints {H : Mp} : ∀ {vs : List Value} {ns : List Int}, Rels H vs (ns.map D.int) → IntsAre vs ns
  | _, [], .nil => .nil
  | _, _ :: _, .cons (.int _ _) r => .cons _ _ (Rels.ints r)

/-- from s, H on to s', H': nothing that stood has turned; what is newly settled is new -/
structure Grow (s : Shared) (H : Mp) (s' : Shared) (H' : Mp) : Prop where
  same : ∃ h tk, s' = { s with heap := h, toks := tk }
  keep : ∀ b o, s.heap.get? b = some o → s'.heap.get? b = some o
  size : s.heap.objs.size ≤ s'.heap.objs.size
  sub : ∀ a o, H a = some o → H' a = some o
  now : ∀ a o, H' a = some o → s'.heap.get? a = some o
  fresh : ∀ a o, H' a = some o → H a = some o ∨ s.heap.objs.size ≤ a

/-- what is settled is so -/
abbrev Now (s : Shared) (H : Mp) : Prop := ∀ a o, H a = some o → s.heap.get? a = some o

theorem Grow.refl {s : Shared} {H : Mp} (n : Now s H) : Grow s H s H := ⟨⟨_, _, rfl⟩, fun _ _ e => e, Nat.le_refl _, fun _ _ e => e, n, fun _ _ e => .inl e⟩
theorem Grow.tok {s : Shared} {H : Mp} (n : Now s H) (t : Nat) : Grow s H { s with toks := t } H := ⟨⟨_, _, rfl⟩, fun _ _ e => e, Nat.le_refl _, fun _ _ e => e, n, fun _ _ e => .inl e⟩
theorem Grow.trans {s s' s'' : Shared} {H H' H'' : Mp} (x : Grow s H s' H') (y : Grow s' H' s'' H'') : Grow s H s'' H'' where
  same := by obtain ⟨h, t, rfl⟩ := x.same; obtain ⟨h', t', rfl⟩ := y.same; exact ⟨h', t', rfl⟩
  keep := fun b o e => y.keep b o (x.keep b o e)
  size := Nat.le_trans x.size y.size
  sub := fun a o e => y.sub a o (x.sub a o e)
  now := y.now
  fresh := fun a o e => (y.fresh a o e).elim (fun e => x.fresh a o e) fun e => .inr (Nat.le_trans x.size e)
/-- a heap that keeps all, nothing newly settled -/
theorem Grow.keeps {s : Shared} {H : Mp} (n : Now s H) {h : Heap} (k : ∀ b o, s.heap.get? b = some o → h.get? b = some o) (z : s.heap.objs.size ≤ h.objs.size) (t : Nat) : Grow s H { s with heap := h, toks := t } H :=
  ⟨⟨_, _, rfl⟩, k, z, fun _ _ e => e, fun a o e => k a o (n a o e), fun _ _ e => .inl e⟩

/-- one more object is settled -/
def put (H : Mp) (a : Addr) (o : Obj) : Mp := fun b => if b = a then some o else H b
theorem put_same {H : Mp} {a : Addr} {o : Obj} : put H a o a = some o := if_pos rfl
theorem put_sub {s : Shared} {H : Mp} (n : Now s H) {a : Addr} {o : Obj} (hn : s.heap.objs.size ≤ a) : ∀ b x, H b = some x → put H a o b = some x := fun b x e => by
  unfold put
  rw [if_neg]
  · exact e
  · rintro rfl; exact absurd (Heap.lt_size (n _ _ e)) (Nat.not_lt.mpr hn)
theorem put_sub' {H : Mp} {a : Addr} {o : Obj} (hn : H a = none) : ∀ b x, H b = some x → put H a o b = some x := fun b x e => by
  unfold put
  rw [if_neg]
  · exact e
  · rintro rfl; rw [hn] at e; cases e
theorem Grow.put {s : Shared} {H : Mp} (n : Now s H) {h : Heap} (k : ∀ b o, s.heap.get? b = some o → h.get? b = some o) (z : s.heap.objs.size ≤ h.objs.size) (t : Nat) {a : Addr} {o : Obj} (hn : s.heap.objs.size ≤ a) (ha : h.get? a = some o) :
    Grow s H { s with heap := h, toks := t } (Mine.put H a o) :=
  ⟨⟨_, _, rfl⟩, k, z, put_sub n hn, fun b x e => by
    unfold Mine.put at e
    split at e
    · rename_i q; cases e; rw [q]; exact ha
    · exact k _ _ (n _ _ e), fun b x e => by
    unfold Mine.put at e
    split at e
    · rename_i q; exact .inr (q ▸ hn)
    · exact .inl e⟩
theorem Grow.push {s : Shared} {H : Mp} (n : Now s H) (o : Obj) (hf : o.isFreed = false := by rfl) : Grow s H { s with heap := s.heap.push o } (Mine.put H s.heap.objs.size o) :=
  Grow.put n (fun _ _ e => Heap.get?_push_of_some _ e) (by rw [Heap.size_push]; exact Nat.le_succ _) _ (Nat.le_refl _) (Heap.get?_push_size _ hf)
theorem Grow.pushed {s : Shared} {H : Mp} (n : Now s H) (o : Obj) : Grow s H { s with heap := s.heap.push o } H :=
  Grow.keeps n (fun _ _ e => Heap.get?_push_of_some _ e) (by rw [Heap.size_push]; exact Nat.le_succ _) _

/-- a heap never gets shorter -/
theorem Runs_size {M : Model} {Γ : Ctx} {p : Pos} {t : Sem Fin} {fs : List Frame} {s s' : Shared} {e : End} (h : Runs M Γ p t fs s e s') : s.heap.objs.size ≤ s'.heap.objs.size := by
  induction h <;> (try simp only [Shared.setGen, Heap.size_push, Heap.size_after_update] at *) <;> omega
theorem Wakes_size {M : Model} {Γ : Ctx} {p : Pos} {g : Nat} {r : Resume} {s s' : Shared} {res : GenResult} (h : Wakes M Γ p g r s res s') : s.heap.objs.size ≤ s'.heap.objs.size := by
  unfold Wakes at h
  split at h
  · exact h.elim
  · split at h
    · obtain ⟨e₁, s₁, hr, _, _, rfl⟩ := h; exact (Runs_size hr : (s.setGen g .running).heap.objs.size ≤ s₁.heap.objs.size)
    · rw [h.2]; exact Nat.le_refl _
    · rw [h.2]; exact Nat.le_refl _
  · obtain ⟨e₁, s₁, hr, _, _, rfl⟩ := h; exact (Runs_size hr : (s.setGen g .running).heap.objs.size ≤ s₁.heap.objs.size)
  · rw [h.2]; exact Nat.le_refl _
  · rw [h.2]; exact Nat.le_refl _
theorem wp_size {α : Type} (M : Model) (Γ : Ctx) (n : Nat) (t : Sem α) : ∀ (Q : α → Pos → Shared → Prop) (E : Value → Pos → Shared → Prop) (p : Pos) (s : Shared), n ≤ s.heap.objs.size → Sem.wp M Γ t Q E p s →
    Sem.wp M Γ t (fun a p' s' => n ≤ s'.heap.objs.size ∧ Q a p' s') (fun e p' s' => n ≤ s'.heap.objs.size ∧ E e p' s') p s := by
  induction t with
  | pure a => intro Q E p s hn h; exact ⟨hn, h⟩
  | raise e => intro Q E p s hn h; exact ⟨hn, h⟩
  | unsupported _ => intro Q E p s _ h; exact h
  | finish _ => intro Q E p s _ h; exact h
  | rule _ k ih => intro Q E p s hn h; exact ih () Q E p s hn h
  | «at» p' k ih => intro Q E p s hn h; exact ih () Q E p' s hn h
  | load a _ k ih => intro Q E p s hn h; obtain ⟨o, ho, h⟩ := h; exact ⟨o, ho, ih o Q E p s hn h⟩
  | update a _ f k ih => intro Q E p s hn h; exact ⟨h.1, ih () Q E p _ (by rw [Heap.size_after_update]; exact hn) h.2⟩
  | loadIfAlive a k ih => intro Q E p s hn h; exact ih _ Q E p s hn h
  | point _ k ih => intro Q E p s hn h; exact ih () Q E p s hn h
  | register _ _ => intro Q E p s _ h; exact h
  | alloc o k ih => intro Q E p s hn h; exact ih _ Q E p _ (by rw [Heap.size_push]; exact Nat.le_succ_of_le hn) h
  | fresh k ih => intro Q E p s hn h; exact ih _ Q E p _ hn h
  | ask k ih => intro Q E p s hn h; exact ih _ Q E p s hn h
  | choose src m k ih => intro Q E p s hn h; exact ⟨h.1, ih _ Q E p _ hn h.2⟩
  | os q _ k ih => intro Q E p s hn h; exact ih _ Q E p _ hn h
  | call c hd _ _ k ih => intro Q E p s hn h; obtain ⟨r, s', hr, h⟩ := h; exact ⟨r, s', hr, ih r Q E p s' (Nat.le_trans hn (Runs_size hr)) h⟩
  | handled own k ih => intro Q E p s hn h; exact ih _ Q E p s hn h
  | genState g k ih => intro Q E p s hn h; obtain ⟨st, hs, h⟩ := h; exact ⟨st, hs, ih _ Q E p s hn h⟩
  | newGen c k ih => intro Q E p s hn h; exact ih _ Q E p _ hn h
  | resume g r _ k ih => intro Q E p s hn h; obtain ⟨res, s', hw, h⟩ := h; exact ⟨res, s', hw, ih res Q E p s' (Nat.le_trans hn (Wakes_size hw)) h⟩
  | yield _ _ _ _ => intro Q E p s _ h; exact h
  | stack k ih => intro Q E p s hn h; exact ih _ Q E p s hn h
  | fork _ _ => intro Q E p s _ h; exact h
  | thread k ih => intro Q E p s hn h; exact ih _ Q E p s hn h
  | await _ _ _ _ _ => intro Q E p s _ h; exact h
theorem with_size {α : Type} {M : Model} {A : Around} {s : Shared} {t : Sem α} {Q : α → Shared → Prop} {E : Value → Shared → Prop}
    (h : wpAny M A t (fun a s' => s.heap.objs.size ≤ s'.heap.objs.size → Q a s') (fun e s' => s.heap.objs.size ≤ s'.heap.objs.size → E e s') s) : wpAny M A t Q E s :=
  fun Γ p hΓ => Sem.wp_mono M Γ t (fun _ _ _ x => x.2 x.1) (fun _ _ _ x => x.2 x.1) p s (wp_size M Γ _ t _ _ p s (Nat.le_refl _) (h Γ p hΓ))
theorem code_with_size {M : Model} {A : Around} {s : Shared} {c : Code} {R : Result → Shared → Prop} (h : codeAny M A c (fun r s' => s.heap.objs.size ≤ s'.heap.objs.size → R r s') s) : codeAny M A c R s :=
  fun Γ p hc hΓ => by obtain ⟨r, s', hr, hR⟩ := h Γ p hc hΓ; exact ⟨r, s', hr, hR (Runs_size hr)⟩

/-- the name x of env reads as v -/
inductive Nm (env : Env) (s : Shared) (x : Str) (v : Value) : Prop
  | loc (k : env.kindOf x = some .local) {m : Str → Option Value} (hn : s.heap.Ns env.locals m) (e : m x = some v)
  | cell (k : env.kindOf x = some .cell ∨ env.kindOf x = some .free) {c : Addr} (hc : env.cells.lookup x = some c) (e : s.heap.IsCell c (some v))
theorem Nm.keeps {env : Env} {s s' : Shared} {x : Str} {v : Value} (k : ∀ b o, s.heap.get? b = some o → s'.heap.get? b = some o) : Nm env s x v → Nm env s' x v
  | .loc kk hn e => .loc kk (hn.keeps k) e
  | .cell kk hc e => .cell kk hc (e.keeps k)

/-- the names of env that are told, and what they stand for -/
abbrev Sc (env : Env) (s : Shared) (H : Mp) (ρ : List (Str × D)) : Prop := ∀ p ∈ ρ, ∃ v, Nm env s p.1 v ∧ Rel H v p.2
theorem Sc.grow {env : Env} {s s' : Shared} {H H' : Mp} {ρ : List (Str × D)} (x : Sc env s H ρ) (g : Grow s H s' H') : Sc env s' H' ρ :=
  fun p hp => let ⟨v, a, b⟩ := x p hp; ⟨v, a.keeps g.keep, b.mono g.sub⟩

section
variable (prog : Program) (w : World) (A : Around) (env : Env) (s : Shared) (H : Mp)
/-- e gives d, here and wherever the heap has grown -/
def Ev (e : Expr) (d : D) : Prop := ∀ s₁ H₁, Grow s H s₁ H₁ → ∀ (Q : Value → Shared → Prop) (E : Value → Shared → Prop),
  (∀ v s' H', Grow s₁ H₁ s' H' → Rel H' v d → Q v s') → wpAny (model prog w) A (eval e env) Q E s₁
/-- e as a test gives b -/
def EvT (e : Expr) (b : Bool) : Prop := ∀ s₁ H₁, Grow s H s₁ H₁ → ∀ (Q : Bool → Shared → Prop) (E : Value → Shared → Prop),
  (∀ s' H', Grow s₁ H₁ s' H' → Q b s') → wpAny (model prog w) A (PySem.isTrue e env (eval e env)) Q E s₁
/-- the items of a display, of a call -/
def EvL (es : List Expr) (l : List D) : Prop := ∀ s₁ H₁, Grow s H s₁ H₁ → ∀ (pos : Pos) (Q : List Value → Shared → Prop) (E : Value → Shared → Prop),
  (∀ vs s' H', Grow s₁ H₁ s' H' → Rels H' vs l → Q vs s') → wpAny (model prog w) A (spliced (backTo pos (starEach es env))) Q E s₁
/-- an operation on two values -/
def Op2 (op : Value → Value → Sem Value) (d₁ d₂ d : D) : Prop := ∀ (s : Shared) (H : Mp) (a b : Value), Now s H → Rel H a d₁ → Rel H b d₂ → ∀ (Q : Value → Shared → Prop) (E : Value → Shared → Prop),
  (∀ v s' H', Grow s H s' H' → Rel H' v d → Q v s') → wpAny (model prog w) A (op a b) Q E s
/-- a call of a built-in on values -/
def Call1 (id : String) (ds : List D) (d : D) : Prop := ∀ (s : Shared) (H : Mp) (vs : List Value), Now s H → Rels H vs ds → ∀ (Q : Value → Shared → Prop) (E : Value → Shared → Prop),
  (∀ v s' H', Grow s H s' H' → Rel H' v d → Q v s') → wpAny (model prog w) A (call (.builtin id) vs) Q E s
end

section
variable {prog : Program} {w : World} {A : Around} {env : Env} {s s' : Shared} {H H' : Mp}
theorem Ev.grow {e : Expr} {d : D} (x : Ev prog w A env s H e d) (g : Grow s H s' H') : Ev prog w A env s' H' e d := fun s₁ H₁ g₁ => x s₁ H₁ (g.trans g₁)
theorem EvT.grow {e : Expr} {b : Bool} (x : EvT prog w A env s H e b) (g : Grow s H s' H') : EvT prog w A env s' H' e b := fun s₁ H₁ g₁ => x s₁ H₁ (g.trans g₁)
theorem EvL.grow {es : List Expr} {l : List D} (x : EvL prog w A env s H es l) (g : Grow s H s' H') : EvL prog w A env s' H' es l := fun s₁ H₁ g₁ => x s₁ H₁ (g.trans g₁)

theorem ev_name {ρ : List (Str × D)} {x : Str} {pos : Pos} {d : D} (S : Sc env s H ρ) (hm : (x, d) ∈ ρ) (hk : env.scope.kind = .function)
    (h1 : (x == ("__debug__" : Str)) = false) (h2 : (x == ("__classdict__" : Str)) = false) : Ev prog w A env s H (.Name x pos) d := by
  intro s₁ H₁ g Q E k
  obtain ⟨v, n, r⟩ := S _ hm
  have n := n.keeps g.keep
  have fin : Q v s₁ := k v s₁ H₁ (.refl g.now) (r.mono g.sub)
  refine wpAny_Name ?_ h1
  cases n with
  | loc kk hn e => exact wpAny_loadName_local hk kk hn e fin
  | cell kk hc e =>
    rcases kk with kk | kk
    · exact wpAny_loadName_cell hk kk hc e fin
    · exact wpAny_loadName_free hk kk hc e fin h2
theorem ev_int {i : Int} {k : Nat} {pos : Pos} : Ev prog w A env s H (.Constant (.int i) k pos) (.int i) :=
  fun s₁ H₁ g _ _ k => wpAny_Constant_int (k _ _ H₁ (.tok g.now _) (.int _ _))
theorem ev_str {x : Str} {k : Nat} {pos : Pos} : Ev prog w A env s H (.Constant (.str x) k pos) (.str x) :=
  fun s₁ H₁ g _ _ k => wpAny_Constant_str (k _ _ H₁ (.tok g.now _) (.str _ _))
theorem ev_none {k : Nat} {pos : Pos} : Ev prog w A env s H (.Constant .none k pos) .none :=
  fun s₁ H₁ g _ _ k => wpAny_Constant_none (k _ _ H₁ (.refl g.now) .none)
theorem ev_bool {b : Bool} {k : Nat} {pos : Pos} : Ev prog w A env s H (.Constant (.bool b) k pos) (.bool b) :=
  fun s₁ H₁ g _ _ k => wpAny_Constant_bool (k _ _ H₁ (.refl g.now) (.bool _))

theorem ev_bin {l r : Expr} {op : Operator} {pos : Pos} {d₁ d₂ d : D} (hl : Ev prog w A env s H l d₁) (hr : Ev prog w A env s H r d₂) (ho : Op2 prog w A (binaryOp op) d₁ d₂ d) :
    Ev prog w A env s H (.BinOp l op r pos) d := fun s₁ H₁ g _ _ k =>
  wpAny_BinOp (hl s₁ H₁ g _ _ fun a s₂ H₂ g₂ ra => hr s₂ H₂ (g.trans g₂) _ _ fun b s₃ H₃ g₃ rb => ho s₃ H₃ a b g₃.now (ra.mono g₃.sub) rb _ _ fun v s' H' g' r' => k v s' H' ((g₂.trans g₃).trans g') r')
theorem ev_cmp {l r : Expr} {op : CmpOp} {pos : Pos} {d₁ d₂ d : D} (hl : Ev prog w A env s H l d₁) (hr : Ev prog w A env s H r d₂) (ho : Op2 prog w A (compareOp op) d₁ d₂ d)
    (hm : behindInMarks op r = false := by rfl) : Ev prog w A env s H (.Compare l [op] [r] pos) d := fun s₁ H₁ g _ _ k =>
  wpAny_Compare1 (hl s₁ H₁ g _ _ fun a s₂ H₂ g₂ ra => hr s₂ H₂ (g.trans g₂) _ _ fun b s₃ H₃ g₃ rb => ho s₃ H₃ a b g₃.now (ra.mono g₃.sub) rb _ _ fun v s' H' g' r' => k v s' H' ((g₂.trans g₃).trans g') r') hm
theorem evt_cmp {l r : Expr} {op : CmpOp} {pos : Pos} {d₁ d₂ : D} {b : Bool} (hl : Ev prog w A env s H l d₁) (hr : Ev prog w A env s H r d₂) (ho : Op2 prog w A (compareOp op) d₁ d₂ (.bool b))
    (hm : behindInMarks op r = false := by rfl) : EvT prog w A env s H (.Compare l [op] [r] pos) b := fun s₁ H₁ g _ _ k =>
  wpAny_isTrue_Compare1 (hl s₁ H₁ g _ _ fun a s₂ H₂ g₂ ra => hr s₂ H₂ (g.trans g₂) _ _ fun b s₃ H₃ g₃ rb => ho s₃ H₃ a b g₃.now (ra.mono g₃.sub) rb _ _ fun v s' H' g' r' => by
    cases r'; exact wpAny_truthy_bool (k s' H' ((g₂.trans g₃).trans g'))) hm
theorem evt_not {x : Expr} {pos : Pos} {b : Bool} (h : EvT prog w A env s H x b) : EvT prog w A env s H (.UnaryOp .Not x pos) (!b) := fun s₁ H₁ g _ _ k =>
  wpAny_isTrue_Not (h s₁ H₁ g _ _ fun s' H' g' => k s' H' g')
theorem evt_and {x y : Expr} {pos : Pos} {b c : Bool} (hx : EvT prog w A env s H x b) (hy : b = true → EvT prog w A env s H y c) : EvT prog w A env s H (.BoolOp .And [x, y] pos) (b && c) := fun s₁ H₁ g _ _ k =>
  wpAny_isTrue_BoolOp (wpAny_allTrue_And_cons (hx s₁ H₁ g _ _ fun s₂ H₂ g₂ => by
    cases b with
    | false => exact k _ _ g₂
    | true =>
      rw [if_pos rfl]
      refine wpAny_allTrue_And_cons (hy rfl s₂ H₂ (g.trans g₂) _ _ fun s₃ H₃ g₃ => ?_)
      cases c with
      | false => exact k _ _ (g₂.trans g₃)
      | true => rw [if_pos rfl]; exact wpAny_allTrue_And_nil (k _ _ (g₂.trans g₃))))
theorem ev_ife {t x y : Expr} {pos : Pos} {b : Bool} {d : D} (ht : EvT prog w A env s H t b) (hx : b = true → Ev prog w A env s H x d) (hy : b = false → Ev prog w A env s H y d) :
    Ev prog w A env s H (.IfExp t x y pos) d := fun s₁ H₁ g _ _ k =>
  wpAny_IfExp (ht s₁ H₁ g _ _ fun s₂ H₂ g₂ => by
    cases b with
    | false => rw [if_neg (by decide)]; exact hy rfl s₂ H₂ (g.trans g₂) _ _ fun v s' H' g' => k v s' H' (g₂.trans g')
    | true => rw [if_pos rfl]; exact hx rfl s₂ H₂ (g.trans g₂) _ _ fun v s' H' g' => k v s' H' (g₂.trans g'))
end
end Mine

namespace Mine

/-- from s, H on to s', H', where the objects at mu may turn -/
structure Step (mu : List Addr) (s : Shared) (H : Mp) (s' : Shared) (H' : Mp) : Prop where
  same : ∃ h tk, s' = { s with heap := h, toks := tk }
  keep : ∀ b o, b ∉ mu → s.heap.get? b = some o → s'.heap.get? b = some o
  size : s.heap.objs.size ≤ s'.heap.objs.size
  sub : ∀ a o, H a = some o → H' a = some o
  now : Now s' H'
  fresh : ∀ a o, H' a = some o → H a = some o ∨ s.heap.objs.size ≤ a

theorem Step.of {mu : List Addr} {s s' : Shared} {H H' : Mp} (g : Grow s H s' H') : Step mu s H s' H' :=
  ⟨g.same, fun b o _ e => g.keep b o e, g.size, g.sub, g.now, g.fresh⟩
theorem Step.refl {mu : List Addr} {s : Shared} {H : Mp} (n : Now s H) : Step mu s H s H := .of (.refl n)
theorem Step.trans {mu : List Addr} {s s' s'' : Shared} {H H' H'' : Mp} (x : Step mu s H s' H') (y : Step mu s' H' s'' H'') : Step mu s H s'' H'' where
  same := by obtain ⟨h, t, rfl⟩ := x.same; obtain ⟨h', t', rfl⟩ := y.same; exact ⟨h', t', rfl⟩
  keep := fun b o n e => y.keep b o n (x.keep b o n e)
  size := Nat.le_trans x.size y.size
  sub := fun a o e => y.sub a o (x.sub a o e)
  now := y.now
  fresh := fun a o e => (y.fresh a o e).elim (fun e => x.fresh a o e) fun e => .inr (Nat.le_trans x.size e)
theorem Step.more {mu mu' : List Addr} {s s' : Shared} {H H' : Mp} (x : Step mu s H s' H') (h : ∀ a ∈ mu, a ∈ mu') : Step mu' s H s' H' :=
  ⟨x.same, fun b o n e => x.keep b o (fun q => n (h b q)) e, x.size, x.sub, x.now, x.fresh⟩
/-- seen from an elder state, where the objects at mu did not stand -/
theorem Step.grow {mu : List Addr} {s₀ s s' : Shared} {H₀ H H' : Mp} (g : Grow s₀ H₀ s H) (x : Step mu s H s' H') (hm : ∀ a ∈ mu, s₀.heap.objs.size ≤ a) : Grow s₀ H₀ s' H' where
  same := by obtain ⟨h, t, rfl⟩ := g.same; obtain ⟨h', t', rfl⟩ := x.same; exact ⟨h', t', rfl⟩
  keep := fun b o e => x.keep b o (fun q => Nat.not_lt.mpr (hm b q) (Heap.lt_size e)) (g.keep b o e)
  size := Nat.le_trans g.size x.size
  sub := fun a o e => x.sub a o (g.sub a o e)
  now := x.now
  fresh := fun a o e => (x.fresh a o e).elim (fun e => g.fresh a o e) fun e => .inr (Nat.le_trans g.size e)

/-- the block env stands: its names, what may turn -/
structure St (env : Env) (mu : List Addr) (s : Shared) (H : Mp) (ρ : List (Str × D)) : Prop where
  now : Now s H
  sc : Sc env s H ρ
  ns : ∃ m, s.heap.Ns env.locals m
  out : ∀ a ∈ mu, H a = none ∧ a < s.heap.objs.size
  loc : env.locals ∈ mu
  cells : ∀ p ∈ env.cells, ∃ v, s.heap.IsCell p.2 v

theorem out_step {mu mu' : List Addr} {s s' : Shared} {H H' : Mp} (x : Step mu s H s' H') (o : ∀ a ∈ mu', H a = none ∧ a < s.heap.objs.size) : ∀ a ∈ mu', H' a = none ∧ a < s'.heap.objs.size :=
  fun a ha => ⟨by
    cases q : H' a with
    | none => rfl
    | some ob => exact (x.fresh a ob q).elim (fun e => by rw [(o a ha).1] at e; cases e) fun e => absurd (o a ha).2 (Nat.not_lt.mpr e), Nat.lt_of_lt_of_le (o a ha).2 x.size⟩
theorem St.grow {env : Env} {mu : List Addr} {s s' : Shared} {H H' : Mp} {ρ : List (Str × D)} (x : St env mu s H ρ) (g : Grow s H s' H') : St env mu s' H' ρ :=
  ⟨g.now, x.sc.grow g, let ⟨m, hm⟩ := x.ns; ⟨m, hm.keeps g.keep⟩, out_step (.of (mu := mu) g) x.out, x.loc, fun p hp => let ⟨v, hv⟩ := x.cells p hp; ⟨v, hv.keeps g.keep⟩⟩
theorem St.less {env : Env} {mu : List Addr} {s : Shared} {H : Mp} {ρ ρ' : List (Str × D)} (x : St env mu s H ρ) (h : ∀ p ∈ ρ', p ∈ ρ) : St env mu s H ρ' :=
  ⟨x.now, fun p hp => x.sc p (h p hp), x.ns, x.out, x.loc, x.cells⟩
/-- a step that turns other objects than the block's -/
theorem St.step {env : Env} {mu wr : List Addr} {s s' : Shared} {H H' : Mp} {ρ : List (Str × D)} (x : St env mu s H ρ) (g : Step wr s H s' H') (h1 : ∀ a ∈ wr, a ∉ mu) (h2 : ∀ a ∈ wr, ∀ p ∈ env.cells, p.2 ≠ a) : St env mu s' H' ρ := by
  have hL : env.locals ∉ wr := fun q => h1 _ q x.loc
  have hcell : ∀ p ∈ env.cells, ∀ v, s.heap.IsCell p.2 v → s'.heap.IsCell p.2 v := fun p hp v ⟨o, e, d⟩ => ⟨o, g.keep _ _ (fun q => h2 _ q p hp rfl) e, d⟩
  refine ⟨g.now, fun p hp => ?_, ?_, out_step g x.out, x.loc, fun p hp => let ⟨v, hv⟩ := x.cells p hp; ⟨v, hcell p hp v hv⟩⟩
  · obtain ⟨v, n, r⟩ := x.sc p hp
    refine ⟨v, ?_, r.mono g.sub⟩
    cases n with
    | loc k hn e => exact .loc k (hn.at' fun o e => g.keep _ o hL e) e
    | cell k hc e => exact .cell k hc (hcell _ (mem_of_lookup hc) _ e)
  · obtain ⟨m, hm⟩ := x.ns
    exact ⟨m, hm.at' fun o e => g.keep _ o hL e⟩

/-- a list that may still turn -/
def Lm (a : Addr) (l : List D) (s : Shared) (H : Mp) : Prop := ∃ vs n, s.heap.get? a = some (lstO vs n) ∧ Rels H vs l
theorem Lm.grow {a : Addr} {l : List D} {s s' : Shared} {H H' : Mp} (x : Lm a l s H) (g : Grow s H s' H') : Lm a l s' H' := let ⟨vs, n, e, r⟩ := x; ⟨vs, n, g.keep _ _ e, r.mono g.sub⟩
theorem Lm.step {a : Addr} {l : List D} {mu : List Addr} {s s' : Shared} {H H' : Mp} (x : Lm a l s H) (g : Step mu s H s' H') (ha : a ∉ mu) : Lm a l s' H' := let ⟨vs, n, e, r⟩ := x; ⟨vs, n, g.keep _ _ ha e, r.mono g.sub⟩
theorem Lm.ne_loc {a : Addr} {l : List D} {s : Shared} {H : Mp} (x : Lm a l s H) {L : Addr} {m : Str → Option Value} (n : s.heap.Ns L m) : a ≠ L := by
  rintro rfl
  obtain ⟨vs, k, e, _⟩ := x
  obtain ⟨o, es, ep, e', hd, _⟩ := n
  rw [e] at e'; cases e'; cases hd
theorem Lm.ne_cell {a : Addr} {l : List D} {s : Shared} {H : Mp} (x : Lm a l s H) {c : Addr} {v : Option Value} (n : s.heap.IsCell c v) : a ≠ c := by
  rintro rfl
  obtain ⟨vs, k, e, _⟩ := x
  obtain ⟨o, e', hd⟩ := n
  rw [e] at e'; cases e'; cases hd
theorem Lm.rels {a : Addr} {l : List D} {s : Shared} {H : Mp} (x : Lm a l s H) : ∃ vs n, s.heap.get? a = some (lstO vs n) ∧ Rels H vs l := x

section
variable {prog : Program} {w : World} {A : Around} {env : Env} {mu : List Addr} {s : Shared} {H : Mp} {ρ ρ' : List (Str × D)} {E : Value → Shared → Prop}

/-- a local name is bound -/
theorem st_loc {x : Str} {v : Value} {d : D} {Q : Unit → Shared → Prop} (S : St env mu s H ρ) (hk : env.kindOf x = some .local) (hf : env.scope.kind = .function) (r : Rel H v d)
    (hρ : ∀ p ∈ ρ', p = (x, d) ∨ (p ∈ ρ ∧ p.1 ≠ x)) (k : ∀ s', St env mu s' H ρ' → Step [env.locals] s H s' H → Q () s') : wpAny (model prog w) A (storeName env x v) Q E s := by
  obtain ⟨m, hm⟩ := S.ns
  refine wpAny_storeName_local hk hm (fun h' hn' hs' => ?_) (by rw [hf]; rfl)
  have hL : H env.locals = none := (S.out _ S.loc).1
  have g : Step [env.locals] s H { s with heap := h', toks := s.toks + 1 } H := ⟨⟨_, _, rfl⟩, fun b o n e => hs'.extBut b o (fun q => n (by simp [q])) e, Nat.le_of_eq hs'.1.symm, fun _ _ e => e, fun a o e => hs'.extBut a o (fun q => by rw [q, hL] at e; cases e) (S.now a o e), fun _ _ e => .inl e⟩
  have hcell : ∀ c v, s.heap.IsCell c v → c ≠ env.locals := fun c v hc => by
    rintro rfl
    obtain ⟨o, e, hd⟩ := hc
    obtain ⟨o', es, ep, e', hd', _⟩ := hm
    rw [e] at e'; cases e'; rw [hd] at hd'; cases hd'
  refine k _ ⟨g.now, fun p hp => ?_, ⟨_, hn'⟩, out_step g S.out, S.loc, fun p hp => let ⟨v, hv⟩ := S.cells p hp; ⟨v, hv.sameBut hs' (hcell _ _ hv)⟩⟩ g
  rcases hρ p hp with rfl | ⟨hm', hne⟩
  · exact ⟨v, .loc hk hn' (by simp), r⟩
  · obtain ⟨v', n, r'⟩ := S.sc p hm'
    refine ⟨v', ?_, r'⟩
    cases n with
    | loc kk hn2 e =>
      obtain ⟨o1, es1, ep1, a1, b1, c1, d1⟩ := hm
      obtain ⟨o2, es2, ep2, a2, b2, c2, d2⟩ := hn2
      rw [a1] at a2; cases a2; rw [b1] at b2; cases b2
      exact .loc kk hn' (by rw [if_neg hne, ← d1, d2]; exact e)
    | cell kk hc e => exact .cell kk hc (e.sameBut hs' (hcell _ _ e))

/-- a name that is a cell of the block's own is bound -/
theorem st_cell {x : Str} {c : Addr} {v : Value} {d : D} {Q : Unit → Shared → Prop} (S : St env mu s H ρ) (hk : env.kindOf x = some .cell) (hf : env.scope.kind = .function) (r : Rel H v d)
    (hc : env.cells.lookup x = some c) (hcm : c ∈ mu) (hap : ∀ p ∈ env.cells, p.2 = c → p.1 = x)
    (hρ : ∀ p ∈ ρ', p = (x, d) ∨ (p ∈ ρ ∧ p.1 ≠ x)) (k : ∀ s', St env mu s' H ρ' → Step [c] s H s' H → Q () s') : wpAny (model prog w) A (storeName env x v) Q E s := by
  obtain ⟨v₀, hv₀⟩ := S.cells _ (mem_of_lookup hc)
  obtain ⟨m, hm⟩ := S.ns
  refine wpAny_storeName_cell hf hk hc hv₀ fun h' hc' hs' => ?_
  have hL : H c = none := (S.out _ hcm).1
  have g : Step [c] s H { s with heap := h' } H := ⟨⟨_, _, rfl⟩, fun b o n e => hs'.extBut b o (fun q => n (by simp [q])) e, Nat.le_of_eq hs'.1.symm, fun _ _ e => e, fun a o e => hs'.extBut a o (fun q => by rw [q, hL] at e; cases e) (S.now a o e), fun _ _ e => .inl e⟩
  have hne : c ≠ env.locals := by
    rintro rfl
    obtain ⟨o, e, hd⟩ := hv₀
    obtain ⟨o', es, ep, e', hd', _⟩ := hm
    rw [e] at e'; cases e'; rw [hd] at hd'; cases hd'
  refine k _ ⟨g.now, fun p hp => ?_, ⟨m, hm.sameBut hs' (Ne.symm hne)⟩, out_step g S.out, S.loc, fun p hp => ?_⟩ g
  · rcases hρ p hp with rfl | ⟨hm', hne'⟩
    · exact ⟨v, .cell (.inl hk) hc hc', r⟩
    · obtain ⟨v', n, r'⟩ := S.sc p hm'
      refine ⟨v', ?_, r'⟩
      cases n with
      | loc kk hn2 e => exact .loc kk (hn2.sameBut hs' (Ne.symm hne)) e
      | cell kk hc2 e => exact .cell kk hc2 (e.sameBut hs' fun q => hne' (hap _ (mem_of_lookup hc2) q))
  · by_cases q : p.2 = c
    · exact ⟨_, q ▸ hc'⟩
    · obtain ⟨v', hv'⟩ := S.cells p hp
      exact ⟨v', hv'.sameBut hs' q⟩
end

/-- the cells that a block hands on to a comprehension within it -/
theorem closure_ok {env : Env} : ∀ (names : List (Str × NameKind)) (acc : List (Str × Addr)), (∀ p ∈ names, p.2 = .free → ∃ c, env.cells.lookup p.1 = some c) →
    ∃ cl, (forIn names acc fun (x : Str × NameKind) (cs : List (Str × Addr)) => (if (x.2 == NameKind.free) = true then (do let c ← cellOf env x.1; pure (ForInStep.yield ((x.1, c) :: cs))) else pure (ForInStep.yield cs) : Sem (ForInStep (List (Str × Addr))))) = pure cl ∧
      (∀ q ∈ cl, q ∈ acc ∨ (q.1, NameKind.free) ∈ names ∧ env.cells.lookup q.1 = some q.2) ∧ (∀ y, (y, NameKind.free) ∈ names → cl.lookup y = env.cells.lookup y) ∧ (∀ y, (y, NameKind.free) ∉ names → cl.lookup y = acc.lookup y)
  | [], acc, _ => ⟨acc, by rw [List.forIn_nil], fun q hq => .inl hq, fun y hy => (nomatch hy), fun _ _ => rfl⟩
  | (x, kd) :: r, acc, h => by
    rw [List.forIn_cons]
    by_cases hk : kd = .free
    · subst hk
      obtain ⟨c, hc⟩ := h (x, .free) (.head _) rfl
      obtain ⟨cl, e, a, b, d⟩ := closure_ok (env := env) r ((x, c) :: acc) fun p hp => h p (.tail _ hp)
      refine ⟨cl, ?_, fun q hq => ?_, fun y hy => ?_, fun y hy => ?_⟩
      · have : cellOf env x = pure c := by unfold cellOf; rw [hc]
        simp only [beq_self_eq_true, if_true, this]
        exact e
      · rcases a q hq with h1 | h1
        · rcases List.mem_cons.mp h1 with rfl | h1
          · exact .inr ⟨.head _, hc⟩
          · exact .inl h1
        · exact .inr ⟨.tail _ h1.1, h1.2⟩
      · by_cases hm : (y, NameKind.free) ∈ r
        · exact b y hm
        · rcases List.mem_cons.mp hy with q | q
          · cases q; rw [d _ hm, List.lookup_cons]; simp [hc]
          · exact absurd q hm
      · rw [d y fun q => hy (.tail _ q), List.lookup_cons]
        have : (y == x) = false := by
          cases hb : y == x with
          | false => rfl
          | true => exact absurd (by rw [beq_iff_eq.mp hb]; exact .head _) hy
        simp [this]
    · have hk' : (kd == NameKind.free) = false := by simpa using hk
      obtain ⟨cl, e, a, b, d⟩ := closure_ok (env := env) r acc fun p hp => h p (.tail _ hp)
      refine ⟨cl, ?_, fun q hq => (a q hq).imp id fun z => ⟨.tail _ z.1, z.2⟩, fun y hy => ?_, fun y hy => ?_⟩
      · simp only [hk', Bool.false_eq_true, if_false]
        exact e
      · rcases List.mem_cons.mp hy with q | q
        · cases q; exact absurd rfl hk
        · exact b y q
      · exact d y fun q => hy (.tail _ q)
theorem closureFor_ok {scope : Scope} {env : Env} (h : ∀ p ∈ scope.names, p.2 = .free → ∃ c, env.cells.lookup p.1 = some c) :
    ∃ cl, closureFor scope env = pure cl ∧ (∀ q ∈ cl, (q.1, NameKind.free) ∈ scope.names ∧ env.cells.lookup q.1 = some q.2) ∧ ∀ y, (y, NameKind.free) ∈ scope.names → cl.lookup y = env.cells.lookup y := by
  obtain ⟨cl, e, a, b, _⟩ := closure_ok (env := env) scope.names [] h
  refine ⟨cl, ?_, fun q hq => (a q hq).elim (fun x => (nomatch x)) id, b⟩
  unfold closureFor
  exact congrArg (· >>= fun cs => pure cs) e
end Mine

namespace Mine

abbrev testsOf (ifs : List Expr) (env : Env) : Sem Bool :=
  forIn ifs true fun c r => if r = true then do let ok ← PySem.isTrue c env (eval c env); pure (ForInStep.yield ok) else pure (ForInStep.yield r)

theorem turn_last {elt : Expr} {gens : List Comprehension} {target iter : Expr} {ifs : List Expr} {scope : Scope} {pos : Pos} {k : Nat} {it acc : Value} {env : Env}
    (hg : gens[k]? = some ⟨target, iter, ifs, 0⟩) (hn : gens[k + 1]? = none) :
    compTurn (.ListComp elt gens scope pos) k it acc env = (standAt iter.pos >>= fun _ => pyNext it >>= fun r => match r with
      | none => pure (.done .next)
      | some v => letOwnedTupleGo target it v >>= fun _ => assign target env v >>= fun _ => testsOf ifs env >>= fun ok =>
        if ok = true then (eval elt env >>= fun x => call (.builtin "list.append") [acc, x] >>= fun _ => pure ()) >>= fun _ => again (.compLoop (.ListComp elt gens scope pos) k it acc env)
        else again (.compLoop (.ListComp elt gens scope pos) k it acc env)) := by
  unfold compTurn
  simp only [hg, hn]
  rfl
theorem turn_more {elt : Expr} {gens : List Comprehension} {target iter : Expr} {ifs : List Expr} {scope : Scope} {pos : Pos} {k : Nat} {it acc : Value} {env : Env} {target' iter' : Expr} {ifs' : List Expr}
    (hg : gens[k]? = some ⟨target, iter, ifs, 0⟩) (hn : gens[k + 1]? = some ⟨target', iter', ifs', 0⟩) :
    compTurn (.ListComp elt gens scope pos) k it acc env = (standAt iter.pos >>= fun _ => pyNext it >>= fun r => match r with
      | none => pure (.done .next)
      | some v => letOwnedTupleGo target it v >>= fun _ => assign target env v >>= fun _ => testsOf ifs env >>= fun ok =>
        if ok = true then (eval iter' env >>= fun x => standAt iter'.pos >>= fun _ => foldedSetIterable iter' env x >>= fun x => holding [x] (pyIter x) >>= fun it' =>
          runOwn (.compStart (.ListComp elt gens scope pos) (k + 1) it' acc env) env >>= fun _ => again (.compLoop (.ListComp elt gens scope pos) k it acc env))
        else again (.compLoop (.ListComp elt gens scope pos) k it acc env)) := by
  unfold compTurn
  simp only [hg, hn]
  rfl

/-- an iterator of a list or a range -/
def PlainIt (h : Heap) (I : Addr) : Prop := ∃ o, h.get? I = some o ∧ (o.cls = .type "list_iterator" ∨ o.cls = .type "range_iterator")

section
variable (prog : Program) (w : World) (A : Around)
/-- an iterator that stands ready to give the items -/
def Src (I : Addr) (items : List D) (s : Shared) (H : Mp) : Prop :=
  ∃ (fp : List Addr) (P : Nat → Value → Prop) (W : Nat → Heap → Prop), Walks prog w A I fp [I] items.length P W ∧ W 0 s.heap ∧ (∀ b ∈ fp, b = I ∨ ∃ o, H b = some o) ∧ H I = none ∧ I < s.heap.objs.size ∧
    (∀ i v, P i v → ∃ d, items[i]? = some d ∧ ∀ H' : Mp, (∀ a o, H a = some o → H' a = some o) → Rel H' v d) ∧ ∀ i h, W i h → PlainIt h I
/-- the expression gives an iterable of these items -/
def EvIt (env : Env) (s : Shared) (H : Mp) (iter : Expr) (items : List D) : Prop := ∀ s₁ H₁, Grow s H s₁ H₁ → ∀ (Q : Value → Shared → Prop) (E : Value → Shared → Prop),
  (∀ I s' H', Grow s₁ H₁ s' H' → s₁.heap.objs.size ≤ I → Src prog w A I items s' H' → Q (.ref I) s') → wpAny (model prog w) A (eval iter env) (fun x s₂ => wpAny (model prog w) A (pyIter x) Q E s₂) E s₁
end

section
variable {prog : Program} {w : World} {A : Around} {env : Env} {mu : List Addr} {s : Shared} {H : Mp} {ρ : List (Str × D)}

theorem EvIt.grow {s' : Shared} {H' : Mp} {iter : Expr} {items : List D} (x : EvIt prog w A env s H iter items) (g : Grow s H s' H') : EvIt prog w A env s' H' iter items := fun s₁ H₁ g₁ => x s₁ H₁ (g.trans g₁)

theorem take_flatMap_le {α : Type} (o : α → List D) (l : List α) (i : Nat) : ((l.take i).flatMap o).length ≤ (l.flatMap o).length := by
  conv => rhs; rw [← List.take_append_drop i l, List.flatMap_append, List.length_append]
  exact Nat.le_add_right _ _
/-- the loop of a clause -/
theorem comp_core {elt : Expr} {gens : List Comprehension} {scope : Scope} {pos p₀ : Pos} {k : Nat} {I Dl : Addr} {target : Expr} {ifs : List Expr} {tl : Bool → Sem Fin}
    (heq : compTurn (.ListComp elt gens scope pos) k (.ref I) (.ref Dl) env = (standAt p₀ >>= fun _ => pyNext (.ref I) >>= fun r => match r with
      | none => pure (.done .next)
      | some v => letOwnedTupleGo target (.ref I) v >>= fun _ => assign target env v >>= fun _ => testsOf ifs env >>= tl))
    {α : Type} {c : α → D} {items : List α} (o : α → List D) (src : Src prog w A I (items.map c) s H) (S : St env mu s H ρ) {acc : List D} (L : Lm Dl acc s H) (hD : Dl ∈ mu) (hI : I ∉ mu) (hIc : ∀ p ∈ env.cells, p.2 ≠ I)
    (body : ∀ d v acc₁ s₁ H₁, d ∈ items → (acc₁ ++ o d).length ≤ (acc ++ items.flatMap o).length → Rel H₁ v (c d) → (∀ a ob, H a = some ob → H₁ a = some ob) → St env mu s₁ H₁ ρ → PlainIt s₁.heap I → Lm Dl acc₁ s₁ H₁ → ∀ (Q : Shared → Prop) (E : Value → Shared → Prop),
      (∀ s' H', Step mu s₁ H₁ s' H' → St env mu s' H' ρ → Lm Dl (acc₁ ++ o d) s' H' → Q s') →
      wpAny (model prog w) A (letOwnedTupleGo target (.ref I) v) (fun _ s₁' => wpAny (model prog w) A (assign target env v) (fun _ s₂ => wpAny (model prog w) A (testsOf ifs env) (fun ok s₃ =>
        wpAny (model prog w) A (tl ok) (fun f s₄ => f = .again (.compLoop (.ListComp elt gens scope pos) k (.ref I) (.ref Dl) env) ∧ Q s₄) E s₃) E s₂) E s₁') E s₁)
    {R : Result → Shared → Prop} (hR : ∀ s' H', Step (I :: mu) s H s' H' → St env mu s' H' ρ → Lm Dl (acc ++ items.flatMap o) s' H' → R (.ok .next) s') :
    codeAny (model prog w) A (.compLoop (.ListComp elt gens scope pos) k (.ref I) (.ref Dl) env) R s := by
  obtain ⟨fp, P, W, wk, hst, hfp, hHI, hIl, hP, hW⟩ := src
  rw [List.length_map] at wk
  refine codeAny_loop rfl (fun n s' => ∃ i H', i ≤ items.length ∧ n = items.length + 1 - i ∧ Step (I :: mu) s H s' H' ∧ St env mu s' H' ρ ∧ Lm Dl (acc ++ (items.take i).flatMap o) s' H' ∧ W i s'.heap ∧ H' I = none) ?_ (items.length + 1)
    ⟨0, H, Nat.zero_le _, rfl, .refl S.now, S, by simpa using L, hst, hHI⟩
  rintro n s' ⟨i, H', hi, rfl, g, S', L', hst', hHI'⟩
  show wpAny (model prog w) A ((compTurn (.ListComp elt gens scope pos) k (.ref I) (.ref Dl) env).onRaise (fun x => do noteFrame x env; theTreesLotGoes x)) _ _ s'
  refine wpAny_noted ?_
  rw [heq]
  refine wpAny_bind (wpAny_standAt (wpAny_bind ?_))
  have hIl' : I < s'.heap.objs.size := Nat.lt_of_lt_of_le hIl g.size
  refine with_size ?_
  have turned : ∀ (h' : Heap) (tk : Nat), (∀ b ob, b ∉ [I] → s'.heap.get? b = some ob → h'.get? b = some ob) → s'.heap.objs.size ≤ h'.objs.size → Step [I] s' H' { s' with heap := h', toks := tk } H' := fun h' tk hk hl =>
    ⟨⟨_, _, rfl⟩, hk, hl, fun _ _ e => e, fun a ob e => hk a ob (fun q => by rw [List.mem_singleton.mp q, hHI'] at e; cases e) (S'.now a ob e), fun _ _ e => .inl e⟩
  have hDI : Dl ≠ I := fun q => hI (q ▸ hD)
  have hcell : ∀ a ∈ [I], ∀ p ∈ env.cells, p.2 ≠ a := fun a ha p hp => by rw [List.mem_singleton.mp ha]; exact hIc p hp
  have hmu : ∀ a ∈ [I], a ∉ mu := fun a ha => by rw [List.mem_singleton.mp ha]; exact hI
  have hone : ∀ a ∈ [I], a ∈ I :: mu := fun a ha => by rw [List.mem_singleton.mp ha]; exact .head _
  by_cases hlt : i < items.length
  · refine wk.item i s' _ _ hlt hst' fun v h₁ tk₁ hPv hst₁ hk₁ hz => ?_
    obtain ⟨d', hd', hr⟩ := hP i v hPv
    rw [List.getElem?_map] at hd'
    obtain ⟨d, hd, rfl⟩ := Option.map_eq_some_iff.mp hd'
    have g₁ := turned h₁ tk₁ (fun b ob hb e => hk₁ b ob hb e) hz
    have S₁ := S'.step g₁ hmu hcell
    have L₁ := L'.step g₁ (by simpa using hDI)
    have hmem : d ∈ items := List.mem_of_getElem? hd
    have htk : (items.take (i + 1)).flatMap o = (items.take i).flatMap o ++ o d := by
      rw [List.take_add_one, hd, List.flatMap_append]; simp
    have fin := body d v (acc ++ (items.take i).flatMap o) _ _ hmem (by rw [List.append_assoc, ← htk, List.length_append, List.length_append]; exact Nat.add_le_add_left (take_flatMap_le o items _) _) (hr H' g.sub) g.sub S₁ (hW _ _ hst₁) L₁ (fun s₄ => ∃ m, m < items.length + 1 - i ∧ ∃ i₂ H₂, i₂ ≤ items.length ∧ m = items.length + 1 - i₂ ∧ Step (I :: mu) s H s₄ H₂ ∧ St env mu s₄ H₂ ρ ∧ Lm Dl (acc ++ (items.take i₂).flatMap o) s₄ H₂ ∧ W i₂ s₄.heap ∧ H₂ I = none)
      (notedBy (model prog w) A env fun e s' => R (.error e) s') fun s₂ H₂ g₂ S₂ L₂ => ⟨items.length + 1 - (i + 1), by omega, i + 1, H₂, hlt, rfl,
        g.trans ((g₁.more hone).trans (g₂.more fun a ha => .tail _ ha)), S₂, ?_, ?_, ?_⟩
    · dsimp only
      refine wpAny_bind (wpAny_mono fin (fun _ s₂ h₂ => wpAny_bind (wpAny_mono h₂ (fun _ s₃ h₃ => wpAny_bind (wpAny_mono h₃ (fun ok s₄ h₄ => ?_) fun _ _ e => e)) fun _ _ e => e)) fun _ _ e => e)
      refine wpAny_mono h₄ (fun f s₅ h₅ => ?_) fun _ _ e => e
      obtain ⟨rfl, m, hm, h⟩ := h₅
      exact ⟨rfl, m, hm, h⟩
    · rw [htk, ← List.append_assoc]; exact L₂
    · refine wk.frame _ _ _ hst₁ fun b hb ob e => ?_
      rcases hfp b hb with q | ⟨o', ho'⟩
      · rw [q] at e ⊢; exact g₂.keep _ _ hI e
      · have e1 := g₂.sub b o' (g.sub b o' ho')
        have e2 := S₁.now b o' (g.sub b o' ho')
        rw [e2] at e; cases e
        exact g₂.now b _ e1
    · cases q : H₂ I with
      | none => rfl
      | some ob => exact (g₂.fresh I ob q).elim (fun e => by rw [hHI'] at e; cases e) fun e => absurd hIl' (Nat.not_lt.mpr (Nat.le_trans g₁.size e))
  · have hin : i = items.length := by omega
    subst hin
    refine wk.done s' _ _ hst' fun h₁ tk₁ hk₁ hz => ?_
    dsimp only
    have g₁ := turned h₁ tk₁ (fun b ob hb e => hk₁ b ob hb e) hz
    refine wpAny_pure (hR _ H' (g.trans (g₁.more hone)) (S'.step g₁ hmu hcell) ?_)
    rw [List.take_length] at L'
    exact L'.step g₁ (by simpa using hDI)
end
end Mine

namespace Mine

theorem Step.back {mu mu' : List Addr} {s₀ s s' : Shared} {H₀ H H' : Mp} (x : Step mu' s H s' H') (g : Step mu s₀ H₀ s H) (hm : ∀ a ∈ mu', a ∈ mu ∨ s₀.heap.objs.size ≤ a) : Step mu s₀ H₀ s' H' where
  same := by obtain ⟨h, t, rfl⟩ := g.same; obtain ⟨h', t', rfl⟩ := x.same; exact ⟨h', t', rfl⟩
  keep := fun b o n e => x.keep b o (fun q => (hm b q).elim n fun z => Nat.not_lt.mpr z (Heap.lt_size e)) (g.keep b o n e)
  size := Nat.le_trans g.size x.size
  sub := fun a o e => x.sub a o (g.sub a o e)
  now := x.now
  fresh := fun a o e => (x.fresh a o e).elim (fun e => g.fresh a o e) fun e => .inr (Nat.le_trans g.size e)

/-- all the tests of a clause -/
def EvTs (prog : Program) (w : World) (A : Around) (env : Env) (s : Shared) (H : Mp) (ifs : List Expr) (b : Bool) : Prop := ∀ s₁ H₁, Grow s H s₁ H₁ → ∀ (Q : Bool → Shared → Prop) (E : Value → Shared → Prop),
  (∀ s' H', Grow s₁ H₁ s' H' → Q b s') → wpAny (model prog w) A (testsOf ifs env) Q E s₁

section
variable {prog : Program} {w : World} {A : Around} {env : Env} {mu : List Addr} {s : Shared} {H : Mp} {ρ : List (Str × D)}
theorem evts_nil : EvTs prog w A env s H [] true := fun s₁ H₁ g _ _ k => wpAny_tests_nil (k s₁ H₁ (.refl g.now))
theorem evts_one {c : Expr} {b : Bool} (h : EvT prog w A env s H c b) : EvTs prog w A env s H [c] b := fun s₁ H₁ g _ _ k => wpAny_tests_one (h s₁ H₁ g _ _ k)

theorem src_list {l : Addr} {vs : List Value} {n : Nat} {items : List D} {I : Addr} {H' : Mp} {s' : Shared} (hh : A.handled = none) (hl : H l = some (lstO vs n)) (r : Rels H vs items) (g : Grow s H s' H')
    (hI : s.heap.objs.size ≤ I) (hIH : H' I = none) (hit : s'.heap.IsListIter I l 0) : Src prog w A I items s' H' := by
  have hlt : I < s'.heap.objs.size := let ⟨o, e, _⟩ := hit; Heap.lt_size e
  have hne : l ≠ I := fun q => by rw [← q, g.sub _ _ hl] at hIH; cases hIH
  have hlen : vs.toArray.size = items.length := by simpa using r.length
  refine ⟨[I, l], fun i v => vs.toArray[i]? = some v, fun i h => h.IsListIter I l i ∧ h.IsList l vs.toArray, hlen ▸ Walks.list hh I l hne vs.toArray, ⟨hit, ⟨_, g.now _ _ (g.sub _ _ hl), rfl, _, rfl⟩⟩, fun b hb => ?_, hIH, hlt, fun i v hv => ?_, fun i h hw => let ⟨o, e, c, _⟩ := hw.1; ⟨o, e, .inl c⟩⟩
  · simp only [List.mem_cons, List.not_mem_nil, or_false] at hb
    rcases hb with q | q
    · exact .inl q
    · exact .inr ⟨_, q ▸ g.sub _ _ hl⟩
  · obtain ⟨d, e, q⟩ := r.get' i (by simpa using hv)
    exact ⟨d, e, fun H₂ k => q.mono fun a o x => k a o (g.sub a o x)⟩

/-- iterating over a list -/
theorem evit_list {e : Expr} {items : List D} (hh : A.handled = none) (h : Ev prog w A env s H e (.list items)) : EvIt prog w A env s H e items := fun s₁ H₁ g Q E k => by
  refine h s₁ H₁ g _ _ fun v s₂ H₂ g₂ r => ?_
  cases r with
  | @list a vs n l hl rs =>
    refine wpAny_pyIter_list ⟨_, g₂.now _ _ hl, rfl, _, rfl⟩ ?_
    have gp : Grow s₂ H₂ { s₂ with heap := s₂.heap.push { cls := .type "list_iterator", data := .fields #[.ref a, .int 0 0] } } H₂ := .pushed g₂.now _
    have hIH : H₂ s₂.heap.objs.size = none := by
      cases q : H₂ s₂.heap.objs.size with
      | none => rfl
      | some o => exact absurd (Heap.lt_size (g₂.now _ _ q)) (Nat.lt_irrefl _)
    refine k _ _ _ (g₂.trans gp) g₂.size (src_list hh hl rs gp (Nat.le_refl _) hIH ?_)
    exact ⟨_, Heap.get?_push_size _ rfl, rfl, rfl⟩

theorem comp_start {elt : Expr} {gens : List Comprehension} {g : Comprehension} {scope : Scope} {pos : Pos} {k : Nat} {I : Addr} {acc : Value} {items : List D} {R : Result → Shared → Prop}
    (hg : gens[k]? = some g) (ha : g.is_async = 0) (src : Src prog w A I items s H) (h : codeAny (model prog w) A (.compLoop (.ListComp elt gens scope pos) k (.ref I) acc env) R s) :
    codeAny (model prog w) A (.compStart (.ListComp elt gens scope pos) k (.ref I) acc env) R s := by
  obtain ⟨fp, P, W, wk, hst, _⟩ := src
  refine codeAny_of_tree ?_
  show wpAny _ _ ((compStart (.ListComp elt gens scope pos) k (.ref I) acc env).onRaise (fun x => do noteFrame x env; standAt theWindowsPlace)) _ _ s
  refine wpAny_notedAt ?_
  unfold compStart
  have hcl : (clausesOf (.ListComp elt gens scope pos))[k]? = some g := hg
  simp only [hcl]
  have hb : (Option.elim (some g) false fun x => x.is_async != 0) = false := by simp [ha]
  simp only [hb]
  show wpAny _ _ (ask >>= _) _ _ s
  refine wpAny_bind (wpAny_askSetting (wpAny_ite ?_))
  have again1 : ∀ (s : Shared) (hl : codeAny (model prog w) A (.compLoop (.ListComp elt gens scope pos) k (.ref I) acc env) R s), wpAny (model prog w) (A.under (.compStart (.ListComp elt gens scope pos) k (.ref I) acc env)) (again (.compLoop (.ListComp elt gens scope pos) k (.ref I) acc env))
      (fun fin s' => match fin with | .done f => R (.ok f) s' | .again c' => c'.quiet = true ∧ codeAny (model prog w) A c' R s') (notedBy (model prog w) A env fun x s' => R (.error x) s') s := fun s hl => wpAny_pure ⟨rfl, hl⟩
  split
  · first
      | exact wpAny_bind (wpAny_pure (wpAny_pure (And.intro rfl h)))
      | exact wpAny_pure (And.intro rfl h)
  · refine wpAny_bind (wpAny_rule ?_)
    refine wpAny_bind (wpAny_standAt ?_)
    exact wpAny_bind (wk.self 0 _ _ _ hst (again1 s h))

/-- the loop of clause k over these items puts «out» at the list's end -/
def AddsC (prog : Program) (w : World) (A : Around) (elt : Expr) (gens : List Comprehension) (scope : Scope) (pos : Pos) (k : Nat) (Dl : Addr) (env : Env) (mu : List Addr) (ρ : List (Str × D)) (H₀ : Mp) (items out : List D) : Prop :=
  ∀ I acc s H, (∀ a o, H₀ a = some o → H a = some o) → Src prog w A I items s H → St env mu s H ρ → Lm Dl acc s H → (acc ++ out).length ≤ sizeLine → I ∉ mu → (∀ p ∈ env.cells, p.2 ≠ I) → ∀ R : Result → Shared → Prop,
    (∀ s' H', Step (I :: mu) s H s' H' → St env mu s' H' ρ → Lm Dl (acc ++ out) s' H' → R (.ok .next) s') → codeAny (model prog w) A (.compLoop (.ListComp elt gens scope pos) k (.ref I) (.ref Dl) env) R s

/-- what binding the target does -/
def Binds (prog : Program) (w : World) (A : Around) (env : Env) (mu : List Addr) (ρ : List (Str × D)) (target : Expr) (d : D) (ρ' : List (Str × D)) : Prop :=
  ∀ I v s H, St env mu s H ρ → PlainIt s.heap I → Rel H v d → ∀ (Q : Shared → Prop) (E : Value → Shared → Prop),
    (∀ s' H', Step mu s H s' H' → St env mu s' H' ρ' → (∀ a l, Lm a l s H → Lm a l s' H') → Q s') →
    wpAny (model prog w) A (letOwnedTupleGo target (.ref I) v) (fun _ s₁ => wpAny (model prog w) A (assign target env v) (fun _ s₂ => Q s₂) E s₁) E s

theorem Lm.same {a : Addr} {l : List D} {s : Shared} {H : Mp} (x : Lm a l s H) {c : Addr} {s' : Shared} (g : Step [c] s H s' H) (hc : a ≠ c) : Lm a l s' H := x.step g (by simpa using hc)

theorem bind_loc {x : Str} {px : Pos} {d : D} {ρ' : List (Str × D)} (hk : env.kindOf x = some .local) (hf : env.scope.kind = .function) (hρ : ∀ p ∈ ρ', p = (x, d) ∨ (p ∈ ρ ∧ p.1 ≠ x)) :
    Binds prog w A env mu ρ (.Name x px) d ρ' := fun I v s H S _ r Q E k => by
  refine wpAny_of_eq (a := ()) rfl ?_
  refine wpAny_assign_Name (st_loc S hk hf r hρ fun s' S' g => k s' H (g.more fun a ha => by rw [List.mem_singleton.mp ha]; exact S.loc) S' fun a l L => ?_)
  obtain ⟨m, hm⟩ := S.ns
  exact L.same g (L.ne_loc hm)
theorem bind_cell {x : Str} {px : Pos} {d : D} {ρ' : List (Str × D)} {c : Addr} (hk : env.kindOf x = some .cell) (hf : env.scope.kind = .function) (hc : env.cells.lookup x = some c) (hcm : c ∈ mu) (hap : ∀ p ∈ env.cells, p.2 = c → p.1 = x)
    (hρ : ∀ p ∈ ρ', p = (x, d) ∨ (p ∈ ρ ∧ p.1 ≠ x)) : Binds prog w A env mu ρ (.Name x px) d ρ' := fun I v s H S _ r Q E k => by
  refine wpAny_of_eq (a := ()) rfl ?_
  refine wpAny_assign_Name (st_cell S hk hf r hc hcm hap hρ fun s' S' g => k s' H (g.more fun a ha => by rw [List.mem_singleton.mp ha]; exact hcm) S' fun a l L => ?_)
  obtain ⟨v₀, hv⟩ := S.cells _ (mem_of_lookup hc)
  exact L.same g (L.ne_cell hv)

theorem comp_last {elt : Expr} {gens : List Comprehension} {target iter : Expr} {ifs : List Expr} {scope : Scope} {pos : Pos} {k : Nat} {Dl : Addr} {H₀ : Mp} {α : Type} {c : α → D} {items : List α}
    (hg : gens[k]? = some ⟨target, iter, ifs, 0⟩) (hn : gens[k + 1]? = none) (hD : Dl ∈ mu) (ρ' : α → List (Str × D)) (p : α → Bool) (f : α → D)
    (hb : ∀ d ∈ items, Binds prog w A env mu ρ target (c d) (ρ' d)) (hρ : ∀ d ∈ items, ∀ q ∈ ρ, q ∈ ρ' d)
    (ht : ∀ d ∈ items, ∀ s₁ H₁, (∀ a o, H₀ a = some o → H₁ a = some o) → St env mu s₁ H₁ (ρ' d) → EvTs prog w A env s₁ H₁ ifs (p d))
    (he : ∀ d ∈ items, p d = true → ∀ s₁ H₁, (∀ a o, H₀ a = some o → H₁ a = some o) → St env mu s₁ H₁ (ρ' d) → Ev prog w A env s₁ H₁ elt (f d)) :
    AddsC prog w A elt gens scope pos k Dl env mu ρ H₀ (items.map c) (items.flatMap fun d => if p d then [f d] else []) := by
  intro I acc s H hH src S L hsz hI hIc R hR
  refine comp_core (turn_last hg hn) (fun d => if p d then [f d] else []) src S L hD hI hIc (fun d v acc₁ s₁ H₁ hd hlen r hs S₁ hPl L₁ Q E k' => ?_) hR
  refine wpAny_mono (hb d hd I v s₁ H₁ S₁ hPl r (fun s' => wpAny (model prog w) A (testsOf ifs env) _ E s') E fun s₂ H₂ g₂ S₂ hL₂ => ?_) (fun _ _ x => x) (fun _ _ x => x)
  have up₂ : ∀ a o, H₀ a = some o → H₂ a = some o := fun a o e => g₂.sub a o (hs a o (hH a o e))
  refine ht d hd s₂ H₂ up₂ S₂ s₂ H₂ (.refl g₂.now) _ _ fun s₃ H₃ g₃ => ?_
  have L₂ := hL₂ _ _ L₁
  have S₃ := S₂.grow g₃
  cases hp : p d with
  | false =>
    rw [if_neg (by decide)]
    refine wpAny_pure ⟨rfl, k' s₃ H₃ (g₂.trans (.of g₃)) (S₃.less (hρ d hd)) ?_⟩
    simpa [hp] using L₂.grow g₃
  | true =>
    rw [if_pos rfl]
    refine wpAny_bind (wpAny_bind (he d hd hp s₂ H₂ up₂ S₂ s₃ H₃ g₃ _ _ fun y s₄ H₄ g₄ ry => wpAny_bind ?_))
    have L₄ := (L₂.grow g₃).grow g₄
    have S₄ := S₃.grow g₄
    obtain ⟨vs, n, e, rs⟩ := id L₄
    have hz : acc₁.length ≤ sizeLine := by
      have := Nat.le_trans hlen hsz
      rw [List.length_append] at this; omega
    refine wpAny_list_append_plain (items := vs.toArray) (hsz := by rw [List.size_toArray, rs.length]; exact hz) ⟨n, e⟩ fun h₅ hl₅ hs₅ => wpAny_pure (wpAny_pure ⟨rfl, ?_⟩)
    have hDn := S₄.out Dl hD
    have g₅ : Step mu s₄ H₄ { s₄ with heap := h₅ } H₄ := ⟨⟨_, _, rfl⟩, fun b o nb e => hs₅.extBut b o (fun q => nb (q ▸ hD)) e, Nat.le_of_eq hs₅.1.symm, fun _ _ e => e, fun a o e => hs₅.extBut a o (fun q => by rw [q, hDn.1] at e; cases e) (S₄.now a o e), fun _ _ e => .inl e⟩
    have hLD : env.locals ≠ Dl := fun q => by obtain ⟨m, hm⟩ := S₄.ns; exact L₄.ne_loc hm q.symm
    have S₅ : St env mu { s₄ with heap := h₅ } H₄ (ρ' d) := by
      have hcell : ∀ q ∈ env.cells, ∀ v, s₄.heap.IsCell q.2 v → h₅.IsCell q.2 v := fun q hq v hv => hv.sameBut hs₅ fun z => L₄.ne_cell hv z.symm
      refine ⟨g₅.now, fun q hq => ?_, ?_, out_step g₅ S₄.out, S₄.loc, fun q hq => let ⟨v, hv⟩ := S₄.cells q hq; ⟨v, hcell q hq v hv⟩⟩
      · obtain ⟨v, nm, rr⟩ := S₄.sc q hq
        refine ⟨v, ?_, rr⟩
        cases nm with
        | loc kk hn' e' => exact .loc kk (hn'.sameBut hs₅ hLD) e'
        | cell kk hc e' => exact .cell kk hc (hcell _ (mem_of_lookup hc) _ e')
      · obtain ⟨m, hm⟩ := S₄.ns; exact ⟨m, hm.sameBut hs₅ hLD⟩
    refine k' _ H₄ ((g₂.trans (.of (g₃.trans g₄))).trans g₅) (S₅.less (hρ d hd)) ?_
    obtain ⟨n', e'⟩ := hl₅
    rw [if_pos hp]
    refine ⟨vs ++ [y], n', by simpa using e', rs.append (.cons ry .nil)⟩

theorem comp_more {elt : Expr} {gens : List Comprehension} {target iter target' iter' : Expr} {ifs' : List Expr} {scope : Scope} {pos : Pos} {k : Nat} {Dl : Addr} {H₀ : Mp} {α : Type} {c : α → D} {items : List α}
    (hg : gens[k]? = some ⟨target, iter, [], 0⟩) (hn : gens[k + 1]? = some ⟨target', iter', ifs', 0⟩) (hD : Dl ∈ mu) (ρ' : α → List (Str × D)) (its : α → List D) (out : α → List D)
    (hb : ∀ d ∈ items, Binds prog w A env mu ρ target (c d) (ρ' d)) (hρ : ∀ d ∈ items, ∀ q ∈ ρ, q ∈ ρ' d) (hh : A.handled = none)
    (hi : ∀ d ∈ items, ∀ s₁ H₁, (∀ a o, H₀ a = some o → H₁ a = some o) → St env mu s₁ H₁ (ρ' d) → EvIt prog w A env s₁ H₁ iter' (its d))
    (ih : ∀ d ∈ items, AddsC prog w A elt gens scope pos (k + 1) Dl env mu (ρ' d) H₀ (its d) (out d)) (hs : ∀ x, foldedSetIterable iter' env x = pure x := by intro _; rfl) :
    AddsC prog w A elt gens scope pos k Dl env mu ρ H₀ (items.map c) (items.flatMap out) := by
  intro I acc s H hH src S L hsz hI hIc R hR
  refine comp_core (turn_more hg hn) out src S L hD hI hIc (fun d v acc₁ s₁ H₁ hd hlen r hs' S₁ hPl L₁ Q E k' => ?_) hR
  refine wpAny_mono (hb d hd I v s₁ H₁ S₁ hPl r (fun s' => wpAny (model prog w) A (testsOf [] env) _ E s') E fun s₂ H₂ g₂ S₂ hL₂ => ?_) (fun _ _ x => x) (fun _ _ x => x)
  have up₂ : ∀ a o, H₀ a = some o → H₂ a = some o := fun a o e => g₂.sub a o (hs' a o (hH a o e))
  refine wpAny_tests_nil ?_
  rw [if_pos rfl]
  refine wpAny_bind (wpAny_mono (hi d hd s₂ H₂ up₂ S₂ s₂ H₂ (.refl g₂.now) (fun it s₃ => wpAny (model prog w) A (runOwn (.compStart (.ListComp elt gens scope pos) (k + 1) it (.ref Dl) env) env >>= fun _ => again (.compLoop (.ListComp elt gens scope pos) k (.ref I) (.ref Dl) env)) _ E s₃) E fun I' s₃ H₃ g₃ hI' src' => ?_)
    (fun x s₃ h₃ => wpAny_bind (wpAny_standAt (wpAny_bind (wpAny_of_eq (hs x) (wpAny_bind (wpAny_holding h₃)))))) fun _ _ x => x)
  have hA : A.mark none = A := by cases A; rfl
  refine wpAny_bind (wpAny_runOwn ?_)
  rw [hA]
  have S₃ := S₂.grow g₃
  refine comp_start hn rfl src' (ih d hd I' acc₁ s₃ H₃ (fun a o e => g₃.sub a o (up₂ a o e)) src' S₃ ((hL₂ _ _ L₁).grow g₃) (Nat.le_trans hlen hsz) (fun q => Nat.not_lt.mpr hI' (S₂.out _ q).2) (fun q hq z => ?_) _ fun s₄ H₄ g₄ S₄ L₄ => ?_)
  · obtain ⟨v, o, e, _⟩ := S₂.cells q hq
    exact Nat.not_lt.mpr hI' (z ▸ Heap.lt_size e)
  · refine wpAny_pure ⟨rfl, k' s₄ H₄ (g₂.trans (g₄.back (.of g₃) fun a ha => ?_)) (S₄.less (hρ d hd)) L₄⟩
    rcases List.mem_cons.mp ha with q | q
    · exact .inr (q ▸ hI')
    · exact .inl q
end
end Mine

namespace Mine

theorem cf_lookup : ∀ (names : List (Str × NameKind)) (n : Nat) (acc : List (Str × Addr)) (y : Str), (y, NameKind.cell) ∉ names → (cellsFrom n names acc).lookup y = acc.lookup y
  | [], _, _, _, _ => rfl
  | (x, k) :: r, n, acc, y, h => by
    unfold cellsFrom
    split
    · rename_i hk
      rw [cf_lookup r _ _ y fun q => h (.tail _ q), List.lookup_cons]
      have : (y == x) = false := by
        cases hb : y == x with
        | false => rfl
        | true => exact absurd (by rw [beq_iff_eq.mp hb, ← (show k = .cell by simpa using hk)]; exact .head _) h
      simp [this]
    · exact cf_lookup r _ _ y fun q => h (.tail _ q)
theorem cf_own : ∀ (names : List (Str × NameKind)) (n : Nat) (acc : List (Str × Addr)) (y : Str), (y, NameKind.cell) ∈ names → ∃ c, (cellsFrom n names acc).lookup y = some c ∧ n ≤ c
  | (x, k) :: r, n, acc, y, h => by
    unfold cellsFrom
    by_cases hr : (y, NameKind.cell) ∈ r
    · split
      · obtain ⟨c, e, hc⟩ := cf_own r (n + 1) ((x, n) :: acc) y hr; exact ⟨c, e, by omega⟩
      · exact cf_own r n acc y hr
    · rcases List.mem_cons.mp h with q | q
      · obtain ⟨rfl, rfl⟩ := Prod.mk.inj q
        rw [if_pos (by simp), cf_lookup r _ _ y hr, List.lookup_cons]
        exact ⟨n, by simp, Nat.le_refl _⟩
      · exact absurd q hr
theorem cf_mem : ∀ (names : List (Str × NameKind)) (h : Heap) (acc : List (Str × Addr)), ∀ p ∈ cellsFrom h.objs.size names acc, p ∈ acc ∨ (h.objs.size ≤ p.2 ∧ (pushCells h names).IsCell p.2 none)
  | [], _, _, p, hp => .inl hp
  | (x, k) :: r, h, acc, p, hp => by
    unfold cellsFrom at hp
    unfold pushCells
    split at hp
    · rename_i hk
      rw [if_pos hk]
      have hp' : p ∈ cellsFrom (h.push { cls := .type "cell", data := .cell none }).objs.size r ((x, h.objs.size) :: acc) := by rw [Heap.size_push]; exact hp
      rcases cf_mem r _ _ p hp' with q | ⟨q, c⟩
      · rcases List.mem_cons.mp q with rfl | q
        · exact .inr ⟨Nat.le_refl _, ⟨_, pushCells_keeps _ _ _ _ (Heap.get?_push_size _ rfl), rfl⟩⟩
        · exact .inl q
      · rw [Heap.size_push] at q; exact .inr ⟨by omega, c⟩
    · rename_i hk
      rw [if_neg hk]
      exact cf_mem r h acc p hp
theorem cf_ge : ∀ (names : List (Str × NameKind)) (n : Nat) (acc : List (Str × Addr)), ∀ p ∈ cellsFrom n names acc, p ∈ acc ∨ n ≤ p.2
  | [], _, _, p, hp => .inl hp
  | (x, k) :: r, n, acc, p, hp => by
    unfold cellsFrom at hp
    split at hp
    · rcases cf_ge r (n + 1) _ p hp with q | q
      · rcases List.mem_cons.mp q with rfl | q
        · exact .inr (Nat.le_refl _)
        · exact .inl q
      · exact .inr (by omega)
    · exact cf_ge r n acc p hp
theorem cf_apart : ∀ (names : List (Str × NameKind)) (n : Nat) (acc : List (Str × Addr)), (∀ q ∈ acc, q.2 < n) → ∀ p ∈ cellsFrom n names acc, ∀ q ∈ cellsFrom n names acc, p.2 = q.2 → n ≤ p.2 → p.1 = q.1
  | [], n, acc, h, p, hp, _, _, _, hn => absurd (h p hp) (Nat.not_lt.mpr hn)
  | (x, k) :: r, n, acc, h, p, hp, q, hq, e, hn => by
    unfold cellsFrom at hp hq
    split at hp
    · rename_i hk
      rw [if_pos hk] at hq
      have ha : ∀ z ∈ (x, n) :: acc, z.2 < n + 1 := fun z hz => by
        rcases List.mem_cons.mp hz with rfl | hz
        · exact Nat.lt_succ_self _
        · exact Nat.lt_succ_of_lt (h z hz)
      by_cases h1 : n + 1 ≤ p.2
      · exact cf_apart r (n + 1) _ ha p hp q hq e h1
      · have hpn : p.2 = n := Nat.le_antisymm (Nat.le_of_lt_succ (Nat.lt_of_not_le h1)) hn
        have at_n : ∀ z ∈ cellsFrom (n + 1) r ((x, n) :: acc), z.2 = n → z.1 = x := fun z hz ez => by
          rcases cf_ge r (n + 1) _ z hz with w | w
          · rcases List.mem_cons.mp w with rfl | w
            · rfl
            · exact absurd (h z w) (by rw [ez]; exact Nat.lt_irrefl _)
          · exact absurd w (by rw [ez]; exact Nat.not_succ_le_self n)
        rw [at_n p hp hpn, at_n q hq (e ▸ hpn)]
    · rename_i hk
      rw [if_neg hk] at hq
      exact cf_apart r n acc h p hp q hq e hn
theorem pushCells_size : ∀ (names : List (Str × NameKind)) (h : Heap), h.objs.size ≤ (pushCells h names).objs.size
  | [], h => Nat.le_refl _
  | (x, k) :: r, h => by
    unfold pushCells
    split
    · have := pushCells_size r (h.push { cls := .type "cell", data := .cell none })
      rw [Heap.size_push] at this; omega
    · exact pushCells_size r h

theorem new_env {M : Model} {A : Around} {E : Value → Shared → Prop} {s : Shared} {scope : Scope} {globals : Addr} {cl : List (Str × Addr)} {qual : Str} {outer : Env} {Q : Env → Shared → Prop}
    (h : Q { scope := scope, locals := s.heap.objs.size, globals := globals, cells := cellsFrom (s.heap.objs.size + 1) scope.names cl, qual := qual, func := none, code := outer.code, frame := outer.frame, builtins := outer.builtins }
      { s with heap := pushCells (s.heap.push { cls := .type "dict", data := .dict #[] }) scope.names }) :
    wpAny M A (newFunctionEnv scope globals cl [] qual none .none (some outer)) Q E s := by
  simp only [newFunctionEnv, Option.isSome_some, if_true]
  refine wpAny_bind (wpAny_alloc ?_)
  refine wpAny_bind (wpAny_layCells _ (fun name kind cells => by cases hkc : kind == NameKind.cell <;> simp [hkc]) _ _ _ _ ?_)
  rw [show ({ s with heap := s.heap.push { cls := .type "dict", data := .dict #[] } } : Shared).heap.objs.size = s.heap.objs.size + 1 from Heap.size_push ..]
  refine wpAny_bind ?_
  rw [List.forIn_nil]
  exact wpAny_pure (wpAny_pure h)

theorem relabel_other' {env : Env} {x : Str} {k : NameKind} (hk : k ≠ .free) : ∀ {names : List (Str × NameKind)}, names.lookup x = some k →
    (names.map fun (n, k) => if (k == NameKind.free && env.scope.kind == .function && env.kindOf n == some .cell) then (n, NameKind.cell) else (n, k)).lookup x = some k
  | [], h => by simp at h
  | (n, k') :: r, h => by
    have ih := @relabel_other' env x k hk r
    show List.lookup x ((if (k' == NameKind.free && env.scope.kind == .function && env.kindOf n == some .cell) = true then (n, NameKind.cell) else (n, k')) :: _) = _
    cases hx : x == n with
    | true =>
      simp only [List.lookup_cons, hx] at h
      have hf : (k' == NameKind.free) = false := by
        cases q : k' == NameKind.free with
        | false => rfl
        | true => exact absurd ((Option.some.inj h).symm.trans (beq_iff_eq.mp q)) hk
      rw [if_neg (by rw [hf]; simp)]
      simp only [List.lookup_cons, hx]; exact h
    | false =>
      simp only [List.lookup_cons, hx] at h
      by_cases hc : (k' == NameKind.free && env.scope.kind == .function && env.kindOf n == some .cell) = true
      · rw [if_pos hc]; simp only [List.lookup_cons, hx]; exact ih h
      · rw [if_neg hc]; simp only [List.lookup_cons, hx]; exact ih h
theorem relabel_other {scope : Scope} {env : Env} {x : Str} {k : NameKind} (hk : k ≠ .free) (h : scope.names.lookup x = some k) : (relabel scope env).names.lookup x = some k := relabel_other' hk h
theorem relabel_free' {env : Env} {x : Str} : ∀ {names : List (Str × NameKind)}, names.lookup x = some .free →
    (names.map fun (n, k) => if (k == NameKind.free && env.scope.kind == .function && env.kindOf n == some .cell) then (n, NameKind.cell) else (n, k)).lookup x = some .cell ∨
    (names.map fun (n, k) => if (k == NameKind.free && env.scope.kind == .function && env.kindOf n == some .cell) then (n, NameKind.cell) else (n, k)).lookup x = some .free
  | [], h => by simp at h
  | (n, k') :: r, h => by
    have ih := @relabel_free' env x r
    show List.lookup x ((if (k' == NameKind.free && env.scope.kind == .function && env.kindOf n == some .cell) = true then (n, NameKind.cell) else (n, k')) :: _) = _ ∨
      List.lookup x ((if (k' == NameKind.free && env.scope.kind == .function && env.kindOf n == some .cell) = true then (n, NameKind.cell) else (n, k')) :: _) = _
    cases hx : x == n with
    | true =>
      simp only [List.lookup_cons, hx] at h
      by_cases hc : (k' == NameKind.free && env.scope.kind == .function && env.kindOf n == some .cell) = true
      · left; rw [if_pos hc]; simp only [List.lookup_cons, hx]
      · right; rw [if_neg hc]; simp only [List.lookup_cons, hx]; exact h
    | false =>
      simp only [List.lookup_cons, hx] at h
      by_cases hc : (k' == NameKind.free && env.scope.kind == .function && env.kindOf n == some .cell) = true
      · rw [if_pos hc]; simp only [List.lookup_cons, hx]; exact ih h
      · rw [if_neg hc]; simp only [List.lookup_cons, hx]; exact ih h
theorem relabel_free {scope : Scope} {env : Env} {x : Str} (h : scope.names.lookup x = some .free) : (relabel scope env).names.lookup x = some .cell ∨ (relabel scope env).names.lookup x = some .free := relabel_free' h

/-- the block of a comprehension -/
structure CEnv (scope : Scope) (env cenv : Env) (mu : List Addr) : Prop where
  kind : cenv.scope.kind = .function
  glob : cenv.globals = env.globals
  bi : cenv.builtins = env.builtins
  names : cenv.scope.names = (relabel scope env).names
  own : ∀ x, (x, NameKind.cell) ∈ scope.names → ∃ c, cenv.cells.lookup x = some c ∧ c ∈ mu ∧ ∀ p ∈ cenv.cells, p.2 = c → p.1 = x
theorem CEnv.other {scope : Scope} {env cenv : Env} {mu : List Addr} (C : CEnv scope env cenv mu) {x : Str} {k : NameKind} (h : scope.names.lookup x = some k) (hk : k ≠ .free := by decide) : cenv.kindOf x = some k := by
  unfold Env.kindOf; rw [C.names]; exact relabel_other hk h
theorem CEnv.free {scope : Scope} {env cenv : Env} {mu : List Addr} (C : CEnv scope env cenv mu) {x : Str} (h : scope.names.lookup x = some .free) : cenv.kindOf x = some .cell ∨ cenv.kindOf x = some .free := by
  unfold Env.kindOf; rw [C.names]; exact relabel_free h

def AllK (env : Env) : List Str → Prop
  | [] => True
  | x :: r => (env.kindOf x = some .cell ∨ env.kindOf x = some .free) ∧ AllK env r
theorem AllK.get {env : Env} : ∀ {l : List Str}, AllK env l → ∀ x ∈ l, env.kindOf x = some .cell ∨ env.kindOf x = some .free
  | _ :: _, h, _, .head _ => h.1
  | _ :: _, h, x, .tail _ m => AllK.get h.2 x m

section
variable {prog : Program} {w : World} {A : Around} {env : Env} {mu : List Addr} {s : Shared} {H : Mp} {ρ : List (Str × D)}

theorem Src.grow {I : Addr} {items : List D} {s' : Shared} {H' : Mp} (x : Src prog w A I items s H) (g : Grow s H s' H') : Src prog w A I items s' H' := by
  obtain ⟨fp, P, W, wk, hst, hfp, hHI, hIl, hP, hW⟩ := x
  refine ⟨fp, P, W, wk, wk.frame _ _ _ hst fun b _ o e => g.keep b o e, fun b hb => (hfp b hb).imp id fun ⟨o, e⟩ => ⟨o, g.sub _ _ e⟩, ?_, Nat.lt_of_lt_of_le hIl g.size, fun i v hv => let ⟨d, e, q⟩ := hP i v hv; ⟨d, e, fun H₂ k => q H₂ fun a o e => k a o (g.sub a o e)⟩, hW⟩
  cases q : H' I with
  | none => rfl
  | some o => exact (g.fresh I o q).elim (fun e => by rw [hHI] at e; cases e) fun e => absurd hIl (Nat.not_lt.mpr e)

theorem above_none (n : Now s H) {a : Addr} (h : s.heap.objs.size ≤ a) : H a = none := by
  cases q : H a with
  | none => rfl
  | some o => exact absurd (Heap.lt_size (n _ _ q)) (Nat.not_lt.mpr h)

theorem comp_main {elt target iter : Expr} {ifs : List Expr} {rest : List Comprehension} {scope : Scope} {pos cpos : Pos} {items out : List D} {use : Option (Value → Sem Unit)} {Q : Value → Shared → Prop} {E : Value → Shared → Prop} {ρf : List (Str × D)}
    (hk : scope.kind = .function) (hn : ∀ x ∈ scope.names, x.2 = .local → scope.names.lookup x.1 = some .local)
    (Sf : Sc env s H ρf) (hcells : ∀ p ∈ env.cells, ∃ v, s.heap.IsCell p.2 v) (hK : AllK env (ρf.map (·.1)))
    (hcov : ∀ p ∈ scope.names, p.2 = .free → p.1 ∈ ρf.map (·.1)) (hfr : ∀ x ∈ ρf.map (·.1), scope.names.lookup x = some .free ∧ (x, NameKind.free) ∈ scope.names ∧ (x, NameKind.cell) ∉ scope.names)
    (hit : EvIt prog w A env s H iter items) (hlen : out.length ≤ sizeLine)
    (body : ∀ cenv mu Dl s₁ H₁, Grow s H s₁ H₁ → CEnv scope env cenv mu → Dl ∈ mu → AddsC prog w A elt (⟨target, iter, ifs, 0⟩ :: rest) scope pos 0 Dl cenv mu ρf H₁ items out)
    {s₁ : Shared} {H₁ : Mp} (g : Grow s H s₁ H₁)
    (fin : ∀ C Dl vs n s' H', Grow s₁ H₁ s' H' → s₁.heap.objs.size ≤ C → s₁.heap.objs.size ≤ Dl → Dl ≠ C → H' C = none → H' Dl = none → s'.heap.get? Dl = some (lstO vs n) → Rels H' vs out → (∃ m, s'.heap.Ns C m) →
      compPost (model prog w) A E use Q (.ref Dl) C (.ok .next) s')
    (hs : ∀ x, foldedSetIterable iter env x = pure x := by intro _; rfl) :
    wpAny (model prog w) A (comprehension (.ListComp elt (⟨target, iter, ifs, 0⟩ :: rest) scope pos) scope env cpos (newList []) false (eval iter env) use) Q E s₁ := by
  have hcl : ∀ p ∈ scope.names, p.2 = .free → ∃ c, env.cells.lookup p.1 = some c := fun p hp hf => by
    obtain ⟨q, hq, e⟩ := List.mem_map.mp (hcov p hp hf)
    obtain ⟨v, nm, _⟩ := Sf q hq
    rw [← e]
    cases nm with
    | loc kk _ _ =>
      have := hK.get _ (List.mem_map_of_mem hq)
      rw [kk] at this; rcases this with z | z <;> cases z
    | cell _ hc _ => exact ⟨_, hc⟩
  obtain ⟨cl, hclos, hclm, hclk⟩ := closureFor_ok hcl
  refine wpAny_comprehension_free (use := use) rfl hs hclos hk hn (hit s₁ H₁ g _ _ fun I s₂ H₂ g₂ hI src => ?_)
  refine wpAny_newList (new_env ?_)
  have g02 : Grow s H s₂ H₂ := g.trans g₂
  generalize hs₃ : ({ s₂ with heap := s₂.heap.push { cls := .type "list", data := .seq ([] : List Value).toArray } } : Shared) = s₃
  have g₃ : Grow s₂ H₂ s₃ H₂ := hs₃ ▸ Grow.pushed g₂.now _
  have hz₃ : s₃.heap.objs.size = s₂.heap.objs.size + 1 := by rw [← hs₃]; exact Heap.size_push ..
  have hDl₃ : s₃.heap.get? s₂.heap.objs.size = some (lstO [] 0) := by rw [← hs₃]; exact Heap.get?_push_size _ rfl
  generalize hs₄ : ({ s₃ with heap := pushCells (s₃.heap.push { cls := .type "dict", data := .dict #[] }) scope.names } : Shared) = s₄
  generalize hDl : s₂.heap.objs.size = Dl at *
  generalize hC : s₃.heap.objs.size = C at *
  have hsz : s₃.heap.objs.size + 1 ≤ s₄.heap.objs.size := by
    rw [← hs₄]
    have := pushCells_size scope.names (s₃.heap.push { cls := .type "dict", data := .dict #[] })
    rw [Heap.size_push] at this; exact this
  have hk₄ : ∀ b o, s₃.heap.get? b = some o → s₄.heap.get? b = some o := fun b o e => by rw [← hs₄]; exact pushCells_keeps _ _ _ _ (Heap.get?_push_of_some _ e)
  have g₄ : Grow s₃ H₂ s₄ H₂ := by rw [← hs₄] at hk₄ hsz ⊢; exact Grow.keeps g₃.now hk₄ (by omega) _
  have hns : s₄.heap.Ns C fun _ => none := by rw [← hs₄, ← hC]; exact (Heap.Ns.new s₃.heap (.type "dict")).keeps (pushCells_keeps _ _)
  let cells := cellsFrom (C + 1) scope.names cl
  let cenv : Env := { scope := relabel scope env, locals := C, globals := env.globals, cells := cells, qual := env.qual, func := none, code := env.code, frame := env.frame, builtins := env.builtins }
  let mu : List Addr := Dl :: C :: (cells.map (·.2)).filter fun a => decide (C < a)
  have hclt : ∀ p ∈ cl, p ∈ env.cells := fun p hp => mem_of_lookup (hclm p hp).2
  have hcllt : ∀ p ∈ cl, s.heap.objs.size > p.2 := fun p hp => let ⟨v, o, e, _⟩ := hcells p (hclt p hp); Heap.lt_size e
  have hle : s.heap.objs.size ≤ Dl := by rw [← hDl]; exact g02.size
  have hle₁ : s₁.heap.objs.size ≤ Dl := by rw [← hDl]; exact g₂.size
  have hcm : ∀ p ∈ cells, p ∈ cl ∨ (C + 1 ≤ p.2 ∧ s₄.heap.IsCell p.2 none) := fun p hp => by
    have := cf_mem scope.names (s₃.heap.push { cls := .type "dict", data := .dict #[] }) cl p (by rw [Heap.size_push, hC]; exact hp)
    rw [Heap.size_push, hC] at this
    rcases this with q | ⟨q, c⟩
    · exact .inl q
    · exact .inr ⟨q, by rw [← hs₄]; exact c⟩
  have hmuge : ∀ a ∈ mu, Dl ≤ a ∧ s₄.heap.objs.size > a := fun a ha => by
    rcases List.mem_cons.mp ha with q | ha
    · rw [q]; omega
    · rcases List.mem_cons.mp ha with q | ha
      · rw [q]; omega
      · obtain ⟨hm, hlt⟩ := List.mem_filter.mp ha
        obtain ⟨p, hp, rfl⟩ := List.mem_map.mp hm
        have hlt' : C < p.2 := of_decide_eq_true hlt
        refine ⟨by omega, ?_⟩
        rcases hcm p hp with q | ⟨_, o, e, _⟩
        · have := hcllt p q; omega
        · exact (Heap.lt_size e)
  have C' : CEnv scope env cenv mu := ⟨hk, rfl, rfl, rfl, fun x hx => by
    obtain ⟨c, e, hc⟩ := cf_own scope.names (C + 1) cl x hx
    refine ⟨c, e, ?_, fun p hp q => ?_⟩
    · exact .tail _ (.tail _ (List.mem_filter.mpr ⟨List.mem_map.mpr ⟨_, mem_of_lookup e, rfl⟩, decide_eq_true (by omega)⟩))
    · exact cf_apart scope.names (C + 1) cl (fun z hz => Nat.lt_of_lt_of_le (hcllt z hz) (by omega)) p hp _ (mem_of_lookup e) q (by rw [q]; exact hc)⟩
  have gs₄ : Grow s H s₄ H₂ := g02.trans (g₃.trans g₄)
  have S : St cenv mu s₄ H₂ ρf := by
    refine ⟨g₄.now, fun p hp => ?_, ⟨_, hns⟩, fun a ha => ⟨above_none g₂.now (by rw [hDl]; exact (hmuge a ha).1), (hmuge a ha).2⟩, .tail _ (.head _), fun p hp => ?_⟩
    · obtain ⟨v, nm, r⟩ := Sf p hp
      have hx := List.mem_map_of_mem (f := (·.1)) hp
      have h3 := hfr p.1 hx
      refine ⟨v, ?_, r.mono gs₄.sub⟩
      cases nm with
      | loc kk _ _ =>
        have := hK.get _ hx
        rw [kk] at this; rcases this with z | z <;> cases z
      | @cell _ c hc e =>
        refine .cell (C'.free h3.1) (c := c) ?_ (e.keeps gs₄.keep)
        show cells.lookup p.1 = some c
        rw [show cells.lookup p.1 = cl.lookup p.1 from cf_lookup _ _ _ _ h3.2.2, hclk p.1 h3.2.1]; exact hc
    · rcases hcm p hp with q | ⟨_, q⟩
      · obtain ⟨v, hv⟩ := hcells p (hclt p q); exact ⟨v, hv.keeps gs₄.keep⟩
      · exact ⟨_, q⟩
  have L : Lm Dl [] s₄ H₂ := ⟨[], 0, hk₄ _ _ hDl₃, .nil⟩
  have hIlt : Dl > I := by obtain ⟨_, _, _, _, _, _, _, h, _⟩ := src; rw [← hDl]; exact h
  refine comp_start (gens := ⟨target, iter, ifs, 0⟩ :: rest) (env := cenv) rfl rfl (src.grow (g₃.trans g₄)) ?_
  refine body cenv mu Dl s₂ H₂ g02 C' (.head _) I [] s₄ H₂ (fun _ _ e => e) (src.grow (g₃.trans g₄)) S L (by simpa using hlen) (fun q => absurd (hmuge _ q).1 (by omega)) (fun p hp q => ?_) _ fun s₅ H₅ g₅ S₅ L₅ => ?_
  · rcases hcm p hp with z | ⟨z, _⟩
    · have h1 := hcllt p z; have h2 : s₁.heap.objs.size ≤ I := hI; have h3 := g.size; rw [q] at h1; omega
    · rw [q] at z; omega
  · obtain ⟨vs, n, e, rs⟩ := L₅
    have gg : Grow s₁ H₁ s₅ H₅ := g₅.grow (g₂.trans (g₃.trans g₄)) fun a ha => by
      rcases List.mem_cons.mp ha with q | q
      · rw [q]; exact hI
      · exact Nat.le_trans hle₁ (hmuge a q).1
    exact fin C Dl vs n s₅ H₅ gg (by omega) hle₁ (Nat.ne_of_lt (by omega)) (S₅.out C (.tail _ (.head _))).1 (S₅.out Dl (.head _)).1 e (by simpa using rs) S₅.ns
end
end Mine

namespace Mine

/-- a list comprehension gives «out»: whatever is done with it behind -/
def EvC (prog : Program) (w : World) (A : Around) (env : Env) (s : Shared) (H : Mp) (elt : Expr) (gens : List Comprehension) (scope : Scope) (pos : Pos) (out : List D) : Prop :=
  ∀ s₁ H₁, Grow s H s₁ H₁ → ∀ (cpos : Pos) (use : Option (Value → Sem Unit)) (Q : Value → Shared → Prop) (E : Value → Shared → Prop),
    (∀ C Dl vs n s' H', Grow s₁ H₁ s' H' → s₁.heap.objs.size ≤ C → s₁.heap.objs.size ≤ Dl → Dl ≠ C → H' C = none → H' Dl = none → s'.heap.get? Dl = some (lstO vs n) → Rels H' vs out → (∃ m, s'.heap.Ns C m) →
      compPost (model prog w) A E use Q (.ref Dl) C (.ok .next) s') →
    wpAny (model prog w) A (comprehension (.ListComp elt gens scope pos) scope env cpos (newList []) false (firstIter gens env) use) Q E s₁

def scopeOk (scope : Scope) (fs : List Str) : Bool :=
  (scope.kind == .function) && (scope.names.all fun p => (p.2 != .local || scope.names.lookup p.1 == some .local) && (p.2 != .free || fs.contains p.1)) &&
    fs.all fun x => scope.names.lookup x == some .free && scope.names.contains (x, .free) && !scope.names.contains (x, .cell)

section
variable {prog : Program} {w : World} {A : Around} {env : Env} {mu : List Addr} {s : Shared} {H : Mp} {ρ : List (Str × D)}

theorem Grow.settle {s₁ s₅ : Shared} {H₁ H₅ : Mp} {C Dl : Addr} {o : Obj} {h' : Heap} (g : Grow s₁ H₁ s₅ H₅) (hC : s₁.heap.objs.size ≤ C) (hD : s₁.heap.objs.size ≤ Dl) (hDC : Dl ≠ C) (hHC : H₅ C = none) (hHD : H₅ Dl = none)
    (e : s₅.heap.get? Dl = some o) (hs : Heap.SameBut C s₅.heap h') : Grow s₁ H₁ { s₅ with heap := h' } (Mine.put H₅ Dl o) where
  same := by obtain ⟨h, t, rfl⟩ := g.same; exact ⟨h', t, rfl⟩
  keep := fun b x q => hs.extBut b x (fun z => Nat.not_lt.mpr hC (z ▸ Heap.lt_size q)) (g.keep b x q)
  size := by have := g.size; show s₁.heap.objs.size ≤ h'.objs.size; rw [hs.1]; exact this
  sub := fun a x q => put_sub' hHD a x (g.sub a x q)
  now := fun a x q => by
    unfold Mine.put at q
    split at q
    · rename_i z; cases q; rw [z]; exact hs.extBut Dl o hDC e
    · exact hs.extBut a x (fun z => by rw [z, hHC] at q; cases q) (g.now a x q)
  fresh := fun a x q => by
    unfold Mine.put at q
    split at q
    · rename_i z; exact .inr (z ▸ hD)
    · exact g.fresh a x q

theorem ev_of_evc {elt : Expr} {gens : List Comprehension} {scope : Scope} {pos : Pos} {out : List D} (h : EvC prog w A env s H elt gens scope pos out) (ha : firstAsync gens = false := by rfl) :
    Ev prog w A env s H (.ListComp elt gens scope pos) (.list out) := fun s₁ H₁ g Q E k => by
  rw [eval_ListComp, ha]
  refine h s₁ H₁ g _ none Q E fun C Dl vs n s' H' g' hC hD hDC hHC hHD e rs hns => ?_
  obtain ⟨m, hm⟩ := hns
  refine ⟨m, hm, fun h' hs => k _ _ _ (g'.settle hC hD hDC hHC hHD e hs) ?_⟩
  exact .list put_same (rs.mono (put_sub' hHD))

theorem evc_of {elt target iter : Expr} {ifs : List Expr} {rest : List Comprehension} {scope : Scope} {pos : Pos} {items out : List D} {ρf : List (Str × D)} (S : St env mu s H ρ) (hsub : ∀ p ∈ ρf, p ∈ ρ) {fs : List Str} (hfs : ρf.map (·.1) = fs)
    (hok : scopeOk scope fs = true) (hK : AllK env fs) (hit : EvIt prog w A env s H iter items) (hlen : out.length ≤ sizeLine)
    (body : ∀ cenv mu Dl s₁ H₁, Grow s H s₁ H₁ → CEnv scope env cenv mu → Dl ∈ mu → AddsC prog w A elt (⟨target, iter, ifs, 0⟩ :: rest) scope pos 0 Dl cenv mu ρf H₁ items out)
    (hs : ∀ x, foldedSetIterable iter env x = pure x := by intro _; rfl) :
    EvC prog w A env s H elt (⟨target, iter, ifs, 0⟩ :: rest) scope pos out := by
  subst hfs
  intro s₁ H₁ g cpos use Q E fin
  simp only [scopeOk, Bool.and_eq_true, List.all_eq_true] at hok
  obtain ⟨⟨h1, h2⟩, h3⟩ := hok
  refine comp_main (use := use) (ρf := ρf) (by simpa using h1) (fun x hx hl => ?_) (fun p hp => S.sc p (hsub p hp)) S.cells hK (fun p hp hf => ?_) (fun x hx => ?_) hit hlen body g fin hs
  · have := (h2 x hx).1; rw [hl] at this; simpa using this
  · have := (h2 p hp).2; rw [hf] at this; simpa using this
  · have := h3 x hx
    simp only [Bool.not_eq_true', beq_iff_eq, List.contains_iff_mem] at this
    exact ⟨this.1.1, this.1.2, by simpa using this.2⟩

/-- a target that is a name of the comprehension's own, local or a cell -/
theorem bind_name {scope : Scope} {outer : Env} {x : Str} {px : Pos} {d : D} {ρf : List (Str × D)} (C : CEnv scope outer env mu) (hx : scope.names.lookup x = some .local ∨ scope.names.lookup x = some .cell) (hn : x ∉ ρf.map (·.1)) :
    Binds prog w A env mu ρf (.Name x px) d ((x, d) :: ρf) := by
  have hρ : ∀ p ∈ (x, d) :: ρf, p = (x, d) ∨ (p ∈ ρf ∧ p.1 ≠ x) := fun p hp => by
    rcases List.mem_cons.mp hp with q | q
    · exact .inl q
    · exact .inr ⟨q, fun z => hn (z ▸ List.mem_map_of_mem q)⟩
  rcases hx with hx | hx
  · exact bind_loc (C.other hx) C.kind hρ
  · obtain ⟨c, hc, hcm, hap⟩ := C.own x (mem_of_lookup hx)
    exact bind_cell (C.other hx) C.kind hc hcm hap hρ

/-- one clause, one name, a test -/
theorem evc_filter {α : Type} {c : α → D} {xs : List α} {elt iter : Expr} {ifs : List Expr} {x : Str} {px : Pos} {scope : Scope} {pos : Pos} (ρf : List (Str × D)) (p : α → Bool) (f : α → D) (S : St env mu s H ρ) (hsub : ∀ p ∈ ρf, p ∈ ρ)
    (fs : List Str) (hfs : ρf.map (·.1) = fs) (hok : scopeOk scope fs = true) (hx : scope.names.lookup x = some .local ∨ scope.names.lookup x = some .cell) (hn : fs.contains x = false) (hK : AllK env fs)
    (hit : EvIt prog w A env s H iter (xs.map c)) (hlen : xs.length ≤ sizeLine)
    (h : ∀ cenv mu' a s₁ H₁, a ∈ xs → CEnv scope env cenv mu' → (∀ b o, H b = some o → H₁ b = some o) → St cenv mu' s₁ H₁ ((x, c a) :: ρf) → EvTs prog w A cenv s₁ H₁ ifs (p a) ∧ (p a = true → Ev prog w A cenv s₁ H₁ elt (f a)))
    (hs : ∀ x, foldedSetIterable iter env x = pure x := by intro _; rfl) :
    EvC prog w A env s H elt [⟨.Name x px, iter, ifs, 0⟩] scope pos ((xs.filter p).map f) := by
  have hout : (xs.filter p).map f = xs.flatMap fun d => if p d then [f d] else [] := by
    clear hit hlen h
    induction xs with
    | nil => rfl
    | cons a r ih => rw [List.flatMap_cons, ← ih, List.filter_cons]; cases p a <;> simp
  refine evc_of S hsub hfs hok hK hit (by rw [List.length_map]; exact Nat.le_trans (List.length_filter_le _ _) hlen) (fun cenv mu' Dl s₁ H₁ g C hD => ?_) hs
  rw [hout]
  refine comp_last rfl rfl hD (fun a => (x, c a) :: ρf) p f (fun a ha => bind_name C hx (by rw [hfs]; simpa using hn)) (fun a ha q hq => .tail _ hq) (fun a ha s₂ H₂ up S₂ => (h cenv mu' a s₂ H₂ ha C (fun b o e => up b o (g.sub b o e)) S₂).1) fun a ha hp s₂ H₂ up S₂ =>
    (h cenv mu' a s₂ H₂ ha C (fun b o e => up b o (g.sub b o e)) S₂).2 hp
theorem evc_map {α : Type} {c : α → D} {xs : List α} {elt iter : Expr} {x : Str} {px : Pos} {scope : Scope} {pos : Pos} (ρf : List (Str × D)) (f : α → D) (S : St env mu s H ρ) (hsub : ∀ p ∈ ρf, p ∈ ρ)
    (fs : List Str) (hfs : ρf.map (·.1) = fs) (hok : scopeOk scope fs = true) (hx : scope.names.lookup x = some .local ∨ scope.names.lookup x = some .cell) (hn : fs.contains x = false) (hK : AllK env fs)
    (hit : EvIt prog w A env s H iter (xs.map c)) (hlen : xs.length ≤ sizeLine)
    (h : ∀ cenv mu' a s₁ H₁, a ∈ xs → CEnv scope env cenv mu' → (∀ b o, H b = some o → H₁ b = some o) → St cenv mu' s₁ H₁ ((x, c a) :: ρf) → Ev prog w A cenv s₁ H₁ elt (f a))
    (hs : ∀ x, foldedSetIterable iter env x = pure x := by intro _; rfl) :
    EvC prog w A env s H elt [⟨.Name x px, iter, [], 0⟩] scope pos (xs.map f) := by
  have := evc_filter (px := px) (pos := pos) (elt := elt) (ifs := []) ρf (fun _ => true) f S hsub fs hfs hok hx hn hK hit hlen (fun cenv mu' a s₁ H₁ ha C up S₁ => ⟨evts_nil, fun _ => h cenv mu' a s₁ H₁ ha C up S₁⟩) hs
  rwa [List.filter_eq_self.mpr (fun _ _ => rfl)] at this
end
end Mine

namespace Mine

/-- the text's own objects and names stand -/
def Wd (K : Frag) (H : Mp) : Prop := ∃ (hB : Heap) (p : Program) (loose : List Str) (mg mb : Str → Option Value), (∀ a o, hB.get? a = some o → H a = some o) ∧ K.In hB ∧ TopRead p loose mg mb hB
theorem Wd.mono {K : Frag} {H H' : Mp} (x : Wd K H) (k : ∀ a o, H a = some o → H' a = some o) : Wd K H' :=
  let ⟨hB, p, l, mg, mb, a, b, c⟩ := x; ⟨hB, p, l, mg, mb, fun q o e => k q o (a q o e), b, c⟩
theorem Wd.at {K : Frag} {H : Mp} (x : Wd K H) {a : Addr} {o : Obj} (e : K.lookup a = some o) : H a = some o := let ⟨hB, p, l, mg, mb, a', b, c⟩ := x; a' _ _ (b _ _ e)

/-- a function's or comprehension's block: its names go to the text's globals -/
structure GEnv (env : Env) : Prop where
  kind : env.scope.kind = .function
  glob : env.globals = mainGlobals
  bi : env.builtins = builtinsNs
theorem CEnv.g {scope : Scope} {env cenv : Env} {mu : List Addr} (C : CEnv scope env cenv mu) (G : GEnv env) : GEnv cenv := ⟨C.kind, C.glob.trans G.glob, C.bi.trans G.bi⟩

section
variable {prog : Program} {w : World} {A : Around} {env : Env} {mu : List Addr} {s : Shared} {H : Mp} {ρ : List (Str × D)} {K : Frag}

theorem rd_global {M : Model} {A : Around} {E : Value → Shared → Prop} {x : Str} {pos : Pos} {v : Value} {Q : Value → Shared → Prop} (W : Wd K H) (n : Now s H) (G : GEnv env) (hx : env.kindOf x = some .globalImplicit) (e : nsIn K mainGlobals x = some (some v)) (h : Q v s)
    (hd : (x == ("__debug__" : Str)) = false := by decide) : wpAny M A (eval (.Name x pos) env) Q E s := by
  obtain ⟨hB, p, l, mg, mb, a, b, T⟩ := W
  exact Calls.Name_function_global G.kind hx (Calls.loadGlobal_global (env := env) (by rw [G.glob]; exact T.g.keeps fun q o e => n _ _ (a q o e)) (mg_of b T.g e) h) hd
theorem rd_builtin {M : Model} {A : Around} {E : Value → Shared → Prop} {x : Str} {pos : Pos} {v : Value} {Q : Value → Shared → Prop} (W : Wd K H) (n : Now s H) (G : GEnv env) (hx : env.kindOf x = some .globalImplicit) (e : nsIn K mainGlobals x = some none)
    (hb : bootBuiltins x = some v) (hn : x ≠ "__name__") (h : Q v s) (hd : (x == ("__debug__" : Str)) = false := by decide) : wpAny M A (eval (.Name x pos) env) Q E s := by
  obtain ⟨hB, p, l, mg, mb, a, b, T⟩ := W
  have k : ∀ q o, hB.get? q = some o → s.heap.get? q = some o := fun q o e => n _ _ (a q o e)
  exact Calls.Name_function_global G.kind hx (Calls.loadGlobal_builtin (env := env) (by rw [G.glob]; exact T.g.keeps k) (mg_none_of b T.g e) (by rw [G.bi]; exact T.b.keeps k) ((T.builtins x hn).trans hb) h) hd
theorem ev_global {x : Str} {pos : Pos} {a : Addr} (W : Wd K H) (G : GEnv env) (hx : env.kindOf x = some .globalImplicit) (e : nsIn K mainGlobals x = some (some (.ref a))) (hd : (x == ("__debug__" : Str)) = false := by decide) :
    Ev prog w A env s H (.Name x pos) (.ptr a) := fun s₁ H₁ g Q E k => rd_global (W.mono g.sub) g.now G hx e (k _ _ H₁ (.refl g.now) (.ptr a)) hd

theorem evl_nil : EvL prog w A env s H [] [] := fun s₁ H₁ g pos Q E k => args_nil (k _ _ _ (.refl g.now) .nil)
theorem evl_cons {e : Expr} {es : List Expr} {d : D} {l : List D} (h : Ev prog w A env s H e d) (r : EvL prog w A env s H es l) (he : starEach (e :: es) env = (false, eval e env) :: starEach es env := by rfl) :
    EvL prog w A env s H (e :: es) (d :: l) := fun s₁ H₁ g pos Q E k =>
  args_cons (h s₁ H₁ g _ _ fun v s₂ H₂ g₂ rv => r s₂ H₂ (g.trans g₂) pos _ _ fun vs s₃ H₃ g₃ rs => k _ _ _ (g₂.trans g₃) (.cons (rv.mono g₃.sub) rs)) he

theorem ev_list {es : List Expr} {pos : Pos} {l : List D} (h : EvL prog w A env s H es l) (hz : l.length ≤ sizeLine) : Ev prog w A env s H (.List es pos) (.list l) := fun s₁ H₁ g Q E k => by
  refine wpAny_List (h s₁ H₁ g pos _ _ fun vs s₂ H₂ g₂ rs => ⟨by rw [rs.length]; exact hz, ?_⟩)
  have gp := Grow.push g₂.now (lstO vs 0)
  exact k _ _ _ (g₂.trans gp) (.list put_same (rs.mono gp.sub))
theorem ev_tuple {es : List Expr} {n : Nat} {pos : Pos} {l : List D} (h : EvL prog w A env s H es l) (hz : l.length ≤ sizeLine) : Ev prog w A env s H (.Tuple es n pos) (.tup l) := fun s₁ H₁ g Q E k => by
  refine wpAny_Tuple (h s₁ H₁ g pos _ _ fun vs s₂ H₂ g₂ rs => ⟨by rw [rs.length]; exact hz, ?_⟩)
  have gp := Grow.push g₂.now (tupO vs)
  exact k _ _ _ (g₂.trans gp) (.tup put_same (rs.mono gp.sub))

/-- a def of the text, called on these, gives this -/
def Fn (prog : Program) (w : World) (A : Around) (K : Frag) (fa : Addr) (ds : List D) (d : D) : Prop := ∀ (s : Shared) (H : Mp) (vs : List Value), Now s H → Wd K H → Rels H vs ds → ∀ R : Result → Shared → Prop,
  (∀ v s' H', Grow s H s' H' → Rel H' v d → R (.ok (.ret v)) s') → codeAny (model prog w) A (.call (.ref fa) ⟨vs, []⟩) R s

theorem ev_call {f : Str} {np pos : Pos} {e : Expr} {es : List Expr} {fa : Addr} {o : Obj} {fd : FuncData} {ds : List D} {d : D} (W : Wd K H) (G : GEnv env) (hx : env.kindOf f = some .globalImplicit) (he : nsIn K mainGlobals f = some (some (.ref fa)))
    (ho : K.lookup fa = some o) (hd : o.data = .func fd) (ha : EvL prog w A env s H (e :: es) ds) (F : Fn prog w A K fa ds d) (hst : starEach (e :: es) env = (false, eval e env) :: starEach es env := by rfl) (hb : (f == ("__debug__" : Str)) = false := by decide) :
    Ev prog w A env s H (.Call (.Name f np) (e :: es) [] pos) d := fun s₁ H₁ g Q E k =>
  wpAny_Call_NameR (rd_global (W.mono g.sub) g.now G hx he (callWith_def hd (ha s₁ H₁ g pos _ _ fun vs s₂ H₂ g₂ rs => ⟨g₂.now _ _ ((W.mono (fun a o e => g₂.sub a o (g.sub a o e))).at ho),
    wpAny_call (F s₂ H₂ vs g₂.now (W.mono fun a o e => g₂.sub a o (g.sub a o e)) rs _ fun v s' H' g' r => k v s' H' (g₂.trans g') r)⟩) hst) hb)
theorem ev_call0 {f : Str} {np pos : Pos} {fa : Addr} {o : Obj} {fd : FuncData} {d : D} (W : Wd K H) (G : GEnv env) (hx : env.kindOf f = some .globalImplicit) (he : nsIn K mainGlobals f = some (some (.ref fa)))
    (ho : K.lookup fa = some o) (hk : keepIn K (.ref fa) = true) (F : Fn prog w A K fa [] d) (hb : (f == ("__debug__" : Str)) = false := by decide) :
    Ev prog w A env s H (.Call (.Name f np) [] [] pos) d := fun s₁ H₁ g Q E k =>
  wpAny_Call_NameR (rd_global (W.mono g.sub) g.now G hx he (by
    obtain ⟨hB, p, l, mg, mb, a, b, T⟩ := id (W.mono g.sub)
    exact callWith_K0 (b.keeps fun q o e => g.now _ _ (a q o e)) hk (wpAny_call (F s₁ H₁ [] g.now (W.mono g.sub) .nil _ fun v s' H' g' r => k v s' H' g' r))) hb)

theorem ev_builtin {x : Str} {id : String} {np pos : Pos} {e : Expr} {es : List Expr} {ds : List D} {d : D} (W : Wd K H) (G : GEnv env) (hx : env.kindOf x = some .globalImplicit) (he : nsIn K mainGlobals x = some none)
    (hbt : bootBuiltins x = some (.builtin id)) (hnm : x ≠ "__name__") (ha : EvL prog w A env s H (e :: es) ds) (C : Call1 prog w A id ds d) (hst : starEach (e :: es) env = (false, eval e env) :: starEach es env := by rfl)
    (hpl : (backTo pos (starEach es env)).any (·.1) = false := by rfl) (hb : (x == ("__debug__" : Str)) = false := by decide) : Ev prog w A env s H (.Call (.Name x np) (e :: es) [] pos) d := fun s₁ H₁ g Q E k =>
  wpAny_Call_NameR (rd_builtin (W.mono g.sub) g.now G hx he hbt hnm (callWith_builtin1 (ha s₁ H₁ g pos _ _ fun vs s₂ H₂ g₂ rs => C s₂ H₂ vs g₂.now rs _ _ fun v s' H' g' r => k v s' H' (g₂.trans g') r) hst hpl) hb)

theorem src_range {a : Int} {n : Nat} {I : Addr} (hh : A.handled = none) (nw : Now s H) (hI : H I = none) (hit : IsRangeIter s.heap I a n 1) : Src prog w A I ((List.range n).map fun i : Nat => D.int (a + i)) s H := by
  refine ⟨[I], fun i v => i < n ∧ ∃ t, v = .int (a + (i : Nat) * 1) t, fun i h => IsRangeIter h I (a + (i : Nat) * 1) ((n : Int) - (i : Nat)) 1, ?_, by simpa using hit, fun b hb => .inl (by simpa using hb), hI, Heap.lt_size hit, fun i v hv => ?_, fun i h hw => ⟨_, hw, .inr rfl⟩⟩
  · have W := Walks.range (prog := prog) (w := w) hh I a 1 n
    rw [List.length_map, List.length_range]
    exact ⟨W.sub, W.frame, fun i s Q E hi st hQ => W.item i s Q E hi st fun v h' tk hP => hQ v h' tk ⟨hi, hP⟩, W.done, W.self⟩
  · obtain ⟨hi, t, rfl⟩ := hv
    refine ⟨.int (a + i), by simp [hi], fun H' _ => ?_⟩
    rw [Int.mul_one]; exact .int _ _

theorem iter_range {r : Addr} {a : Int} {n : Nat} {t u v : Tok} {Q : Value → Shared → Prop} {E : Value → Shared → Prop} (hh : A.handled = none) (nw : Now s H) (hr : IsRange s.heap r a (a + n) 1 t u v) (ha : -(2 ^ 40) ≤ a) (ha' : a < 2 ^ 40) (hz : n < 2 ^ 40)
    (k : ∀ I s' H', Grow s H s' H' → s.heap.objs.size ≤ I → Src prog w A I ((List.range n).map fun i : Nat => D.int (a + i)) s' H' → Q (.ref I) s') : wpAny (model prog w) A (pyIter (.ref r)) Q E s := by
  refine wpAny_pyIter_range hr (small_one (by omega) (by omega) (by omega) (by omega)) ?_
  have hs : Builtin.Range.rangeSize a (a + n) 1 = (n : Int) := by rw [rangeSize_one]; split <;> omega
  rw [hs]
  have gp := Grow.pushed nw { cls := .type "range_iterator", data := .fields #[rawInt a, rawInt n, rawInt 1] }
  exact k _ _ _ gp (Nat.le_refl _) (src_range hh gp.now (above_none nw (Nat.le_refl _)) (Heap.get?_push_size _ rfl))

theorem evit_range1 {np pos : Pos} {e : Expr} {n : Nat} (hh : A.handled = none) (W : Wd K H) (G : GEnv env) (hx : env.kindOf "range" = some .globalImplicit) (he : nsIn K mainGlobals "range" = some none)
    (h : Ev prog w A env s H e (.int n)) (hz : n < 2 ^ 40) (hst : starEach [e] env = (false, eval e env) :: starEach [] env := by rfl) : EvIt prog w A env s H (.Call (.Name "range" np) [e] [] pos) ((List.range n).map fun i : Nat => D.int i) := fun s₁ H₁ g Q E k => by
  refine wpAny_Call_NameR (rd_builtin (W.mono g.sub) g.now G hx he PyProof.Rows.boot_range (by decide) (Pv.callWith_type1 (args_cons (h s₁ H₁ g _ _ fun v s₂ H₂ g₂ r => args_nil ?_) hst) hst))
  cases r with
  | int _ t =>
    refine call_range_1 ?_
    have gp : Grow s₂ H₂ { s₂ with heap := s₂.heap.push { cls := .type "range", data := .fields #[.int 0 s₂.toks, .int n t, .int 1 (s₂.toks + 1)] }, toks := s₂.toks + 1 + 1 } H₂ :=
      Grow.keeps g₂.now (fun _ _ e => Heap.get?_push_of_some _ e) (by rw [Heap.size_push]; exact Nat.le_succ _) _
    refine iter_range (n := n) (a := 0) (t := s₂.toks) (u := t) (v := s₂.toks + 1) hh gp.now (by rw [Int.zero_add]; exact IsRange.new ..) (by decide) (by decide) hz fun I s' H' g' hI src => k _ _ _ (g₂.trans (gp.trans g')) (Nat.le_trans (Nat.le_trans g₂.size gp.size) hI) ?_
    simpa using src

theorem evit_range2 {np pos : Pos} {e₁ e₂ : Expr} {a : Int} {n : Nat} (hh : A.handled = none) (W : Wd K H) (G : GEnv env) (hx : env.kindOf "range" = some .globalImplicit) (he : nsIn K mainGlobals "range" = some none)
    (h₁ : Ev prog w A env s H e₁ (.int a)) (h₂ : Ev prog w A env s H e₂ (.int (a + n))) (ha : -(2 ^ 40) ≤ a) (ha' : a < 2 ^ 40) (hz : n < 2 ^ 40) (hst₁ : starEach [e₁, e₂] env = (false, eval e₁ env) :: starEach [e₂] env := by rfl) (hst : starEach [e₂] env = (false, eval e₂ env) :: starEach [] env := by rfl)
    (hpl : ∀ pos, (backTo pos (starEach [e₂] env)).any (·.1) = false := by intro _; rfl) :
    EvIt prog w A env s H (.Call (.Name "range" np) [e₁, e₂] [] pos) ((List.range n).map fun i : Nat => D.int (a + i)) := fun s₁ H₁ g Q E k => by
  refine wpAny_Call_NameR (rd_builtin (W.mono g.sub) g.now G hx he PyProof.Rows.boot_range (by decide) (Pv.callWith_type1 (args_cons (h₁ s₁ H₁ g _ _ fun v s₂ H₂ g₂ r => args_cons (h₂ s₂ H₂ (g.trans g₂) _ _ fun v' s₃ H₃ g₃ r' => args_nil ?_) hst) hst₁) hst₁ (hpl _)))
  cases r with
  | int _ t =>
    cases r' with
    | int _ u =>
      refine call_range_2 ?_
      have gp : Grow s₃ H₃ { s₃ with heap := s₃.heap.push { cls := .type "range", data := .fields #[.int a t, .int (a + n) u, .int 1 s₃.toks] }, toks := s₃.toks + 1 } H₃ :=
        Grow.keeps g₃.now (fun _ _ e => Heap.get?_push_of_some _ e) (by rw [Heap.size_push]; exact Nat.le_succ _) _
      exact iter_range hh gp.now (IsRange.new ..) ha ha' hz fun I s' H' g' hI src => k _ _ _ (g₂.trans (g₃.trans (gp.trans g'))) (Nat.le_trans (Nat.le_trans g₂.size (Nat.le_trans g₃.size gp.size)) hI) src
end
end Mine

namespace Mine

structure AOk (A : Around) (k : Nat) : Prop where
  handled : A.handled = none
  depth : A.depth + k ≤ 600
  units : A.units + 40 * k ≤ 9000
theorem AOk.deeper {A : Around} {k : Nat} {env : Env} (x : AOk A (k + 1)) : AOk (A.deeper env) k := ⟨x.handled, by have := x.depth; show A.depth + 1 + k ≤ 600; omega, by have := x.units; show A.units + 3 + 40 * k ≤ 9000; omega⟩
theorem AOk.less {A : Around} {k k' : Nat} (x : AOk A k) (h : k' ≤ k) : AOk A k' := ⟨x.handled, by have := x.depth; omega, by have := x.units; omega⟩
theorem AOk.room {A : Around} {k : Nat} (x : AOk A k) : A.depth < recursionLimit := by have := x.depth; show A.depth < 1000; omega

theorem bindL_other {kindOf : Str → Option NameKind} {x : Str} : ∀ (binds : List (Str × Value)) (m : Str → Option Value), x ∉ binds.map (·.1) → bindL kindOf binds m x = m x
  | [], m, _ => rfl
  | (n, v) :: r, m, h => by
    unfold bindL
    rw [bindL_other r _ fun q => h (.tail _ q)]
    split
    · exact if_neg (show ¬ x = n from fun z => h (z ▸ .head _))
    · rfl
theorem bindC_other {kindOf : Str → Option NameKind} {x : Str} : ∀ (binds : List (Str × Value)) (m : Str → Option Value), x ∉ binds.map (·.1) → bindC kindOf binds m x = m x
  | [], m, _ => rfl
  | (n, v) :: r, m, h => by
    unfold bindC
    rw [bindC_other r _ fun q => h (.tail _ q)]
    split
    · rfl
    · exact if_neg (show ¬ x = n from fun z => h (z ▸ .head _))
theorem bindL_get {kindOf : Str → Option NameKind} {x : Str} {v : Value} (hk : kindOf x = some .local) : ∀ (binds : List (Str × Value)) (m : Str → Option Value), (binds.map (·.1)).Nodup → (x, v) ∈ binds → bindL kindOf binds m x = some v
  | (n, u) :: r, m, hd, h => by
    rw [List.map_cons, List.nodup_cons] at hd
    unfold bindL
    rcases List.mem_cons.mp h with q | q
    · cases q
      rw [bindL_other r _ hd.1, if_pos hk]; simp
    · exact bindL_get hk r _ hd.2 q
theorem bindC_get {kindOf : Str → Option NameKind} {x : Str} {v : Value} (hk : kindOf x ≠ some .local) : ∀ (binds : List (Str × Value)) (m : Str → Option Value), (binds.map (·.1)).Nodup → (x, v) ∈ binds → bindC kindOf binds m x = some v
  | (n, u) :: r, m, hd, h => by
    rw [List.map_cons, List.nodup_cons] at hd
    unfold bindC
    rcases List.mem_cons.mp h with q | q
    · cases q
      rw [bindC_other r _ hd.1, if_neg hk]; simp
    · exact bindC_get hk r _ hd.2 q
theorem cf_keys : ∀ (names : List (Str × NameKind)) (n : Nat) (acc : List (Str × Addr)), ∀ p ∈ cellsFrom n names acc, p ∈ acc ∨ (p.1, NameKind.cell) ∈ names
  | [], _, _, p, hp => .inl hp
  | (x, k) :: r, n, acc, p, hp => by
    unfold cellsFrom at hp
    split at hp
    · rename_i hk
      rcases cf_keys r (n + 1) _ p hp with q | q
      · rcases List.mem_cons.mp q with rfl | q
        · exact .inr (by rw [← (show k = .cell by simpa using hk)]; exact .head _)
        · exact .inl q
      · exact .inr (.tail _ q)
    · rcases cf_keys r n acc p hp with q | q
      · exact .inl q
      · exact .inr (.tail _ q)
theorem cf_lookup_mem : ∀ (names : List (Str × NameKind)) (n : Nat) (acc : List (Str × Addr)), (names.map (·.1)).Nodup → (∀ q ∈ acc, q.1 ∉ names.map (·.1)) → (∀ q ∈ acc, acc.lookup q.1 = some q.2) → ∀ p ∈ cellsFrom n names acc, (cellsFrom n names acc).lookup p.1 = some p.2
  | [], _, acc, _, _, h, p, hp => h p hp
  | (x, k) :: r, n, acc, hd, ha, h, p, hp => by
    rw [List.map_cons, List.nodup_cons] at hd
    unfold cellsFrom at hp ⊢
    split at hp
    · rename_i hk
      rw [if_pos hk]
      refine cf_lookup_mem r (n + 1) ((x, n) :: acc) hd.2 (fun q hq => ?_) (fun q hq => ?_) p hp
      · rcases List.mem_cons.mp hq with rfl | hq
        · exact hd.1
        · exact fun z => ha q hq (.tail _ z)
      · rcases List.mem_cons.mp hq with rfl | hq
        · simp [List.lookup_cons]
        · have : (q.1 == x) = false := by
            cases hb : q.1 == x with
            | false => rfl
            | true => exact absurd (by rw [beq_iff_eq.mp hb]; exact .head _) (ha q hq)
          rw [List.lookup_cons, this]; exact h q hq
    · rename_i hk
      rw [if_neg hk]
      exact cf_lookup_mem r n acc hd.2 (fun q hq z => ha q hq (.tail _ z)) h p hp

/-- the block of a def of the text -/
structure FEnv (scope : Scope) (env : Env) (mu : List Addr) : Prop where
  g : GEnv env
  names : env.scope = scope
  own : ∀ x, (x, NameKind.cell) ∈ scope.names → ∃ c, env.cells.lookup x = some c ∧ c ∈ mu ∧ ∀ p ∈ env.cells, p.2 = c → p.1 = x
theorem FEnv.kind {scope : Scope} {env : Env} {mu : List Addr} (F : FEnv scope env mu) {x : Str} {k : NameKind} (h : scope.names.lookup x = some k) : env.kindOf x = some k := by unfold Env.kindOf; rw [F.names]; exact h

def fnOk (scope : Scope) (names : List Str) : Bool :=
  decide (scope.names.map (·.1)).Nodup && decide names.Nodup && (names.all fun x => scope.names.lookup x == some .local || scope.names.lookup x == some .cell) && (scope.kind == .function) && !scope.isCoroutine && !scope.isGenerator

section
variable {prog : Program} {w : World} {A : Around} {env : Env} {mu : List Addr} {s : Shared} {H : Mp} {ρ : List (Str × D)} {K : Frag}

theorem zip_rel {H : Mp} : ∀ {names : List Str} {vs : List Value} {ds : List D}, Rels H vs ds → ∀ p ∈ names.zip ds, ∃ v, (p.1, v) ∈ names.zip vs ∧ Rel H v p.2
  | [], _, _, _, p, hp => by simp at hp
  | n :: r, _, _, .nil, p, hp => by simp at hp
  | n :: r, _, _, .cons h rs, p, hp => by
    rw [List.zip_cons_cons] at hp
    rcases List.mem_cons.mp hp with rfl | q
    · exact ⟨_, by rw [List.zip_cons_cons]; exact .head _, h⟩
    · obtain ⟨v, a, b⟩ := zip_rel rs p q
      exact ⟨v, by rw [List.zip_cons_cons]; exact .tail _ a, b⟩

theorem fn_of {fa : Addr} {oc : Value} {od an : Option Addr} {name qual : Str} {params : Arguments} {body : List Stmt} {scope : Scope} {dV kV doc pm cdv ct : Value} {osl : Array (Option Value)} {names : List Str} {ds : List D} {d : D}
    (ho : K.lookup fa = some ⟨oc, od, .func (fnOf name qual params body scope dV kV doc pm an cdv ct), osl⟩) (hcd : codeIn K cdv qual = true) (hA : A.depth < recursionLimit)
    (hbind : ∀ vs : List Value, vs.length = names.length → bindArgs (fnOf name qual params body scope dV kV doc pm an cdv ct) ⟨vs, []⟩ = pure (names.zip vs)) (hlen : ds.length = names.length) (hok : fnOk scope names = true)
    (hbody : ∀ s H s₁ env mu, Now s H → Wd K H → FEnv scope env mu → St env mu s₁ H (names.zip ds) → Grow s H s₁ H → (∀ a ∈ mu, s.heap.objs.size ≤ a) → ∀ (Q : Flow → Shared → Prop) (E : Value → Shared → Prop),
      (∀ v s' H', Step mu s₁ H s' H' → Rel H' v d → Q (.ret v) s') → wpAny (model prog w) (A.deeper env) (execs body env) Q E s₁) : Fn prog w A K fa ds d := by
  intro s H vs nw W rs R k
  simp only [fnOk, Bool.and_eq_true, decide_eq_true_eq, List.all_eq_true, Bool.or_eq_true, beq_iff_eq, Bool.not_eq_true'] at hok
  obtain ⟨⟨⟨⟨⟨h1, h2⟩, h3⟩, h4⟩, h5⟩, h6⟩ := hok
  have hvl : vs.length = names.length := rs.length.trans hlen
  have hfst : (names.zip vs).map (·.1) = names := by rw [List.map_fst_zip]; omega
  obtain ⟨hB, p, l, mg, mb, a, b, T⟩ := id W
  have kB : ∀ q o, hB.get? q = some o → s.heap.get? q = some o := fun q o e => nw _ _ (a q o e)
  have hkind : ∀ x ∈ names.zip vs, scope.names.lookup x.1 = some .local ∨ (scope.names.lookup x.1 = some .cell ∧ ((cellsFrom (s.heap.objs.size + 1) scope.names []).lookup x.1).isSome = true) := fun x hx => by
    have hx' : x.1 ∈ names := by rw [← hfst]; exact List.mem_map_of_mem hx
    rcases h3 _ hx' with q | q
    · exact .inl q
    · obtain ⟨c, e, _⟩ := cf_own scope.names (s.heap.objs.size + 1) [] x.1 (mem_of_lookup q)
      exact .inr ⟨q, by rw [e]; rfl⟩
  refine codeAny_call_cells (fd := fnOf name qual params body scope dV kV doc pm an cdv ct) (body := body) hA (kB _ _ (b _ _ ho)) rfl (T.nolimit.keeps kB) ((codeRec_of b hcd).keeps kB) rfl (hbind vs hvl) rfl hkind (fun s₁ X => ?_) h5 h6 h4
  have hcells : ∀ q ∈ cellsFrom (s.heap.objs.size + 1) scope.names [], ∃ v, s₁.heap.IsCell q.2 v := fun q hq => ⟨_, X.cell q.1 q.2 (cf_lookup_mem _ _ _ h1 (fun _ z => absurd z List.not_mem_nil) (fun _ z => absurd z List.not_mem_nil) q hq)⟩
  have hmu : ∀ c ∈ s.heap.objs.size :: (cellsFrom (s.heap.objs.size + 1) scope.names []).map (·.2), s.heap.objs.size ≤ c ∧ s₁.heap.objs.size > c := fun c hc => by
    rcases List.mem_cons.mp hc with q | q
    · rw [q]; exact ⟨Nat.le_refl _, X.toInCall.ns.lt⟩
    · obtain ⟨z, hz, rfl⟩ := List.mem_map.mp q
      refine ⟨Nat.le_of_lt (X.above z.1 z.2 hz), ?_⟩
      obtain ⟨v, hv⟩ := hcells z hz
      exact hv.lt
  have g : Grow s H s₁ H := by
    obtain ⟨hh, tk, e⟩ := X.toInCall.same
    have hk := X.toInCall.keep
    subst e
    exact Grow.keeps nw hk (Nat.le_of_lt (hmu _ (.head _)).2) tk
  have S : St (callEnvC (fnOf name qual params body scope dV kV doc pm an cdv ct) s.heap.objs.size fa) (s.heap.objs.size :: (cellsFrom (s.heap.objs.size + 1) scope.names []).map (·.2)) s₁ H (names.zip ds) := by
    refine ⟨g.now, fun q hq => ?_, ⟨_, X.toInCall.ns⟩, fun c hc => ⟨above_none nw (hmu c hc).1, (hmu c hc).2⟩, .head _, hcells⟩
    obtain ⟨v, hv, r⟩ := zip_rel rs q hq
    refine ⟨v, ?_, r⟩
    have hx' : q.1 ∈ names := by rw [← hfst]; exact List.mem_map_of_mem (f := (·.1)) hv
    rcases h3 _ hx' with z | z
    · exact .loc (show scope.names.lookup q.1 = some .local from z) X.toInCall.ns (bindL_get (show scope.names.lookup q.1 = some .local from z) _ _ (by rw [hfst]; exact h2) hv)
    · obtain ⟨c, e, _⟩ := cf_own scope.names (s.heap.objs.size + 1) [] q.1 (mem_of_lookup z)
      refine .cell (.inl (show scope.names.lookup q.1 = some .cell from z)) (c := c) e ?_
      have hc := X.cell q.1 c e
      rwa [bindC_get (kindOf := (callEnvC (fnOf name qual params body scope dV kV doc pm an cdv ct) s.heap.objs.size fa).kindOf) (by show scope.names.lookup q.1 ≠ _; rw [z]; decide) _ _ (by rw [hfst]; exact h2) hv] at hc
  refine hbody s H s₁ _ _ nw W ⟨⟨h4, rfl, rfl⟩, rfl, fun x hx => ?_⟩ S g (fun c hc => (hmu c hc).1) _ _ fun v s' H' st r => k v s' H' (st.grow g fun c hc => (hmu c hc).1) r
  obtain ⟨c, e, hc⟩ := cf_own scope.names (s.heap.objs.size + 1) [] x hx
  exact ⟨c, e, .tail _ (List.mem_map.mpr ⟨_, mem_of_lookup e, rfl⟩), fun p hp q => cf_apart scope.names (s.heap.objs.size + 1) [] (fun _ z => absurd z List.not_mem_nil) p hp _ (mem_of_lookup e) q (by rw [q]; exact hc)⟩
end
end Mine

namespace Mine

section
variable {prog : Program} {w : World} {A : Around} {env : Env} {mu : List Addr} {s : Shared} {H : Mp} {ρ : List (Str × D)} {K : Frag}

theorem Now.isList {s : Shared} {H : Mp} (n : Now s H) {a : Addr} {vs : List Value} {k : Nat} (h : H a = some (lstO vs k)) : s.heap.IsList a vs.toArray := ⟨_, n _ _ h, rfl, k, rfl⟩

-- ints
theorem o_add (a b : Int) : Op2 prog w A (binaryOp .Add) (.int a) (.int b) (.int (a + b)) := fun s H _ _ n ra rb Q E k => by cases ra; cases rb; exact add_int (k _ _ H (.tok n _) (.int _ _))
theorem o_sub (a b : Int) : Op2 prog w A (binaryOp .Sub) (.int a) (.int b) (.int (a - b)) := fun s H _ _ n ra rb Q E k => by cases ra; cases rb; exact sub_int (k _ _ H (.tok n _) (.int _ _))
theorem o_mod (a b : Int) (hb : b ≠ 0) : Op2 prog w A (binaryOp .Mod) (.int a) (.int b) (.int (a.fmod b)) := fun s H _ _ n ra rb Q E k => by cases ra; cases rb; exact mod_int' hb (k _ _ H (.tok n _) (.int _ _))
theorem o_fdiv (a b : Int) (hb : b ≠ 0) (hs : b.natAbs < 1073741824) : Op2 prog w A (binaryOp .FloorDiv) (.int a) (.int b) (.int (a.fdiv b)) := fun s H _ _ n ra rb Q E k => by cases ra; cases rb; exact floordiv_int hb (k _ _ H (.tok n _) (.int _ _)) (.inl (PyProof.noPylong_small hs))
theorem o_shl (a b : Int) (h0 : 0 ≤ b) (h1 : b ≤ 1000000) (ha : a.natAbs < 2 ^ 64) : Op2 prog w A (binaryOp .LShift) (.int a) (.int b) (.int (a * 2 ^ b.toNat)) := fun s H _ _ n ra rb Q E k => by cases ra; cases rb; exact lshift_int_small h0 h1 ha (k _ _ H (.tok n _) (.int _ _))
theorem o_shr (a b : Int) (h0 : 0 ≤ b) : Op2 prog w A (binaryOp .RShift) (.int a) (.int b) (.int (a.fdiv (2 ^ b.toNat))) := fun s H _ _ n ra rb Q E k => by cases ra; cases rb; exact rshift_int h0 (k _ _ H (.tok n _) (.int _ _))
theorem o_and (a b : Int) : Op2 prog w A (binaryOp .BitAnd) (.int a) (.int b) (.int (Builtin.bitAnd a b)) := fun s H _ _ n ra rb Q E k => by cases ra; cases rb; exact and_int (k _ _ H (.tok n _) (.int _ _))
theorem o_pow (a b : Int) (h0 : 0 ≤ b) (h1 : ((Builtin.Int.intBits a : Nat) : Int) * b ≤ 2 ^ 27) : Op2 prog w A (binaryOp .Pow) (.int a) (.int b) (.int (a ^ b.toNat)) := fun s H _ _ n ra rb Q E k => by cases ra; cases rb; exact pow_int h0 h1 (k _ _ H (.tok n _) (.int _ _))
theorem o_eq (a b : Int) : Op2 prog w A (compareOp .Eq) (.int a) (.int b) (.bool (a == b)) := fun s H _ _ n ra rb Q E k => by cases ra; cases rb; exact eq_int (k _ _ H (.refl n) (.bool _))
theorem o_lt (a b : Int) : Op2 prog w A (compareOp .Lt) (.int a) (.int b) (.bool (decide (a < b))) := fun s H _ _ n ra rb Q E k => by cases ra; cases rb; exact lt_int (k _ _ H (.refl n) (.bool _))
theorem o_gt (a b : Int) : Op2 prog w A (compareOp .Gt) (.int a) (.int b) (.bool (decide (b < a))) := fun s H _ _ n ra rb Q E k => by cases ra; cases rb; exact gt_int (k _ _ H (.refl n) (.bool _))
theorem o_ge (a b : Int) : Op2 prog w A (compareOp .GtE) (.int a) (.int b) (.bool (decide (b ≤ a))) := fun s H _ _ n ra rb Q E k => by cases ra; cases rb; exact ge_int (k _ _ H (.refl n) (.bool _))
theorem o_eqb (a b : Bool) : Op2 prog w A (compareOp .Eq) (.bool a) (.bool b) (.bool (a == b)) := fun s H _ _ n ra rb Q E k => by cases ra; cases rb; exact eq_bool (k _ _ H (.refl n) (.bool _))
theorem o_eqs (a b : Str) : Op2 prog w A (compareOp .Eq) (.str a) (.str b) (.bool (a == b)) := fun s H _ _ n ra rb Q E k => by cases ra; cases rb; exact PyProof.Rows.eq_str (k _ _ H (.refl n) (.bool _))
theorem o_nes (a b : Str) : Op2 prog w A (compareOp .NotEq) (.str a) (.str b) (.bool (a != b)) := fun s H _ _ n ra rb Q E k => by cases ra; cases rb; exact PyProof.Rows.ne_str (k _ _ H (.refl n) (.bool _))
theorem o_neis (a : Int) (b : Str) : Op2 prog w A (compareOp .NotEq) (.int a) (.str b) (.bool true) := fun s H _ _ n ra rb Q E k => by cases ra; cases rb; exact EqMixed.ne_int_str (k _ _ H (.refl n) (.bool _))
theorem o_adds (a b : Str) (hz : a.length + b.length ≤ sizeLine) : Op2 prog w A (binaryOp .Add) (.str a) (.str b) (.str (a ++ b)) := fun s H _ _ n ra rb Q E k => by cases ra; cases rb; exact add_str (fun t' tk => k _ _ H (.tok n _) (.str _ _)) hz
theorem o_isnot_none : Op2 prog w A (compareOp .IsNot) .none .none (.bool false) := fun s H _ _ n ra rb Q E k => by cases ra; cases rb; exact wpAny_isNot_plain rfl (k _ _ H (.refl n) (.bool _))
theorem o_isnot_ptr (a : Addr) : Op2 prog w A (compareOp .IsNot) (.ptr a) .none (.bool true) := fun s H _ _ n ra rb Q E k => by cases ra; cases rb; exact wpAny_isNot_other rfl (by intro e; cases e) (k _ _ H (.refl n) (.bool _))

-- lists
theorem o_addl (a b : List D) (hz : a.length + b.length ≤ sizeLine) : Op2 prog w A (binaryOp .Add) (.list a) (.list b) (.list (a ++ b)) := fun s H _ _ n ra rb Q E k => by
  cases ra with
  | @list l vs i _ ha ra =>
    cases rb with
    | @list l' vs' i' _ hb rb =>
      have hs : vs.toArray.size + vs'.toArray.size ≤ sizeLine := by rw [List.size_toArray, List.size_toArray, ra.length, rb.length]; exact hz
      refine concat_meets ⟨_, n _ _ ha, rfl⟩ ⟨_, n _ _ hb, rfl⟩ noFill_list_add seq_list_add PySem.F.slot_list_add PySem.F.entry_list_add (PySem.F.args_list_add_2 _ _) (list_addW l l' vs.toArray vs'.toArray i i' none none #[] #[] hs) ⟨n _ _ ha, n _ _ hb, ?_⟩
      have gp := Grow.push n (lstO (vs ++ vs') 0)
      have e : vs.toArray ++ vs'.toArray = (vs ++ vs').toArray := by simp
      rw [e]
      exact k _ _ _ gp (.list put_same ((ra.append rb).mono gp.sub))
theorem o_eqli (a b : List Int) (hu : A.units + 64 < cLine) : Op2 prog w A (compareOp .Eq) (.list (a.map .int)) (.list (b.map .int)) (.bool (decide (a = b))) := fun s H _ _ n ra rb Q E k => by
  cases ra with
  | list ha ra => cases rb with
    | list hb rb => exact ke_eq_ints (n.isList ha) (n.isList hb) ra.ints rb.ints hu (k _ _ H (.refl n) (.bool _))
theorem o_neli (a b : List Int) (hu : A.units + 64 < cLine) : Op2 prog w A (compareOp .NotEq) (.list (a.map .int)) (.list (b.map .int)) (.bool (!decide (a = b))) := fun s H _ _ n ra rb Q E k => by
  cases ra with
  | list ha ra => cases rb with
    | list hb rb => exact ke_ne_ints (n.isList ha) (n.isList hb) ra.ints rb.ints hu (k _ _ H (.refl n) (.bool _))

abbrev tupI (t : List Int) : D := .tup (t.map D.int)
theorem ints_reads {h : Heap} {H : Mp} : ∀ {vs : List Value} {ns : List Int}, Rels H vs (ns.map D.int) → ∃ as, ReadsAll h vs (ns.map PyData.int) as
  | _, [], .nil => ⟨_, .nil⟩
  | _, _ :: _, .cons (.int i t) r => let ⟨as, q⟩ := ints_reads r; ⟨_, .cons (.int i t) q⟩
theorem tup_reads {s : Shared} {H : Mp} (n : Now s H) {v : Value} {t : List Int} (r : Rel H v (tupI t)) : ∃ as, Reads s.heap v (.tuple (t.map PyData.int)) as := by
  cases r with
  | tup h r =>
    obtain ⟨as, q⟩ := ints_reads (h := s.heap) r
    exact ⟨as, reads_tuple_at (n _ _ h) rfl rfl (by simpa using q)⟩
theorem tups_reads {s : Shared} {H : Mp} (n : Now s H) : ∀ {vs : List Value} {ts : List (List Int)}, Rels H vs (ts.map tupI) → ∃ as, ReadsAll s.heap vs (ts.map fun t => PyData.tuple (t.map PyData.int)) as
  | _, [], .nil => ⟨_, .nil⟩
  | _, _ :: _, .cons h r => let ⟨as, q⟩ := tup_reads n h; let ⟨bs, p⟩ := tups_reads n r; ⟨_, .cons q p⟩
theorem tups_can : ∀ ts : List (List Int), PyData.canLayAll0 (ts.map fun t => PyData.tuple (t.map PyData.int)) = true ∧ PyData.depthAll (ts.map fun t => PyData.tuple (t.map PyData.int)) ≤ 1
  | [] => ⟨rfl, by simp [PyData.depthAll]⟩
  | t :: r => by
    have := tups_can r
    simp only [List.map_cons, PyData.canLayAll0, PyData.canLay0, ke_canLayAll0, PyData.depthAll, PyData.depth, ke_depthAll, this.1, Bool.and_self, true_and]
    omega
theorem o_in (t : List Int) (ts : List (List Int)) (hu : A.units + 3 < cLine) : Op2 prog w A (compareOp .In) (tupI t) (.list (ts.map tupI)) (.bool (ts.contains t)) := fun s H _ _ n ra rb Q E k => by
  obtain ⟨bs, rt⟩ := tup_reads n ra
  cases rb with
  | list hb rb =>
    obtain ⟨as, rs⟩ := tups_reads n rb
    have hc := tups_can ts
    refine SeqAt.in_list_reads (reads_list_at (n _ _ hb) rfl rfl (by simpa using rs)) rt hc.1 (by simp [PyData.canLay0, ke_canLayAll0]) (by have := Nat.min_le_left (PyData.depthAll (ts.map fun t => PyData.tuple (t.map PyData.int))) (PyData.depth (.tuple (t.map PyData.int))); omega) ?_
    have e : ((ts.map fun t => PyData.tuple (t.map PyData.int)).any fun y => PyData.eqv y (.tuple (t.map PyData.int))) = ts.contains t := by
      rw [List.any_map, List.contains_eq_any_beq]
      congr 1; funext u
      simp only [Function.comp, PyData.eqv, ked_eqvAll]
      by_cases h : u = t
      · subst h; simp
      · have h' : ¬ t = u := fun z => h z.symm
        simp [h, h']
    rw [e]
    exact k _ _ H (.refl n) (.bool _)

-- items
theorem ev_item {value slice : Expr} {pos : Pos} {l : List D} {i : Nat} {d : D} (hv : Ev prog w A env s H value (.list l)) (hi : Ev prog w A env s H slice (.int i)) (hd : l[i]? = some d) (hb : i < 2 ^ 63)
    (hs : ∀ (a : Addr) (j : Int) (t : Tok), subscripted slice false (.ref a) (.int j t) = operate [.ref a, .int j t] (getItem (.ref a) (.int j t)) := by intro _ _ _; with_unfolding_all rfl) : Ev prog w A env s H (.Subscript value slice pos) d := fun s₁ H₁ g Q E k =>
  Subscript_ (hv s₁ H₁ g _ _ fun v s₂ H₂ g₂ r => hi s₂ H₂ (g.trans g₂) _ _ fun v' s₃ H₃ g₃ r' => by
    cases r' with
    | int _ t =>
      cases r with
      | list h rs =>
        obtain ⟨x, hx, rx⟩ := rs.get i hd
        have hl := Now.isList g₃.now (g₃.sub _ _ h)
        exact tail_any hl.typeIs slot_list_getitem.lookup (wpAny_getItem_list hl (Int.natCast_nonneg _) (by exact_mod_cast hb) (by simpa using hx) (k _ _ H₃ (g₂.trans g₃) (rx.mono g₃.sub))) (hs _ _ _))

-- built-ins
theorem c_sum (ns : List Int) (hh : A.handled = none) : Call1 prog w A "sum" [.list (ns.map .int)] (.int ns.sum) := fun s H _ n rs Q E k => by
  cases rs with
  | cons r rn =>
    cases rn
    cases r with
    | @list l vs i _ h r =>
      have hi := r.ints
      obtain ⟨xs, hx⟩ := hi.allInts.items
      have hl' : s.heap.IsList l (intItems xs) := hx ▸ n.isList h
      refine with_size (sum_intListG hh hl' fun h' tk t' hk hz => ?_)
      have e1 : ns = xs.toList.map (·.1) := by
        rw [← nums_intItems, ← hx]
        exact (show numsOf vs.toArray.toList = ns from hi.numsOf).symm
      have e2 : preSum (numAt xs) xs.size = ns.sum := by
        rw [preSum_eq, List.take_of_length_le (by simp), e1]
      rw [e2]
      exact k _ _ H (Grow.keeps n hk hz tk) (.int _ _)
theorem c_min (a b : Int) (hh : A.handled = none) : Call1 prog w A "min" [.int a, .int b] (.int (if b < a then b else a)) := fun s H _ n rs Q E k => by
  cases rs with
  | cons r rs => cases rs with
    | cons r' rn =>
      cases rn; cases r; cases r'
      refine with_size (min_two_ints hh fun h' tk hk hz => ?_)
      by_cases c : b < a
      · rw [if_pos c] at k ⊢; exact k _ _ H (Grow.keeps n hk hz tk) (.int _ _)
      · rw [if_neg c] at k ⊢; exact k _ _ H (Grow.keeps n hk hz tk) (.int _ _)
theorem c_hex (i : Int) (hz : (baseText "0x" 16 i).length ≤ sizeLine) : Call1 prog w A "hex" [.int i] (.str (baseText "0x" 16 i)) := fun s H _ n rs Q E k => by
  cases rs with
  | cons r rn => cases rn; cases r; exact P.hex_of_int (k _ _ H (.tok n _) (.str _ _)) hz
end
end Mine

namespace Mine

section
variable {prog : Program} {w : World} {A : Around} {env : Env} {mu : List Addr} {s : Shared} {H : Mp} {ρ ρ' : List (Str × D)} {K : Frag} {Q : Flow → Shared → Prop} {E : Value → Shared → Prop} {rest : List Stmt}

theorem x_ret {e : Expr} {pos : Pos} {d : D} (n : Now s H) (he : Ev prog w A env s H e d) (k : ∀ v s' H', Grow s H s' H' → Rel H' v d → Q (.ret v) s') : wpAny (model prog w) A (execs (.Return (some e) pos :: rest) env) Q E s :=
  wpAny_execs_cons (wpAny_Return_some (he s H (.refl n) _ _ fun v s' H' g r => k v s' H' g r))

theorem new_name {x : Str} {d : D} {ns : List Str} (hn : ρ.map (·.1) = ns) (hc : ns.contains x = false) : ∀ p ∈ (x, d) :: ρ, p = (x, d) ∨ (p ∈ ρ ∧ p.1 ≠ x) := fun p hp => by
  rcases List.mem_cons.mp hp with q | q
  · exact .inl q
  · refine .inr ⟨q, fun z => ?_⟩
    have : x ∈ ns := by rw [← hn, ← z]; exact List.mem_map_of_mem q
    rw [List.contains_iff_mem.mpr this] at hc; cases hc

/-- x = e, x a local name -/
theorem x_set {x : Str} {px pos : Pos} {e : Expr} {d : D} (S : St env mu s H ρ) (hf : env.scope.kind = .function) (hk : env.kindOf x = some .local) (he : Ev prog w A env s H e d) (hρ : ∀ p ∈ ρ', p = (x, d) ∨ (p ∈ ρ ∧ p.1 ≠ x))
    (hsw : swapsWith e (some (.Name x px)) pos.line env = pure false) (next : ∀ s' H', St env mu s' H' ρ' → Step mu s H s' H' → wpAny (model prog w) A (execs rest env) Q E s') :
    wpAny (model prog w) A (execs (.Assign [.Name x px] e pos :: rest) env) Q E s :=
  wpAny_execs_cons (wpAny_Assign_Name (he s H (.refl S.now) _ _ fun v s₁ H₁ g r => st_loc (S.grow g) hk hf r hρ fun s' S' st => next s' H₁ S' ((Step.of g).trans (st.more fun a ha => by rw [List.mem_singleton.mp ha]; exact S.loc))) hsw)
/-- x = e, x a cell of the block's own -/
theorem x_setc {x : Str} {px pos : Pos} {e : Expr} {d : D} {c : Addr} (S : St env mu s H ρ) (hf : env.scope.kind = .function) (hk : env.kindOf x = some .cell) (hc : env.cells.lookup x = some c) (hcm : c ∈ mu) (hap : ∀ p ∈ env.cells, p.2 = c → p.1 = x)
    (he : Ev prog w A env s H e d) (hρ : ∀ p ∈ ρ', p = (x, d) ∨ (p ∈ ρ ∧ p.1 ≠ x))
    (hsw : swapsWith e (some (.Name x px)) pos.line env = pure false) (next : ∀ s' H', St env mu s' H' ρ' → Step mu s H s' H' → wpAny (model prog w) A (execs rest env) Q E s') :
    wpAny (model prog w) A (execs (.Assign [.Name x px] e pos :: rest) env) Q E s :=
  wpAny_execs_cons (wpAny_Assign_Name (he s H (.refl S.now) _ _ fun v s₁ H₁ g r => st_cell (S.grow g) hk hf r hc hcm hap hρ fun s' S' st => next s' H₁ S' ((Step.of g).trans (st.more fun a ha => by rw [List.mem_singleton.mp ha]; exact hcm))) hsw)

/-- x = [.. for ..], x a local name -/
theorem x_setl {x : Str} {px pos spos : Pos} {elt : Expr} {gens : List Comprehension} {scope : Scope} {out : List D} (S : St env mu s H ρ) (hf : env.scope.kind = .function) (hk : env.kindOf x = some .local)
    (hc : EvC prog w A env s H elt gens scope pos out) (hρ : ∀ p ∈ ρ', p = (x, .list out) ∨ (p ∈ ρ ∧ p.1 ≠ x)) (hsw : swapsWith (.ListComp elt gens scope pos) (some (.Name x px)) spos.line env = pure true)
    (next : ∀ s' H', St env mu s' H' ρ' → Step mu s H s' H' → wpAny (model prog w) A (execs rest env) Q E s') (ha : firstAsync gens = false := by rfl) :
    wpAny (model prog w) A (execs (.Assign [.Name x px] (.ListComp elt gens scope pos) spos :: rest) env) Q E s := by
  refine wpAny_execs_cons ?_
  rw [exec_Assign_Name_used _ _ _ _ hsw]
  refine wpAny_bind (wpAny_standAt (wpAny_bind ?_))
  show wpAny _ A (do let _ ← comprehension (.ListComp elt gens scope pos) scope env _ (newList []) (firstAsync gens) (firstIter gens env) (some (assign (.Name x px) env))) _ _ s
  rw [ha]
  refine wpAny_bind (hc s H (.refl S.now) _ (some (assign (.Name x px) env)) _ _ fun C Dl vs n s₅ H₅ g hC hD hDC hHC hHD e rs hns => ?_)
  have g' : Grow s H s₅ (put H₅ Dl (lstO vs n)) := by
    have q := g.settle hC hD hDC hHC hHD e (Heap.SameBut.refl C s₅.heap)
    exact q
  have S₅ := S.grow g'
  obtain ⟨m, hm⟩ := hns
  refine wpAny_assign_Name (st_loc (ρ' := ρ') S₅ hk hf (.list put_same (rs.mono (put_sub' hHD))) hρ fun s₆ S₆ st => ?_)
  have hLC : env.locals ≠ C := fun q => by have := (S.out _ S.loc).2; rw [q] at this; exact Nat.not_lt.mpr hC this
  refine ⟨m, hm.at' fun o e => st.keep _ o (by simpa using fun z => hLC z.symm) e, fun h' hs => wpAny_pure (wpAny_pure ?_)⟩
  have hCn : (put H₅ Dl (lstO vs n)) C = none := by unfold put; rw [if_neg (Ne.symm hDC)]; exact hHC
  have gC : Step [C] s₆ (put H₅ Dl (lstO vs n)) { s₆ with heap := h' } (put H₅ Dl (lstO vs n)) :=
    ⟨⟨_, _, rfl⟩, fun b o nb e => hs.extBut b o (by simpa using nb) e, Nat.le_of_eq hs.1.symm, fun _ _ e => e, fun a o e => hs.extBut a o (fun z => by rw [z, hCn] at e; cases e) (st.now a o e), fun _ _ e => .inl e⟩
  have st' : Step mu s H s₆ (put H₅ Dl (lstO vs n)) := (Step.of g').trans (st.more fun a ha => by rw [List.mem_singleton.mp ha]; exact S.loc)
  refine next _ _ (S₆.step gC (fun a ha z => ?_) fun a ha p hp z => ?_) (gC.back st' fun a ha => .inr (by rw [List.mem_singleton.mp ha]; exact hC))
  · rw [List.mem_singleton.mp ha] at z; exact Nat.not_lt.mpr hC (S.out _ z).2
  · obtain ⟨v, o, e, _⟩ := S.cells p hp
    rw [List.mem_singleton.mp ha] at z; exact Nat.not_lt.mpr hC (z ▸ Heap.lt_size e)

/-- what is behind a statement -/
abbrev Then (prog : Program) (w : World) (A : Around) (env : Env) (rest : List Stmt) (Q : Flow → Shared → Prop) (E : Value → Shared → Prop) : Flow → Shared → Prop :=
  fun f s' => match f with
    | .next => wpAny (model prog w) A (execs rest env) Q E s'
    | f => Q f s'

theorem x_if {test : Expr} {body orelse : List Stmt} {pos : Pos} {b : Bool} (n : Now s H) (ht : EvT prog w A env s H test b)
    (h1 : b = true → ∀ s' H', Grow s H s' H' → wpAny (model prog w) A (execs body env) (Then prog w A env rest Q E) E s') (h2 : b = false → ∀ s' H', Grow s H s' H' → wpAny (model prog w) A (execs orelse env) (Then prog w A env rest Q E) E s') :
    wpAny (model prog w) A (execs (.If test body orelse pos :: rest) env) Q E s :=
  wpAny_execs_cons (wpAny_If (ht s H (.refl n) _ _ fun s' H' g => by
    cases b with
    | true => rw [if_pos rfl]; exact wpAny_mono (h1 rfl s' H' g) (fun f s'' h => by cases f <;> exact h) fun _ _ x => x
    | false => rw [if_neg (by decide)]; exact wpAny_mono (h2 rfl s' H' g) (fun f s'' h => by cases f <;> exact h) fun _ _ x => x))
theorem x_nil (h : Q .next s) : wpAny (model prog w) A (execs [] env) Q E s := wpAny_execs_nil h

/-- lists that may turn -/
abbrev Lms (ml : List (Addr × List D)) (s : Shared) (H : Mp) : Prop := ∀ p ∈ ml, Lm p.1 p.2 s H

/-- for x in xs: .. -/
theorem x_for {α : Type} {c : α → D} {xs : List α} {target iter : Expr} {body orelse : List Stmt} {pos : Pos} (r : Nat → List (Str × D)) (r' : Nat → α → List (Str × D)) (ml : Nat → List (Addr × List D)) (hh : A.handled = none)
    (S : St env mu s H (r 0)) (L : Lms (ml 0) s H) (hml : ∀ i, ∀ p ∈ ml i, p.1 ∈ mu) (hit : EvIt prog w A env s H iter (xs.map c))
    (hb : ∀ i a, xs[i]? = some a → Binds prog w A env mu (r i) target (c a) (r' i a))
    {Qb : Shared → Mp → Prop} {Qr : Value → Shared → Mp → Prop}
    (turn : ∀ i a s₁ H₁, xs[i]? = some a → (∀ b o, H b = some o → H₁ b = some o) → St env mu s₁ H₁ (r' i a) → Lms (ml i) s₁ H₁ → ∀ E', wpAny (model prog w) A (execs body env) (fun f s₂ => match f with
      | .next | .cont => ∃ H₂, Step mu s₁ H₁ s₂ H₂ ∧ St env mu s₂ H₂ (r (i + 1)) ∧ Lms (ml (i + 1)) s₂ H₂
      | .brk => ∃ H₂, Step mu s₁ H₁ s₂ H₂ ∧ Qb s₂ H₂
      | .ret v => ∃ H₂, Step mu s₁ H₁ s₂ H₂ ∧ Qr v s₂ H₂) E' s₁)
    (done : ∀ s₁ H₁, Step mu s H s₁ H₁ → St env mu s₁ H₁ (r xs.length) → Lms (ml xs.length) s₁ H₁ → ∀ E', wpAny (model prog w) A (execs orelse env) (Then prog w A env rest Q E) E' s₁)
    (brk : ∀ s₁ H₁, Step mu s H s₁ H₁ → Qb s₁ H₁ → wpAny (model prog w) A (execs rest env) Q E s₁)
    (ret : ∀ v s₁ H₁, Step mu s H s₁ H₁ → Qr v s₁ H₁ → Q (.ret v) s₁)
    (hs : ∀ x, foldedSetIterable iter env x = pure x := by intro _; rfl) :
    wpAny (model prog w) A (execs (.For target iter body orelse pos :: rest) env) Q E s := by
  refine wpAny_execs_cons (wpAny_For (hit s H (.refl S.now) _ _ fun I s₀ H₀ g₀ hI src => ?_) hs)
  obtain ⟨fp, P, W, wk, hst, hfp, hHI, hIl, hP, hW⟩ := src
  rw [List.length_map] at wk
  have hImu : I ∉ mu := fun q => Nat.not_lt.mpr hI (S.out _ q).2
  have hIc : ∀ p ∈ env.cells, p.2 ≠ I := fun p hp q => by
    obtain ⟨v, o, e, _⟩ := S.cells p hp
    exact Nat.not_lt.mpr hI (q ▸ Heap.lt_size e)
  have hone : ∀ a ∈ [I], a ∈ I :: mu := fun a ha => by rw [List.mem_singleton.mp ha]; exact .head _
  have hback : ∀ s' H', Step (I :: mu) s₀ H₀ s' H' → Step mu s H s' H' := fun s' H' g => g.back (Step.of g₀) fun a ha => by
    rcases List.mem_cons.mp ha with q | q
    · exact .inr (q ▸ hI)
    · exact .inl q
  refine codeAny_forLoop_any (fun n s' => ∃ i H', i ≤ xs.length ∧ n = xs.length + 1 - i ∧ Step (I :: mu) s₀ H₀ s' H' ∧ St env mu s' H' (r i) ∧ Lms (ml i) s' H' ∧ W i s'.heap ∧ H' I = none) ?_ (xs.length + 1)
    ⟨0, H₀, Nat.zero_le _, rfl, .refl g₀.now, S.grow g₀, fun p hp => (L p hp).grow g₀, hst, hHI⟩
  rintro n s' ⟨i, H', hi, rfl, g, S', L', hst', hHI'⟩
  have hIl' : I < s'.heap.objs.size := Nat.lt_of_lt_of_le hIl g.size
  refine with_size ?_
  have turned : ∀ (h' : Heap) (tk : Nat), (∀ b ob, b ∉ [I] → s'.heap.get? b = some ob → h'.get? b = some ob) → s'.heap.objs.size ≤ h'.objs.size → Step [I] s' H' { s' with heap := h', toks := tk } H' := fun h' tk hk hl =>
    ⟨⟨_, _, rfl⟩, hk, hl, fun _ _ e => e, fun a ob e => hk a ob (fun q => by rw [List.mem_singleton.mp q, hHI'] at e; cases e) (S'.now a ob e), fun _ _ e => .inl e⟩
  have hcell : ∀ a ∈ [I], ∀ p ∈ env.cells, p.2 ≠ a := fun a ha p hp => by rw [List.mem_singleton.mp ha]; exact hIc p hp
  have hmu1 : ∀ a ∈ [I], a ∉ mu := fun a ha => by rw [List.mem_singleton.mp ha]; exact hImu
  have hLs : ∀ {s₁ : Shared} {H₁ : Mp} {i : Nat}, Lms (ml i) s' H' → Step [I] s' H' s₁ H₁ → Lms (ml i) s₁ H₁ := fun L g p hp => (L p hp).step g (by rw [List.mem_singleton]; intro q; exact hImu (q ▸ hml _ p hp))
  by_cases hlt : i < xs.length
  · refine wk.item i s' _ _ hlt hst' fun v h₁ tk₁ hPv hst₁ hk₁ hz => ?_
    obtain ⟨d', hd', hr⟩ := hP i v hPv
    rw [List.getElem?_map] at hd'
    obtain ⟨a, ha, rfl⟩ := Option.map_eq_some_iff.mp hd'
    have g₁ := turned h₁ tk₁ (fun b ob hb e => hk₁ b ob hb e) hz
    have S₁ := S'.step g₁ hmu1 hcell
    have L₁ := hLs L' g₁
    refine hb i a ha I v _ H' S₁ (hW _ _ hst₁) (hr H' g.sub) (fun s₂ => wpAny (model prog w) A (execs body env) _ _ s₂) _ fun s₂ H₂ g₂ S₂ hL₂ => ?_
    refine wpAny_mono (turn i a s₂ H₂ ha (fun b o e => g₂.sub b o (g.sub b o (g₀.sub b o e))) S₂ (fun p hp => hL₂ _ _ (L₁ p hp)) _) (fun f s₃ h₃ => ?_) fun _ _ x => x
    have up : ∀ H₃, Step mu s₂ H₂ s₃ H₃ → Step (I :: mu) s₀ H₀ s₃ H₃ := fun H₃ g₃ => g.trans ((g₁.more hone).trans ((g₂.trans g₃).more fun a ha => .tail _ ha))
    have hnext : (∃ H₃, Step mu s₂ H₂ s₃ H₃ ∧ St env mu s₃ H₃ (r (i + 1)) ∧ Lms (ml (i + 1)) s₃ H₃) → ∃ m, m < xs.length + 1 - i ∧ ∃ i H', i ≤ xs.length ∧ m = xs.length + 1 - i ∧ Step (I :: mu) s₀ H₀ s₃ H' ∧ St env mu s₃ H' (r i) ∧ Lms (ml i) s₃ H' ∧ W i s₃.heap ∧ H' I = none := by
      rintro ⟨H₃, g₃, S₃, L₃⟩
      refine ⟨xs.length + 1 - (i + 1), by omega, i + 1, H₃, hlt, rfl, up H₃ g₃, S₃, L₃, ?_, ?_⟩
      · refine wk.frame _ _ _ hst₁ fun b hb' ob e => ?_
        rcases hfp b hb' with q | ⟨o', ho'⟩
        · rw [q] at e ⊢; exact g₃.keep _ _ hImu (g₂.keep _ _ hImu e)
        · have e1 := g₂.sub b o' (g.sub b o' ho')
          have e2 := S₁.now b o' (g.sub b o' ho')
          rw [e2] at e; cases e
          exact g₃.now b _ (g₃.sub _ _ e1)
      · cases q : H₃ I with
        | none => rfl
        | some ob => exact ((g₂.trans g₃).fresh I ob q).elim (fun e => by rw [hHI'] at e; cases e) fun e => absurd hIl' (Nat.not_lt.mpr (Nat.le_trans g₁.size e))
    cases f with
    | next => exact hnext h₃
    | cont => exact hnext h₃
    | brk => obtain ⟨H₃, g₃, q⟩ := h₃; exact brk s₃ H₃ (hback _ _ (up H₃ g₃)) q
    | ret v => obtain ⟨H₃, g₃, q⟩ := h₃; exact ret v s₃ H₃ (hback _ _ (up H₃ g₃)) q
  · have hin : i = xs.length := by omega
    subst hin
    refine wk.done s' _ _ hst' fun h₁ tk₁ hk₁ hz => ?_
    have g₁ := turned h₁ tk₁ (fun b ob hb e => hk₁ b ob hb e) hz
    refine wpAny_mono (done _ H' (hback _ _ (g.trans (g₁.more hone))) (S'.step g₁ hmu1 hcell) (hLs L' g₁) _) (fun f s₂ h => ?_) fun _ _ x => x
    cases f <;> exact h
end
end Mine

namespace Mine

theorem Rels.strs {H : Mp} : ∀ {vs : List Value} {l : List Str}, Rels H vs (l.map D.str) → StrsAre vs l
  | _, [], .nil => .nil
  | _, _ :: _, .cons (.str x t) r => .cons x t (Rels.strs r)
theorem rels_of_strs {H : Mp} : ∀ (l : List (Str × Tok)), Rels H (strValues l) ((l.map (·.1)).map D.str)
  | [] => .nil
  | (x, t) :: r => .cons (.str x t) (rels_of_strs r)

section
variable {prog : Program} {w : World} {A : Around} {env : Env} {mu : List Addr} {s : Shared} {H : Mp} {ρ ρ' : List (Str × D)} {K : Frag}

/-- a value of this shape is of this built-in type -/
def TyOf (K : Frag) (d : D) (T : String) : Prop := ∀ (s : Shared) (H : Mp) (v : Value), Now s H → Wd K H → Rel H v d → s.TypeIs v T ∧ ∀ a, v = .ref a → ∃ ob, s.heap.get? a = some ob ∧ ob.dict = none
theorem ty_str {x : Str} : TyOf K (.str x) "str" := fun s H v n W r => by cases r; exact ⟨typeIs_str _ _ _, fun a e => by cases e⟩
theorem ty_list {l : List D} : TyOf K (.list l) "list" := fun s H v n W r => by
  cases r with
  | list h r => exact ⟨⟨_, n _ _ h, rfl⟩, fun a e => by cases e; exact ⟨_, n _ _ h, rfl⟩⟩

theorem ev_method {o : Expr} {name : Str} {apos pos : Pos} {e : Expr} {es : List Expr} {d₀ d : D} {ds : List D} {T id : String} (W : Wd K H) (ho : Ev prog w A env s H o d₀) (hT : TyOf K d₀ T) (pa : PlainAttrs T) (slot : Slot T name id) (hty : typeOf (.builtin id) = pure (.type "method_descriptor"))
    (ha : EvL prog w A env s H (e :: es) ds) (C : Call1 prog w A id (d₀ :: ds) d) (hbase : attributeBase o name env (eval o env) = eval o env)
    (hfew : ((backTo pos (starEach (e :: es) env)).all (fun x => !x.1) && (backToKw pos (keywordEach [] env)).all (fun x => x.1.isSome) && decide ((e :: es).length + ([] : List Keyword).length + (if ([] : List Keyword).isEmpty then 0 else 1) < 30)) = true := by rfl)
    (hline : (apos.endLine == pos.line) = true := by rfl) (hst : starEach (e :: es) env = (false, eval e env) :: starEach es env := by rfl) (hpl : (backTo pos (starEach es env)).any (·.1) = false := by rfl) :
    Ev prog w A env s H (.Call (.Attribute o name apos) (e :: es) [] pos) d := fun s₁ H₁ g Q E k =>
  wpAny_Call_method hbase hfew hline pa slot hty (ho s₁ H₁ g _ _ fun v s₂ H₂ g₂ r =>
    let ⟨t1, t2⟩ := hT s₂ H₂ v g₂.now (W.mono fun a o e => g₂.sub a o (g.sub a o e)) r
    ⟨t1, t2, callWith_method1 (ha s₂ H₂ (g.trans g₂) pos _ _ fun vs s₃ H₃ g₃ rs => C s₃ H₃ (v :: vs) g₃.now (.cons (r.mono g₃.sub) rs) _ _ fun v' s' H' g' r' => k v' s' H' ((g₂.trans g₃).trans g') r') hst hpl⟩)

/-- xs.index(x), x a text among texts, at place j for the first time -/
theorem c_index {ws : List Str} {x : Str} {j : Nat} (hj : ws[j]? = some x) (hb : ∀ m, m < j → ws[m]? ≠ some x) (hz : j < 2 ^ 62) : Call1 prog w A "list.index" [.list (ws.map .str), .str x] (.int j) := fun s H _ n rs Q E k => by
  cases rs with
  | cons r rs => cases rs with
    | cons r' rn =>
      cases rn
      cases r' with
      | str _ u =>
        cases r with
        | @list l vs i _ h r =>
          have hs := r.strs
          have hat : ∀ m (hm : m < vs.toArray.size), ∃ y t, vs.toArray[m] = .str y t ∧ ws[m]? = some y := fun m hm => by
            have hm' : m < vs.length := by simpa using hm
            obtain ⟨d, e, rr⟩ := r.get' m (v := vs[m]) (by simp [hm'])
            rw [List.getElem?_map] at e
            obtain ⟨y, hy, rfl⟩ := Option.map_eq_some_iff.mp e
            have : ∃ t, vs[m] = .str y t := by
              generalize vs[m] = v at rr
              cases rr; exact ⟨_, rfl⟩
            obtain ⟨t, ht⟩ := this
            exact ⟨y, t, by simpa using ht, hy⟩
          have hlt : j < vs.toArray.size := by
            have := (List.getElem?_eq_some_iff.mp hj).1
            have e := r.length
            simp only [List.length_map] at e
            simpa [e] using this
          let ef : Value → Bool := fun v => match v with | .str y _ => y.cps.toList == x.cps.toList | _ => false
          have hne : ∀ y : Str, (y.cps.toList == x.cps.toList) = decide (y = x) := fun y => by
            by_cases q : y = x
            · subst q; simp
            · have : ¬ y.cps.toList = x.cps.toList := fun z => q (Str.ext' (Array.toList_inj.mp z))
              rw [decide_eq_false q, beq_eq_false_iff_ne]; exact this
          have hjz : (j : Int) < 2 ^ 63 - 1 := by have : (j : Int) < 2 ^ 62 := by exact_mod_cast hz
                                                  omega
          have hTy : s.TypeIs (.ref l) "list" := ⟨_, n _ _ h, rfl⟩
          refine call_meets PySem.F.slot_list_index hTy PySem.F.entry_list_index (PySem.F.args_list_index_2 _ _) (MeetsSeq.list_index l vs.toArray i (.str x u) ef (fun y hy => ?_) j hlt hjz ?_ fun m hm hmj => ?_) ⟨n _ _ h, ?_⟩
          · obtain ⟨m, hm, rfl⟩ := Array.mem_iff_getElem.mp hy
            obtain ⟨y, t, e, _⟩ := hat m hm
            rw [e]; exact SeqRoads2.EqGives.str y x t u
          · obtain ⟨y, t, e, hy⟩ := hat j hlt
            rw [e]; rw [hj] at hy; cases hy; simp [ef]
          · obtain ⟨y, t, e, hy⟩ := hat m hm
            rw [e]
            show (y.cps.toList == x.cps.toList) = false
            rw [hne, decide_eq_false_iff_not]
            rintro rfl
            exact hb m hmj hy
          · exact k _ _ H (.tok n _) (.int _ _)

/-- x.split(y) -/
theorem c_split (x y : Str) (hy : (y.length == 0) = false) (hsz : x.length + 2 ≤ sizeLine) : Call1 prog w A "str.split" [.str x, .str y] (.list ((Txt.split x y).map .str)) := fun s H _ n rs Q E k => by
  cases rs with
  | cons r rs => cases rs with
    | cons r' rn =>
      cases rn
      cases r with
      | str _ t => cases r' with
        | str _ u =>
          have fin : ∀ (l : List (Str × Tok)) (tk : Nat), l.map (·.1) = Txt.split x y → Q (.ref s.heap.objs.size) { s with heap := s.heap.push (lstO (strValues l) 0), toks := tk } := fun l tk e => by
            have gp := (Grow.push n (lstO (strValues l) 0)).trans (Grow.tok (Grow.push n (lstO (strValues l) 0)).now tk)
            exact k _ _ _ gp (.list put_same (by rw [← e]; exact rels_of_strs l))
          have hn : (Builtin.Str.partsBetween x (Builtin.Str.occurrences x y 0 x.length (x.length + 1)) y.length).length ≤ sizeLine := by
            have e1 := StrLaws.occ_length_le x y 0 x.length (x.length + 1)
            rw [length_partsBetween]; omega
          have hsp : Txt.split x y = if (decide (x.length < y.length) || decide (Builtin.Str.strKind x < Builtin.Str.strKind y)) = true then [x] else
              if (Builtin.Str.occurrences x y 0 x.length (x.length + 1)).isEmpty = true then [x] else Builtin.Str.partsBetween x (Builtin.Str.occurrences x y 0 x.length (x.length + 1)) y.length := rfl
          by_cases h1 : (decide (x.length < y.length) || decide (Builtin.Str.strKind x < Builtin.Str.strKind y)) = true
          · rw [if_pos h1] at hsp
            exact call_meets PySem.F.slot_str_split (typeIs_str _ _ _) PySem.F.entry_str_split (PySem.F.args_str_split_2 _ _) (meets_str_split_cannot_occur x y t u h1) (fin [(x, t)] s.toks hsp.symm)
          · rw [if_neg h1] at hsp
            rw [Bool.not_eq_true] at h1
            by_cases h2 : (Builtin.Str.occurrences x y 0 x.length (x.length + 1)).isEmpty = true
            · rw [if_pos h2] at hsp
              exact call_meets PySem.F.slot_str_split (typeIs_str _ _ _) PySem.F.entry_str_split (PySem.F.args_str_split_2 _ _) (meets_str_split_not_found x y t u h1 hy h2) (fin [(x, t)] s.toks hsp.symm)
            · rw [if_neg h2] at hsp
              rw [Bool.not_eq_true] at h2
              refine call_meets PySem.F.slot_str_split (typeIs_str _ _ _) PySem.F.entry_str_split (PySem.F.args_str_split_2 _ _) (meets_str_split_sep x y t u h1 hy h2 (by omega) hn) ?_
              have := fin (numbered s.toks (Builtin.Str.partsBetween x (Builtin.Str.occurrences x y 0 x.length (x.length + 1)) y.length)) (s.toks + (Builtin.Str.partsBetween x (Builtin.Str.occurrences x y 0 x.length (x.length + 1)) y.length).length) (by rw [numbered_texts, hsp])
              rw [← strsFrom_eq] at this
              exact this

/-- x.join(l) -/
theorem c_join (x : Str) (l : List Str) (hz : (l.map (·.length)).sum + l.length * x.length ≤ 16777216) : Call1 prog w A "str.join" [.str x, .list (l.map .str)] (.str (Txt.join x l)) := fun s H _ n rs Q E k => by
  cases rs with
  | cons r rs => cases rs with
    | cons r' rn =>
      cases rn
      cases r with
      | str _ t => cases r' with
        | list h r' => exact join_list (n.isList h) (by simpa using r'.strs) hz fun t' tk => k _ _ H (.tok n _) (.str _ _)

/-- len(x) -/
theorem c_lens (x : Str) (hz : x.length < 2 ^ 62) : Call1 prog w A "len" [.str x] (.int x.length) := fun s H _ n rs Q E k => by
  cases rs with
  | cons r rn =>
    cases rn; cases r
    exact P.len_str (by have : (x.length : Int) < 2 ^ 62 := by exact_mod_cast hz
                        omega) (k _ _ H (.tok n _) (.int _ _))

theorem ev_sitem {value slice : Expr} {pos : Pos} {x : Str} {i : Nat} {c : Nat} (hv : Ev prog w A env s H value (.str x)) (hi : Ev prog w A env s H slice (.int i)) (hd : x.cps[i]? = some c) (hb : i < 2 ^ 62)
    (hs : ∀ (x : Str) (t : Tok) (j : Int) (u : Tok), subscripted slice false (.str x t) (.int j u) = operate [.str x t, .int j u] (getItem (.str x t) (.int j u)) := by intro _ _ _ _; with_unfolding_all rfl) : Ev prog w A env s H (.Subscript value slice pos) (.str ⟨#[c]⟩) := fun s₁ H₁ g Q E k =>
  Subscript_ (hv s₁ H₁ g _ _ fun v s₂ H₂ g₂ r => hi s₂ H₂ (g.trans g₂) _ _ fun v' s₃ H₃ g₃ r' => by
    cases r' with
    | int _ u =>
      cases r with
      | str _ t =>
        have hlt : i < x.cps.size := (Array.getElem?_eq_some_iff.mp hd).1
        refine tail_any (typeIs_str _ _ _) PySem.F.slot_str_getitem.lookup (P.getItem_str (c := c) ?_ ?_ (k _ _ H₃ ((g₂.trans g₃).trans (.tok g₃.now _)) (.str _ _))) (hs _ _ _ _)
        · have : (i : Int) < 2 ^ 62 := by exact_mod_cast hb
          simp; omega
        · have hq : seqIndex? (i : Int) x.length = some i := by
            have hl : x.length = x.cps.size := rfl
            have h0 : ¬ ((i : Int) < 0) := by omega
            simp only [seqIndex?, if_neg h0, hl]
            rw [if_pos]
            · simp
            · simp [hlt]
          rw [hq]; exact hd)

theorem ev_slice {value : Expr} {a b : Int} {k₁ k₂ : Nat} {p₁ p₂ p pos : Pos} {x : Str} (hv : Ev prog w A env s H value (.str x)) (hz : x.length ≤ sizeLine) (ht : ∀ o r, letTemporaryGo value o r = pure () := by intro _ _; rfl) :
    Ev prog w A env s H (.Subscript value (.Slice (some (.Constant (.int a) k₁ p₁)) (some (.Constant (.int b) k₂ p₂)) none p) pos) (.str (Txt.slice x (some a) (some b))) := fun s₁ H₁ g Q E k => by
  refine Subscript_Slice (hv s₁ H₁ g _ _ fun v s₂ H₂ g₂ r => ?_) ht
  cases r with
  | str _ t =>
    refine wpAny_Slice (wpAny_evalPart_some (wpAny_Constant_int (wpAny_evalPart_some (wpAny_Constant_int (wpAny_evalPart_none ?_)))))
    refine SBH.sliceItem_ss (s := { s₂ with toks := s₂.toks + 1 + 1 }) (P := fun h => (∀ b o, s₂.heap.get? b = some o → h.get? b = some o) ∧ s₂.heap.objs.size ≤ h.objs.size) (fun h ob P => ⟨fun b o e => Heap.get?_push_of_some _ (P.1 b o e), by rw [Heap.size_push]; exact Nat.le_succ_of_le P.2⟩) ⟨fun _ _ e => e, Nat.le_refl _⟩
      (fun h' t' tk P => k _ _ H₂ (g₂.trans (Grow.keeps g₂.now P.1 P.2 tk)) (.str _ _)) hz
theorem ev_slice0 {value : Expr} {b : Int} {k₂ : Nat} {p₂ p pos : Pos} {x : Str} (hv : Ev prog w A env s H value (.str x)) (hz : x.length ≤ sizeLine) (ht : ∀ o r, letTemporaryGo value o r = pure () := by intro _ _; rfl) :
    Ev prog w A env s H (.Subscript value (.Slice none (some (.Constant (.int b) k₂ p₂)) none p) pos) (.str (Txt.slice x none (some b))) := fun s₁ H₁ g Q E k => by
  refine Subscript_Slice (hv s₁ H₁ g _ _ fun v s₂ H₂ g₂ r => ?_) ht
  cases r with
  | str _ t =>
    refine wpAny_Slice (wpAny_evalPart_none (wpAny_evalPart_some (wpAny_Constant_int (wpAny_evalPart_none ?_))))
    refine SBH.sliceItem_ns (s := { s₂ with toks := s₂.toks + 1 }) (P := fun h => (∀ b o, s₂.heap.get? b = some o → h.get? b = some o) ∧ s₂.heap.objs.size ≤ h.objs.size) (fun h ob P => ⟨fun b o e => Heap.get?_push_of_some _ (P.1 b o e), by rw [Heap.size_push]; exact Nat.le_succ_of_le P.2⟩) ⟨fun _ _ e => e, Nat.le_refl _⟩
      (fun h' t' tk P => k _ _ H₂ (g₂.trans (Grow.keeps g₂.now P.1 P.2 tk)) (.str _ _)) hz

/-- e with a token drawn before -/
def EvP (prog : Program) (w : World) (A : Around) (env : Env) (s : Shared) (H : Mp) (e : Expr) (d : D) : Prop := ∀ s₁ H₁, Grow s H s₁ H₁ → 0 < s₁.toks → ∀ (Q : Value → Shared → Prop) (E : Value → Shared → Prop),
  (∀ v s' H', Grow s₁ H₁ s' H' → Rel H' v d → Q v s') → wpAny (model prog w) A (eval e env) Q E s₁
theorem ev_addc {a : Str} {k₀ : Nat} {p₀ pos : Pos} {r : Expr} {b : Str} (hr : EvP prog w A env s H r (.str b)) (hz : a.length + b.length ≤ sizeLine) : Ev prog w A env s H (.BinOp (.Constant (.str a) k₀ p₀) .Add r pos) (.str (a ++ b)) := fun s₁ H₁ g Q E k => by
  refine wpAny_BinOp (wpAny_Constant_str ?_)
  have gt : Grow s₁ H₁ { s₁ with toks := s₁.toks + 1 } H₁ := .tok g.now _
  exact hr _ H₁ (g.trans gt) (Nat.succ_pos _) _ _ fun v s₃ H₃ g₃ rb => o_adds a b hz s₃ H₃ _ _ g₃.now (.str a s₁.toks) rb _ _ fun v s' H' g' r' => k v s' H' ((gt.trans g₃).trans g') r'
theorem evp_replace {o : Expr} {x y z : Str} {k₁ k₂ : Nat} {p₁ p₂ apos pos : Pos} (W : Wd K H) (ho : Ev prog w A env s H o (.str x)) (hbase : attributeBase o "replace" env (eval o env) = eval o env) (hyz : (y == z) = false) (hz : x.length + (x.length + 1) * z.length ≤ 16777216)
    (hline : (apos.endLine == pos.line) = true := by rfl) : EvP prog w A env s H (.Call (.Attribute o "replace" apos) [.Constant (.str y) k₁ p₁, .Constant (.str z) k₂ p₂] [] pos) (.str (Txt.replace x y z)) := fun s₁ H₁ g ht Q E k => by
  refine wpAny_Call_method hbase rfl hline PySem.F.plainAttrs_str PySem.F.slot_str_replace PySem.F.type_str_replace (wpAny_with_toks (n := 1) ht (ho s₁ H₁ g _ _ fun v s₂ H₂ g₂ r => fun ht₂ => ?_))
  cases r with
  | str _ t =>
    refine ⟨typeIs_str _ _ _, fun a e => (by cases e), callWith_method1 (args_cons (wpAny_Constant_str (args_cons (wpAny_Constant_str (args_nil ?_)))))⟩
    exact SC.replace (Nat.ne_of_gt ht₂) (Nat.succ_ne_zero _) (Nat.ne_of_lt (Nat.lt_succ_self _)) hyz hz fun t' tk => k _ _ H₂ (g₂.trans (.tok g₂.now tk)) (.str _ _)
end
end Mine

namespace Mine

section
variable {prog : Program} {w : World} {A : Around} {env : Env} {mu : List Addr} {s : Shared} {H : Mp} {ρ ρ' : List (Str × D)} {K : Frag} {Q : Flow → Shared → Prop} {E : Value → Shared → Prop} {rest : List Stmt}

theorem iadd_fill : fillsInplaceSlot (.type "list") "add" (Operator.Add == .Add) = pure false := by
  unfold fillsInplaceSlot
  show (typeLookup (.type "list") (dunderI "add") >>= fun fi => pure (fi.isSome && !isSeqSlot fi)) = pure false
  rw [PySem.F.slot_list_iadd.lookup, pure_bind, show isSeqSlot (some (.builtin "list.__iadd__")) = true from by decide +kernel]; rfl
theorem iadd_seq : seqSlot? (.type "list") (dunderI "add") = pure (some (.builtin "list.__iadd__"))   := PySem.seqSlot_of PySem.F.slot_list_iadd.lookup (by decide +kernel)

/-- the object at a alone has turned -/
theorem Step.upd {a : Addr} {h : Heap} (n : Now s H) (ha : H a = none) (hs : Heap.SameBut a s.heap h) (t : Nat) : Step [a] s H { s with heap := h, toks := t } H :=
  ⟨⟨_, _, rfl⟩, fun b o nb e => hs.extBut b o (by simpa using nb) e, Nat.le_of_eq hs.1.symm, fun _ _ e => e, fun b o e => hs.extBut b o (fun z => by rw [z, ha] at e; cases e) (n b o e), fun _ _ e => .inl e⟩
/-- a step at one object that is no name's and no cell -/
theorem St.at {a : Addr} {l : List D} {s' : Shared} (S : St env mu s H ρ) (ha : a ∈ mu) (L : Lm a l s H) (g : Step [a] s H s' H) : St env mu s' H ρ := by
  have hne : ∀ c v, s.heap.IsCell c v → c ∉ [a] := fun c v hc z => L.ne_cell hc (List.mem_singleton.mp z).symm
  have hcell : ∀ p ∈ env.cells, ∀ v, s.heap.IsCell p.2 v → s'.heap.IsCell p.2 v := fun p hp v hv => let ⟨o, e, d⟩ := hv; ⟨o, g.keep _ _ (hne _ _ hv) e, d⟩
  have hL : env.locals ∉ [a] := fun z => by obtain ⟨m, hm⟩ := S.ns; exact L.ne_loc hm (List.mem_singleton.mp z).symm
  refine ⟨g.now, fun p hp => ?_, ?_, out_step g S.out, S.loc, fun p hp => let ⟨v, hv⟩ := S.cells p hp; ⟨v, hcell p hp v hv⟩⟩
  · obtain ⟨v, n, r⟩ := S.sc p hp
    refine ⟨v, ?_, r.mono g.sub⟩
    cases n with
    | loc k hn e => exact .loc k (hn.at' fun o e => g.keep _ o hL e) e
    | cell k hc e => exact .cell k hc (hcell _ (mem_of_lookup hc) _ e)
  · obtain ⟨m, hm⟩ := S.ns
    exact ⟨m, hm.at' fun o e => g.keep _ o hL e⟩

/-- a += b, lists, a one that may turn -/
theorem iadd_list {a : Addr} {l l' : List D} {b : Value} {Q : Value → Shared → Prop} (n : Now s H) (ha : H a = none) (L : Lm a l s H) (rb : Rel H b (.list l')) (hz : l.length + l'.length ≤ 1000000)
    (k : ∀ s', Step [a] s H s' H → Lm a (l ++ l') s' H → Q (.ref a) s') : wpAny (model prog w) A (inplaceOp .Add (.ref a) b) Q E s := by
  obtain ⟨vs, i, e, rs⟩ := id L
  cases rb with
  | @list b vs' j _ hb rb =>
    have ta : s.TypeIs (.ref a) "list" := ⟨_, e, rfl⟩
    have tb : s.TypeIs (.ref b) "list" := ⟨_, n _ _ hb, rfl⟩
    unfold inplaceOp
    refine wpAny_holding (wpAny_bind (wpAny_typeOf ta (wpAny_bind (wpAny_of_eq iadd_fill ?_))))
    show wpAny _ A (if false = true then _ else _) Q E s
    rw [if_neg Bool.false_ne_true]
    refine wpAny_bind (wpAny_binaryOp1_none (nm := "add") ta tb noFill_list_add ?_)
    refine wpAny_bind (wpAny_of_eq iadd_seq ?_)
    refine wpAny_bind (wpAny_rule ?_)
    have h1 : vs.toArray.size = l.length := by simpa using rs.length
    have h2 : vs'.toArray.size = l'.length := by simpa using rb.length
    refine call_meets PySem.F.slot_list_iadd ta PySem.F.entry_list_iadd (PySem.F.args_list_iadd_2 _ _) (AutoSeq1.list___iadd___list_list_0 a vs.toArray i b vs'.toArray j ?_ ?_ ?_) ⟨e, n _ _ hb, ?_⟩
    · have := sizeLine_eq
      rw [h1, h2]
      simp [Builtin.List.listTooLong]; omega
    · have := sizeLine_eq; rw [h1]; omega
    · have := sizeLine_eq; rw [h1, h2]; omega
    · have q := Heap.get?_update_self (Obj.mapSeq fun x => x ++ vs'.toArray) e rfl
      refine k _ (Step.upd n ha (Heap.SameBut.update ..) _) ⟨vs ++ vs', if (vs.toArray ++ vs'.toArray).size == vs.toArray.size then i else i + 1, q.trans ?_, rs.append rb⟩
      simp only [Obj.mapSeq, List.append_toArray]

/-- x = [..], a list that may still turn -/
theorem x_setm {x : Str} {px pos lp : Pos} {es : List Expr} {l : List D} (S : St env mu s H ρ) (hf : env.scope.kind = .function) (hk : env.kindOf x = some .local) (he : EvL prog w A env s H es l) (hz : l.length ≤ sizeLine)
    (hρ : ∀ a, ∀ p ∈ (x, D.ptr a) :: ρ', p = (x, .ptr a) ∨ (p ∈ ρ ∧ p.1 ≠ x)) (hsw : swapsWith (.List es lp) (some (.Name x px)) pos.line env = pure false)
    (next : ∀ a s' H', s.heap.objs.size ≤ a → St env (a :: mu) s' H' ((x, .ptr a) :: ρ') → Lm a l s' H' → Step mu s H s' H' → wpAny (model prog w) A (execs rest env) Q E s') :
    wpAny (model prog w) A (execs (.Assign [.Name x px] (.List es lp) pos :: rest) env) Q E s := by
  refine wpAny_execs_cons (wpAny_Assign_Name (wpAny_List (he s H (.refl S.now) lp _ _ fun vs s₁ H₁ g rs => ⟨by rw [rs.length]; exact hz, ?_⟩)) hsw)
  have gp := Grow.pushed g.now (lstO vs 0)
  have hH : H₁ s₁.heap.objs.size = none := above_none g.now (Nat.le_refl _)
  have e : (s₁.heap.push (lstO vs 0)).get? s₁.heap.objs.size = some (lstO vs 0) := Heap.get?_push_size _ rfl
  have S₁ := S.grow (g.trans gp)
  have L : Lm s₁.heap.objs.size l { s₁ with heap := s₁.heap.push (lstO vs 0) } H₁ := ⟨vs, 0, e, rs⟩
  have S₂ : St env (s₁.heap.objs.size :: mu) { s₁ with heap := s₁.heap.push (lstO vs 0) } H₁ ρ := ⟨S₁.now, S₁.sc, S₁.ns, fun b hb => by
    rcases List.mem_cons.mp hb with q | q
    · rw [q]; exact ⟨hH, Heap.lt_size e⟩
    · exact S₁.out b q, .tail _ S₁.loc, S₁.cells⟩
  refine st_loc S₂ hk hf (.ptr _) (hρ _) fun s₃ S₃ st => next _ s₃ H₁ g.size S₃ (L.step st ?_) ((Step.of (g.trans gp)).trans (st.more fun a ha => by rw [List.mem_singleton.mp ha]; exact S.loc))
  intro z
  obtain ⟨m, hm⟩ := S₂.ns
  exact L.ne_loc hm (List.mem_singleton.mp z)

/-- a list that turns no more is settled -/
theorem St.fix {a : Addr} {l : List D} {s₀ : Shared} {H₀ : Mp} (S : St env (a :: mu) s H ρ) (ha : a ∉ mu) (hL : env.locals ∈ mu) (L : Lm a l s H) (g : Step mu s₀ H₀ s H) (hz : s₀.heap.objs.size ≤ a) :
    ∃ H', Step mu s₀ H₀ s H' ∧ St env mu s H' ρ ∧ Rel H' (.ref a) (.list l) ∧ ∀ b o, H b = some o → H' b = some o := by
  obtain ⟨vs, n, e, rs⟩ := id L
  have hn : H a = none := (S.out a (.head _)).1
  have sub := put_sub' (o := lstO vs n) hn
  have now : Now s (put H a (lstO vs n)) := fun b o q => by
    unfold put at q
    split at q
    · rename_i z; cases q; rw [z]; exact e
    · exact S.now b o q
  refine ⟨put H a (lstO vs n), ⟨g.same, g.keep, g.size, fun b o q => sub b o (g.sub b o q), now, fun b o q => ?_⟩, ⟨now, fun p hp => ?_, S.ns, fun b hb => ⟨?_, (S.out b (.tail _ hb)).2⟩, hL, S.cells⟩, .list put_same (rs.mono sub), sub⟩
  · unfold put at q
    split at q
    · rename_i z; exact .inr (z ▸ hz)
    · exact g.fresh b o q
  · obtain ⟨v, nm, r⟩ := S.sc p hp
    exact ⟨v, nm, r.mono sub⟩
  · unfold put
    rw [if_neg (show ¬ b = a from fun z => ha (z ▸ hb))]; exact (S.out b (.tail _ hb)).1
/-- the name of it then stands for the list -/
theorem St.retype {x : Str} {a : Addr} {d : D} (S : St env mu s H ((x, .ptr a) :: ρ)) (r : Rel H (.ref a) d) : St env mu s H ((x, d) :: ρ) :=
  ⟨S.now, fun p hp => by
    rcases List.mem_cons.mp hp with q | q
    · obtain ⟨v, nm, rr⟩ := S.sc _ (.head _)
      subst q
      cases rr
      exact ⟨_, nm, r⟩
    · exact S.sc p (.tail _ q), S.ns, S.out, S.loc, S.cells⟩
theorem rd_name {x : Str} {d : D} {Q : Value → Shared → Prop} {E : Value → Shared → Prop} (S : Sc env s H ρ) (hm : (x, d) ∈ ρ) (hk : env.scope.kind = .function) (h2 : (x == ("__classdict__" : Str)) = false) (k : ∀ v, Rel H v d → Q v s) : wpAny (model prog w) A (loadName env x) Q E s := by
  obtain ⟨v, n, r⟩ := S _ hm
  cases n with
  | loc kk hn e => exact wpAny_loadName_local hk kk hn e (k v r)
  | cell kk hc e =>
    rcases kk with kk | kk
    · exact wpAny_loadName_cell hk kk hc e (k v r)
    · exact wpAny_loadName_free hk kk hc e (k v r) h2

/-- x += e on a list that may turn -/
theorem x_iaddl {x : Str} {px pos : Pos} {e : Expr} {a : Addr} {l l' : List D} (S : St env mu s H ρ) (hf : env.scope.kind = .function) (hk : env.kindOf x = some .local) (hx : (x, D.ptr a) ∈ ρ) (hu : ∀ p ∈ ρ, p.1 = x → p = (x, D.ptr a)) (ha : a ∈ mu) (L : Lm a l s H)
    (he : Ev prog w A env s H e (.list l')) (hz : l.length + l'.length ≤ 1000000) (h2 : (x == ("__classdict__" : Str)) = false)
    (next : ∀ s' H', St env mu s' H' ρ → Lm a (l ++ l') s' H' → Step mu s H s' H' → wpAny (model prog w) A (execs rest env) Q E s') :
    wpAny (model prog w) A (execs (.AugAssign (.Name x px) .Add e pos :: rest) env) Q E s := by
  refine wpAny_execs_cons (wpAny_AugAssign_Name (rd_name S.sc hx hf h2 fun v r => ?_))
  cases r
  refine he s H (.refl S.now) _ _ fun v' s₁ H₁ g r' => ?_
  have S₁ := S.grow g
  have L₁ := L.grow g
  refine iadd_list g.now (S₁.out a ha).1 L₁ r' hz fun s₂ g₂ L₂ => ?_
  have S₂ := S₁.at ha L₁ g₂
  refine st_loc (ρ' := ρ) S₂ hk hf (.ptr a) (fun p hp => ?_) fun s₃ S₃ st => next s₃ H₁ S₃ (L₂.step st fun z => ?_) (((Step.of g).trans (g₂.more fun b hb => by rw [List.mem_singleton.mp hb]; exact ha)).trans (st.more fun b hb => by rw [List.mem_singleton.mp hb]; exact S.loc))
  · by_cases q : p.1 = x
    · exact .inl (hu p hp q)
    · exact .inr ⟨hp, q⟩
  · obtain ⟨m, hm⟩ := S₂.ns
    exact L₂.ne_loc hm (List.mem_singleton.mp z)
end
end Mine

namespace Mine

section
variable {prog : Program} {w : World} {A : Around} {env : Env} {mu : List Addr} {s : Shared} {H : Mp} {ρ ρ' : List (Str × D)} {K : Frag} {Q : Flow → Shared → Prop} {E : Value → Shared → Prop} {rest : List Stmt}

theorem evt_int {e : Expr} {i : Int} (h : Ev prog w A env s H e (.int i)) (he : ∀ whole, isTrue e env whole = (do let v ← whole; standAt e.pos; holding [v] (truthy v)) := by intro _; rfl) : EvT prog w A env s H e (i != 0) := fun s₁ H₁ g Q E k =>
  wpAny_isTrue_value (h s₁ H₁ g _ _ fun v s' H' g' r => by cases r; exact truthy_int (k s' H' g')) (he _)

/-- x op= e on an int -/
theorem x_augi {x : Str} {px pos : Pos} {op : Operator} {e : Expr} {a b c : Int} (S : St env mu s H ρ) (hf : env.scope.kind = .function) (hk : env.kindOf x = some .local) (hx : (x, D.int a) ∈ ρ)
    (he : Ev prog w A env s H e (.int b)) (ho : Op2 prog w A (inplaceOp op) (.int a) (.int b) (.int c)) (hρ : ∀ p ∈ ρ', p = (x, .int c) ∨ (p ∈ ρ ∧ p.1 ≠ x)) (h2 : (x == ("__classdict__" : Str)) = false)
    (next : ∀ s' H', St env mu s' H' ρ' → Step mu s H s' H' → wpAny (model prog w) A (execs rest env) Q E s') :
    wpAny (model prog w) A (execs (.AugAssign (.Name x px) op e pos :: rest) env) Q E s := by
  refine wpAny_execs_cons (wpAny_AugAssign_Name (rd_name S.sc hx hf h2 fun v r => ?_))
  refine he s H (.refl S.now) _ _ fun v' s₁ H₁ g r' => ?_
  refine ho s₁ H₁ v v' g.now (r.mono g.sub) r' _ _ fun v₂ s₂ H₂ g₂ r₂ => ?_
  exact st_loc ((S.grow g).grow g₂) hk hf r₂ hρ fun s₃ S₃ st => next s₃ H₂ S₃ ((Step.of (g.trans g₂)).trans (st.more fun b hb => by rw [List.mem_singleton.mp hb]; exact S.loc))
theorem i_xor (a b : Int) : Op2 prog w A (inplaceOp .BitXor) (.int a) (.int b) (.int (Builtin.bitXor a b)) := fun s H _ _ n ra rb Q E k => by cases ra; cases rb; exact ixor_int (k _ _ H (.tok n _) (.int _ _))
theorem i_add (a b : Int) : Op2 prog w A (inplaceOp .Add) (.int a) (.int b) (.int (a + b)) := fun s H _ _ n ra rb Q E k => by cases ra; cases rb; exact iadd_int (k _ _ H (.tok n _) (.int _ _))

/-- x = e, x a local name; lists that may turn stay -/
theorem x_setL {x : Str} {px pos : Pos} {e : Expr} {d : D} (S : St env mu s H ρ) (hf : env.scope.kind = .function) (hk : env.kindOf x = some .local) (he : Ev prog w A env s H e d) (hρ : ∀ p ∈ ρ', p = (x, d) ∨ (p ∈ ρ ∧ p.1 ≠ x))
    (hsw : swapsWith e (some (.Name x px)) pos.line env = pure false) (next : ∀ s' H', St env mu s' H' ρ' → (∀ a l, Lm a l s H → Lm a l s' H') → Step mu s H s' H' → wpAny (model prog w) A (execs rest env) Q E s') :
    wpAny (model prog w) A (execs (.Assign [.Name x px] e pos :: rest) env) Q E s :=
  wpAny_execs_cons (wpAny_Assign_Name (he s H (.refl S.now) _ _ fun v s₁ H₁ g r => st_loc (S.grow g) hk hf r hρ fun s' S' st => next s' H₁ S' (fun a l L => by
    obtain ⟨m, hm⟩ := (S.grow g).ns
    have L₁ := L.grow g
    exact L₁.same st (L₁.ne_loc hm)) ((Step.of g).trans (st.more fun a ha => by rw [List.mem_singleton.mp ha]; exact S.loc))) hsw)
theorem x_augL {x : Str} {px pos : Pos} {op : Operator} {e : Expr} {a b c : Int} (S : St env mu s H ρ) (hf : env.scope.kind = .function) (hk : env.kindOf x = some .local) (hx : (x, D.int a) ∈ ρ)
    (he : Ev prog w A env s H e (.int b)) (ho : Op2 prog w A (inplaceOp op) (.int a) (.int b) (.int c)) (hρ : ∀ p ∈ ρ', p = (x, .int c) ∨ (p ∈ ρ ∧ p.1 ≠ x)) (h2 : (x == ("__classdict__" : Str)) = false)
    (next : ∀ s' H', St env mu s' H' ρ' → (∀ a l, Lm a l s H → Lm a l s' H') → Step mu s H s' H' → wpAny (model prog w) A (execs rest env) Q E s') :
    wpAny (model prog w) A (execs (.AugAssign (.Name x px) op e pos :: rest) env) Q E s := by
  refine wpAny_execs_cons (wpAny_AugAssign_Name (rd_name S.sc hx hf h2 fun v r => ?_))
  refine he s H (.refl S.now) _ _ fun v' s₁ H₁ g r' => ?_
  refine ho s₁ H₁ v v' g.now (r.mono g.sub) r' _ _ fun v₂ s₂ H₂ g₂ r₂ => ?_
  have S₂ := (S.grow g).grow g₂
  exact st_loc S₂ hk hf r₂ hρ fun s₃ S₃ st => next s₃ H₂ S₃ (fun a l L => by
    obtain ⟨m, hm⟩ := S₂.ns
    have L₂ := (L.grow g).grow g₂
    exact L₂.same st (L₂.ne_loc hm)) ((Step.of (g.trans g₂)).trans (st.more fun b hb => by rw [List.mem_singleton.mp hb]; exact S.loc))

/-- x.append(e) on a list that may turn -/
theorem x_append {x : Str} {np apos pos ep : Pos} {e : Expr} {a : Addr} {l : List D} {d : D} (S : St env mu s H ρ) (hf : env.scope.kind = .function) (hx : (x, D.ptr a) ∈ ρ) (ha : a ∈ mu) (L : Lm a l s H)
    (he : Ev prog w A env s H e d) (hz : l.length ≤ sizeLine) (h1 : (x == ("__debug__" : Str)) = false) (h2 : (x == ("__classdict__" : Str)) = false)
    (hbase : attributeBase (.Name x np) "append" env (eval (.Name x np) env) = eval (.Name x np) env)
    (hfew : ((backTo pos (starEach [e] env)).all (fun x => !x.1) && (backToKw pos (keywordEach [] env)).all (fun x => x.1.isSome) && decide ([e].length + ([] : List Keyword).length + (if ([] : List Keyword).isEmpty then 0 else 1) < 30)) = true)
    (next : ∀ s' H', St env mu s' H' ρ → Lm a (l ++ [d]) s' H' → Step mu s H s' H' → wpAny (model prog w) A (execs rest env) Q E s')
    (hline : (apos.endLine == pos.line) = true := by rfl) (hst : starEach [e] env = (false, eval e env) :: starEach [] env := by rfl) (hsw : swapsWith (.Call (.Attribute (.Name x np) "append" apos) [e] [] pos) none ep.line env = pure false := by rfl) :
    wpAny (model prog w) A (execs (.Expr (.Call (.Attribute (.Name x np) "append" apos) [e] [] pos) ep :: rest) env) Q E s := by
  have hi : interactive env = false := by unfold interactive; rw [hf]; rfl
  refine wpAny_execs_cons (wpAny_Expr_any (wpAny_Call_method hbase hfew hline PySem.F.plainAttrs_list slot_list_append type_list_append ?_) hi hsw)
  refine ev_name S.sc hx hf h1 h2 s H (.refl S.now) _ _ fun v s₁ H₁ g r => ?_
  cases r
  obtain ⟨vs, n, e₁, rs⟩ := L.grow g
  refine ⟨⟨_, e₁, rfl⟩, fun b q => by cases q; exact ⟨_, e₁, rfl⟩, callWith_method1 (args_cons (he s₁ H₁ g _ _ fun y s₂ H₂ g₂ ry => args_nil ?_) hst) hst⟩
  have gg := g.trans g₂
  have L₂ := L.grow gg
  have S₂ := S.grow gg
  obtain ⟨vs, n, e₂, rs⟩ := id L₂
  refine wpAny_list_append_plain (items := vs.toArray) (hsz := by rw [List.size_toArray, rs.length]; exact hz) ⟨n, e₂⟩ fun h₅ hl₅ hs₅ => ?_
  have g₅ : Step [a] s₂ H₂ { s₂ with heap := h₅ } H₂ := Step.upd S₂.now (S₂.out a ha).1 hs₅ _
  obtain ⟨n', e'⟩ := hl₅
  exact next _ H₂ (S₂.at ha L₂ g₅) ⟨vs ++ [y], n', by simpa using e', rs.append (.cons ry .nil)⟩ ((Step.of gg).trans (g₅.more fun b hb => by rw [List.mem_singleton.mp hb]; exact ha))

/-- for x in xs: .. -/
theorem x_forP {α : Type} {c : α → D} {xs : List α} {target iter : Expr} {body orelse : List Stmt} {pos : Pos} (r : Nat → List (Str × D)) (r' : Nat → α → List (Str × D)) (ml : Nat → List (Addr × List D)) (hh : A.handled = none)
    (S : St env mu s H (r 0)) (L : Lms (ml 0) s H) (hml : ∀ i, ∀ p ∈ ml i, p.1 ∈ mu) (hit : EvIt prog w A env s H iter (xs.map c))
    (hb : ∀ i a, xs[i]? = some a → Binds prog w A env mu (r i) target (c a) (r' i a))
    (Pi : Nat → Prop) (hP0 : Pi 0) {Qb : Shared → Mp → Prop} {Qr : Value → Shared → Mp → Prop}
    (turn : ∀ i a s₁ H₁, xs[i]? = some a → Pi i → (∀ b o, H b = some o → H₁ b = some o) → St env mu s₁ H₁ (r' i a) → Lms (ml i) s₁ H₁ → ∀ E', wpAny (model prog w) A (execs body env) (fun f s₂ => match f with
      | .next | .cont => ∃ H₂, Step mu s₁ H₁ s₂ H₂ ∧ St env mu s₂ H₂ (r (i + 1)) ∧ Lms (ml (i + 1)) s₂ H₂ ∧ Pi (i + 1)
      | .brk => ∃ H₂, Step mu s₁ H₁ s₂ H₂ ∧ Qb s₂ H₂
      | .ret v => ∃ H₂, Step mu s₁ H₁ s₂ H₂ ∧ Qr v s₂ H₂) E' s₁)
    (done : ∀ s₁ H₁, Pi xs.length → Step mu s H s₁ H₁ → St env mu s₁ H₁ (r xs.length) → Lms (ml xs.length) s₁ H₁ → ∀ E', wpAny (model prog w) A (execs orelse env) (Then prog w A env rest Q E) E' s₁)
    (brk : ∀ s₁ H₁, Step mu s H s₁ H₁ → Qb s₁ H₁ → wpAny (model prog w) A (execs rest env) Q E s₁)
    (ret : ∀ v s₁ H₁, Step mu s H s₁ H₁ → Qr v s₁ H₁ → Q (.ret v) s₁)
    (hs : ∀ x, foldedSetIterable iter env x = pure x := by intro _; rfl) :
    wpAny (model prog w) A (execs (.For target iter body orelse pos :: rest) env) Q E s := by
  refine wpAny_execs_cons (wpAny_For (hit s H (.refl S.now) _ _ fun I s₀ H₀ g₀ hI src => ?_) hs)
  obtain ⟨fp, P, W, wk, hst, hfp, hHI, hIl, hP, hW⟩ := src
  rw [List.length_map] at wk
  have hImu : I ∉ mu := fun q => Nat.not_lt.mpr hI (S.out _ q).2
  have hIc : ∀ p ∈ env.cells, p.2 ≠ I := fun p hp q => by
    obtain ⟨v, o, e, _⟩ := S.cells p hp
    exact Nat.not_lt.mpr hI (q ▸ Heap.lt_size e)
  have hone : ∀ a ∈ [I], a ∈ I :: mu := fun a ha => by rw [List.mem_singleton.mp ha]; exact .head _
  have hback : ∀ s' H', Step (I :: mu) s₀ H₀ s' H' → Step mu s H s' H' := fun s' H' g => g.back (Step.of g₀) fun a ha => by
    rcases List.mem_cons.mp ha with q | q
    · exact .inr (q ▸ hI)
    · exact .inl q
  refine codeAny_forLoop_any (fun n s' => ∃ i H', i ≤ xs.length ∧ n = xs.length + 1 - i ∧ Step (I :: mu) s₀ H₀ s' H' ∧ St env mu s' H' (r i) ∧ Lms (ml i) s' H' ∧ W i s'.heap ∧ H' I = none ∧ Pi i) ?_ (xs.length + 1)
    ⟨0, H₀, Nat.zero_le _, rfl, .refl g₀.now, S.grow g₀, fun p hp => (L p hp).grow g₀, hst, hHI, hP0⟩
  rintro n s' ⟨i, H', hi, rfl, g, S', L', hst', hHI', hPi⟩
  have hIl' : I < s'.heap.objs.size := Nat.lt_of_lt_of_le hIl g.size
  refine with_size ?_
  have turned : ∀ (h' : Heap) (tk : Nat), (∀ b ob, b ∉ [I] → s'.heap.get? b = some ob → h'.get? b = some ob) → s'.heap.objs.size ≤ h'.objs.size → Step [I] s' H' { s' with heap := h', toks := tk } H' := fun h' tk hk hl =>
    ⟨⟨_, _, rfl⟩, hk, hl, fun _ _ e => e, fun a ob e => hk a ob (fun q => by rw [List.mem_singleton.mp q, hHI'] at e; cases e) (S'.now a ob e), fun _ _ e => .inl e⟩
  have hcell : ∀ a ∈ [I], ∀ p ∈ env.cells, p.2 ≠ a := fun a ha p hp => by rw [List.mem_singleton.mp ha]; exact hIc p hp
  have hmu1 : ∀ a ∈ [I], a ∉ mu := fun a ha => by rw [List.mem_singleton.mp ha]; exact hImu
  have hLs : ∀ {s₁ : Shared} {H₁ : Mp} {i : Nat}, Lms (ml i) s' H' → Step [I] s' H' s₁ H₁ → Lms (ml i) s₁ H₁ := fun L g p hp => (L p hp).step g (by rw [List.mem_singleton]; intro q; exact hImu (q ▸ hml _ p hp))
  by_cases hlt : i < xs.length
  · refine wk.item i s' _ _ hlt hst' fun v h₁ tk₁ hPv hst₁ hk₁ hz => ?_
    obtain ⟨d', hd', hr⟩ := hP i v hPv
    rw [List.getElem?_map] at hd'
    obtain ⟨a, ha, rfl⟩ := Option.map_eq_some_iff.mp hd'
    have g₁ := turned h₁ tk₁ (fun b ob hb e => hk₁ b ob hb e) hz
    have S₁ := S'.step g₁ hmu1 hcell
    have L₁ := hLs L' g₁
    refine hb i a ha I v _ H' S₁ (hW _ _ hst₁) (hr H' g.sub) (fun s₂ => wpAny (model prog w) A (execs body env) _ _ s₂) _ fun s₂ H₂ g₂ S₂ hL₂ => ?_
    refine wpAny_mono (turn i a s₂ H₂ ha hPi (fun b o e => g₂.sub b o (g.sub b o (g₀.sub b o e))) S₂ (fun p hp => hL₂ _ _ (L₁ p hp)) _) (fun f s₃ h₃ => ?_) fun _ _ x => x
    have up : ∀ H₃, Step mu s₂ H₂ s₃ H₃ → Step (I :: mu) s₀ H₀ s₃ H₃ := fun H₃ g₃ => g.trans ((g₁.more hone).trans ((g₂.trans g₃).more fun a ha => .tail _ ha))
    have hnext : (∃ H₃, Step mu s₂ H₂ s₃ H₃ ∧ St env mu s₃ H₃ (r (i + 1)) ∧ Lms (ml (i + 1)) s₃ H₃ ∧ Pi (i + 1)) → ∃ m, m < xs.length + 1 - i ∧ ∃ i H', i ≤ xs.length ∧ m = xs.length + 1 - i ∧ Step (I :: mu) s₀ H₀ s₃ H' ∧ St env mu s₃ H' (r i) ∧ Lms (ml i) s₃ H' ∧ W i s₃.heap ∧ H' I = none ∧ Pi i := by
      rintro ⟨H₃, g₃, S₃, L₃, hP'⟩
      refine ⟨xs.length + 1 - (i + 1), by omega, i + 1, H₃, hlt, rfl, up H₃ g₃, S₃, L₃, ?_, ?_, hP'⟩
      · refine wk.frame _ _ _ hst₁ fun b hb' ob e => ?_
        rcases hfp b hb' with q | ⟨o', ho'⟩
        · rw [q] at e ⊢; exact g₃.keep _ _ hImu (g₂.keep _ _ hImu e)
        · have e1 := g₂.sub b o' (g.sub b o' ho')
          have e2 := S₁.now b o' (g.sub b o' ho')
          rw [e2] at e; cases e
          exact g₃.now b _ (g₃.sub _ _ e1)
      · cases q : H₃ I with
        | none => rfl
        | some ob => exact ((g₂.trans g₃).fresh I ob q).elim (fun e => by rw [hHI'] at e; cases e) fun e => absurd hIl' (Nat.not_lt.mpr (Nat.le_trans g₁.size e))
    cases f with
    | next => exact hnext h₃
    | cont => exact hnext h₃
    | brk => obtain ⟨H₃, g₃, q⟩ := h₃; exact brk s₃ H₃ (hback _ _ (up H₃ g₃)) q
    | ret v => obtain ⟨H₃, g₃, q⟩ := h₃; exact ret v s₃ H₃ (hback _ _ (up H₃ g₃)) q
  · have hin : i = xs.length := by omega
    subst hin
    refine wk.done s' _ _ hst' fun h₁ tk₁ hk₁ hz => ?_
    have g₁ := turned h₁ tk₁ (fun b ob hb e => hk₁ b ob hb e) hz
    refine wpAny_mono (done _ H' hPi (hback _ _ (g.trans (g₁.more hone))) (S'.step g₁ hmu1 hcell) (hLs L' g₁) _) (fun f s₂ h => ?_) fun _ _ x => x
    cases f <;> exact h
end
end Mine

namespace Mine

section
variable {prog : Program} {w : World} {A : Around} {env : Env} {mu : List Addr} {s : Shared} {H : Mp} {ρ : List (Str × D)} {K : Frag}

/-- a def of the text, called in this form on these, gives this -/
def FnB (prog : Program) (w : World) (A : Around) (K : Frag) (fa : Addr) (args : List Value → Args) (ds : List D) (d : D) : Prop := ∀ (s : Shared) (H : Mp) (vs : List Value), Now s H → Wd K H → Rels H vs ds → ∀ R : Result → Shared → Prop,
  (∀ v s' H', Grow s H s' H' → Rel H' v d → R (.ok (.ret v)) s') → codeAny (model prog w) A (.call (.ref fa) (args vs)) R s

theorem fn_ofB {fa : Addr} {oc : Value} {od an : Option Addr} {name qual : Str} {params : Arguments} {body : List Stmt} {scope : Scope} {dV kV doc pm cdv ct : Value} {osl : Array (Option Value)} {names : List Str} {args : List Value → Args} {ds : List D} {d : D}
    (ho : K.lookup fa = some ⟨oc, od, .func (fnOf name qual params body scope dV kV doc pm an cdv ct), osl⟩) (hcd : codeIn K cdv qual = true) (hA : A.depth < recursionLimit) (Pq : List D → Mp → Prop)
    (hbind : ∀ (s : Shared) (H : Mp) (vs : List Value), Now s H → Wd K H → Rels H vs ds → ∀ (Q : List (Str × Value) → Shared → Prop) (E : Value → Shared → Prop), (∀ ws ds' s' H', Grow s H s' H' → Rels H' ws ds' → ds'.length = names.length → Pq ds' H' → Q (names.zip ws) s') →
      wpAny (model prog w) A.in1 (bindArgs (fnOf name qual params body scope dV kV doc pm an cdv ct) (args vs)) Q E s) (hok : fnOk scope names = true)
    (hbody : ∀ s H s₁ env mu ds', Now s H → Wd K H → Pq ds' H → FEnv scope env mu → St env mu s₁ H (names.zip ds') → Grow s H s₁ H → (∀ a ∈ mu, s.heap.objs.size ≤ a) → ∀ (Q : Flow → Shared → Prop) (E : Value → Shared → Prop),
      (∀ v s' H', Step mu s₁ H s' H' → Rel H' v d → Q (.ret v) s') → wpAny (model prog w) (A.deeper env) (execs body env) Q E s₁) : FnB prog w A K fa args ds d := by
  intro s₀ H₀ vs₀ nw₀ W₀ rs₀ R k₀
  simp only [fnOk, Bool.and_eq_true, decide_eq_true_eq, List.all_eq_true, Bool.or_eq_true, beq_iff_eq, Bool.not_eq_true'] at hok
  obtain ⟨⟨⟨⟨⟨h1, h2⟩, h3⟩, h4⟩, h5⟩, h6⟩ := hok
  obtain ⟨hB₀, p₀, l₀, mg₀, mb₀, a₀, b₀, T₀⟩ := id W₀
  refine codeAny_call_function (fd := fnOf name qual params body scope dV kV doc pm an cdv ct) (body := body) hA (nw₀ _ _ (a₀ _ _ (b₀ _ _ ho))) rfl h5 h6 rfl ((codeRec_of b₀ hcd).keeps fun q o e => nw₀ _ _ (a₀ q o e)) ?_
  refine hbind s₀ H₀ vs₀ nw₀ W₀ rs₀ _ _ fun vs ds' s H g₀ rs hlen hPq => ?_
  have nw := g₀.now
  have W := W₀.mono g₀.sub
  obtain ⟨hB, p, l, mg, mb, a, b, T⟩ := id W
  have kB : ∀ q o, hB.get? q = some o → s.heap.get? q = some o := fun q o e => nw _ _ (a q o e)
  have hvl : vs.length = names.length := rs.length.trans hlen
  have hfst : (names.zip vs).map (·.1) = names := by rw [List.map_fst_zip]; omega
  have hkind : ∀ x ∈ names.zip vs, scope.names.lookup x.1 = some .local ∨ (scope.names.lookup x.1 = some .cell ∧ ((cellsFrom (s.heap.objs.size + 1) scope.names []).lookup x.1).isSome = true) := fun x hx => by
    have hx' : x.1 ∈ names := by rw [← hfst]; exact List.mem_map_of_mem hx
    rcases h3 _ hx' with q | q
    · exact .inl q
    · obtain ⟨c, e, _⟩ := cf_own scope.names (s.heap.objs.size + 1) [] x.1 (mem_of_lookup q)
      exact .inr ⟨q, by rw [e]; rfl⟩
  refine wpAny_newFunctionEnv_cells (binds := names.zip vs) h4 hkind fun env he s₁ X => ?_
  subst he
  refine ⟨(T.nolimit.keeps kB).keeps X.toInCall.keep, codeAny_func ?_⟩
  have hcells : ∀ q ∈ cellsFrom (s.heap.objs.size + 1) scope.names [], ∃ v, s₁.heap.IsCell q.2 v := fun q hq => ⟨_, X.cell q.1 q.2 (cf_lookup_mem _ _ _ h1 (fun _ z => absurd z List.not_mem_nil) (fun _ z => absurd z List.not_mem_nil) q hq)⟩
  have hmu : ∀ c ∈ s.heap.objs.size :: (cellsFrom (s.heap.objs.size + 1) scope.names []).map (·.2), s.heap.objs.size ≤ c ∧ s₁.heap.objs.size > c := fun c hc => by
    rcases List.mem_cons.mp hc with q | q
    · rw [q]; exact ⟨Nat.le_refl _, X.toInCall.ns.lt⟩
    · obtain ⟨z, hz, rfl⟩ := List.mem_map.mp q
      refine ⟨Nat.le_of_lt (X.above z.1 z.2 hz), ?_⟩
      obtain ⟨v, hv⟩ := hcells z hz
      exact hv.lt
  have g : Grow s H s₁ H := by
    obtain ⟨hh, tk, e⟩ := X.toInCall.same
    have hk := X.toInCall.keep
    subst e
    exact Grow.keeps nw hk (Nat.le_of_lt (hmu _ (.head _)).2) tk
  have S : St (callEnvC (fnOf name qual params body scope dV kV doc pm an cdv ct) s.heap.objs.size fa) (s.heap.objs.size :: (cellsFrom (s.heap.objs.size + 1) scope.names []).map (·.2)) s₁ H (names.zip ds') := by
    refine ⟨g.now, fun q hq => ?_, ⟨_, X.toInCall.ns⟩, fun c hc => ⟨above_none nw (hmu c hc).1, (hmu c hc).2⟩, .head _, hcells⟩
    obtain ⟨v, hv, r⟩ := zip_rel rs q hq
    refine ⟨v, ?_, r⟩
    have hx' : q.1 ∈ names := by rw [← hfst]; exact List.mem_map_of_mem (f := (·.1)) hv
    rcases h3 _ hx' with z | z
    · exact .loc (show scope.names.lookup q.1 = some .local from z) X.toInCall.ns (bindL_get (show scope.names.lookup q.1 = some .local from z) _ _ (by rw [hfst]; exact h2) hv)
    · obtain ⟨c, e, _⟩ := cf_own scope.names (s.heap.objs.size + 1) [] q.1 (mem_of_lookup z)
      refine .cell (.inl (show scope.names.lookup q.1 = some .cell from z)) (c := c) e ?_
      have hc : s₁.heap.IsCell c (bindC (callEnvC (fnOf name qual params body scope dV kV doc pm an cdv ct) s.heap.objs.size fa).kindOf (names.zip vs) (fun _ => none) q.1) := X.cell q.1 c e
      rwa [bindC_get (kindOf := (callEnvC (fnOf name qual params body scope dV kV doc pm an cdv ct) s.heap.objs.size fa).kindOf) (by show scope.names.lookup q.1 ≠ _; rw [z]; decide) _ _ (by rw [hfst]; exact h2) hv] at hc
  refine hbody s H s₁ _ _ ds' nw W hPq ⟨⟨h4, rfl, rfl⟩, rfl, fun x hx => ?_⟩ S g (fun c hc => (hmu c hc).1) _ _ fun v s' H' st r => k₀ v s' H' (g₀.trans (st.grow g fun c hc => (hmu c hc).1)) r
  obtain ⟨c, e, hc⟩ := cf_own scope.names (s.heap.objs.size + 1) [] x hx
  exact ⟨c, e, .tail _ (List.mem_map.mpr ⟨_, mem_of_lookup e, rfl⟩), fun p hp q => cf_apart scope.names (s.heap.objs.size + 1) [] (fun _ z => absurd z List.not_mem_nil) p hp _ (mem_of_lookup e) q (by rw [q]; exact hc)⟩

/-- a dict with one name -/
abbrev kwO (h : Int) (k : Str) (t : Tok) (v : Value) (n : Nat) : Obj := { cls := .type "dict", data := .dict #[⟨h, .str k t, v⟩] n }

theorem ns_set {d : Addr} {k : Str} {v : Value} {Q : Unit → Shared → Prop} {E : Value → Shared → Prop} (e : s.heap.get? d = some { cls := .type "dict", data := .dict #[] })
    (h : ∀ h', Heap.SameBut d s.heap h' → (∃ n, h'.get? d = some (kwO (PyData.keyHash w.params k) k s.toks v n)) → Q () { s with heap := h', toks := s.toks + 1 }) : wpAny (model prog w) A (nsSet d k v) Q E s := by
  have c : aRefKeyMayBeTheName k #[] = false := by rw [aRefKeyMayBeTheName_at]; simp
  unfold nsSet
  refine wpAny_bind (wpAny_bind (wpAny_askSetting (wpAny_pure (wpAny_bind (wpAny_mkText (wpAny_bind (wpAny_loadPart e ?_)))))))
  dsimp only
  rw [c, if_neg Bool.false_ne_true]
  refine wpAny_updatePart e (h _ (Heap.SameBut.update ..) ⟨1, ?_⟩)
  have q := Heap.get?_update_self (Obj.putName k (PyData.keyHash w.params k) (.str k s.toks) v) e rfl
  refine q.trans ?_
  rfl

abbrev dict0 : Obj := { cls := .type "dict", data := .dict #[] }

/-- a dict of one name is poured into an empty one -/
theorem merge_one {d a : Addr} {h : Int} {k : Str} {t : Tok} {v : Value} {n : Nat} {Q : Unit → Shared → Prop} {E : Value → Shared → Prop} (hh : h = PyData.keyHash w.params k) (e : s.heap.get? d = some dict0) (ea : s.heap.get? a = some (kwO h k t v n)) (hne : d ≠ a) (hm : (a == sysModules) = false)
    (hQ : ∀ h', Heap.SameBut d s.heap h' → (∃ n, h'.get? d = some (kwO h k t v n)) → Q () { s with heap := h' }) : wpAny (model prog w) A (mergeMapping d (.ref a) true) Q E s := by
  unfold mergeMapping
  have ta : s.TypeIs (.ref a) "dict" := ⟨_, ea, rfl⟩
  refine wpAny_bind (wpAny_isInstance ta isSubtype_dict_dict ?_)
  rw [if_pos rfl]
  refine wpAny_bind (wpAny_specialOf ta PySem.F.slot_dict_iter.lookup ?_)
  refine wpAny_bind (wpAny_pure ?_)
  rw [show ((some (Value.builtin "dict.__iter__")) == some (Value.builtin "dict.__iter__")) = true from by decide +kernel]
  dsimp only
  rw [hm, if_neg Bool.false_ne_true]
  refine wpAny_bind (wpAny_dictEntries e rfl ?_)
  rw [show (#[] : Array DictEntry).isEmpty = true from rfl, if_pos rfl]
  refine wpAny_bind (wpAny_dictEntries ea rfl ?_)
  refine wpAny_bind ?_
  rw [← Array.forIn_toList]
  simp only [List.forIn_cons, List.forIn_nil]
  refine wpAny_bind (wpAny_pure (wpAny_pure ?_))
  refine wpAny_bind (wpAny_dictEntries ea rfl ?_)
  refine wpAny_bind (wpAny_dictEpoch ea rfl ?_)
  refine wpAny_bind ?_
  rw [show List.range (#[(⟨h, .str k t, v⟩ : DictEntry)]).size = [0] from rfl]
  simp only [List.forIn_cons, List.forIn_nil]
  refine wpAny_bind (wpAny_bind (wpAny_dictEntries ea rfl ?_))
  rw [show (#[(⟨h, .str k t, v⟩ : DictEntry)])[0]? = some ⟨h, .str k t, v⟩ from rfl]
  dsimp only
  rw [if_pos trivial]
  subst hh
  have hf : ∀ (Q : Option Nat → Shared → Prop), Q none s → wpAny (model prog w) A (dictFind d (.str k t) (PyData.keyHash w.params k)) Q E s := fun Q hq =>
    wpAny_dictFind_of (knd := strKind prog w) (k := k) (strKind_is prog w k t) e rfl (fun x hx => by simp at hx) (by rw [show Array.findIdx? (fun e => (strKind prog w).is k e.key) (#[] : Array DictEntry) = none by simp]; exact hq)
  refine wpAny_bind (wpAny_holding (wpAny_bind (hf _ ?_)))
  rw [show (none : Option Nat).isSome = false from rfl, if_neg Bool.false_ne_true]
  unfold dictPut
  refine wpAny_bind (hf _ ?_)
  dsimp only
  refine wpAny_updateDictKeys e rfl ?_ (by decide) (by simp)
  have hs : Heap.SameBut d s.heap (s.heap.update d (Obj.mapDictKeys fun x => x.push ⟨PyData.keyHash w.params k, .str k t, v⟩)) := Heap.SameBut.update ..
  have ea' := hs.extBut a _ (Ne.symm hne) ea
  refine wpAny_bind (wpAny_dictEpoch ea' rfl ?_)
  rw [show (n != n) = false by simp, if_neg Bool.false_ne_true]
  refine wpAny_pure (wpAny_pure (wpAny_pure (hQ _ hs ⟨1, ?_⟩)))
  exact (Heap.get?_update_self _ e rfl).trans rfl

/-- f(.., **d): the keywords are read out of a dict of one name -/
theorem kw_read {d : Addr} {h : Int} {k : Str} {t : Tok} {v : Value} {n : Nat} {f : Value} {Q : List (Str × Value) → Shared → Prop} {E : Value → Shared → Prop} (e : s.heap.get? d = some (kwO h k t v n)) (hQ : Q [(k, v)] s) :
    wpAny (model prog w) A (keywordsIn f d) Q E s := by
  unfold keywordsIn
  refine wpAny_bind (wpAny_dictEntries e rfl ?_)
  rw [← Array.forIn_toList]
  simp only [List.forIn_cons, List.forIn_nil]
  exact wpAny_bind (wpAny_bind (wpAny_pure (wpAny_pure (wpAny_pure hQ))))

/-- g(x, **m), m of one name: the arguments -/
theorem args_star {f : Value} {pos p : Pos} {e ey : Expr} {es : List Expr} {h : Int} {k : Str} {t : Tok} {v : Value} {n : Nat} {a : Addr} {ds : List D} {d : D} {Q : Args → Shared → Prop} {E : Value → Shared → Prop}
    (hh : h = PyData.keyHash w.params k) (nw : Now s H) (hm : (a == sysModules) = false) (ha : EvL prog w A env s H (e :: es) ds) (hy : Ev prog w A env s H ey (.ptr a)) (hH : H a = some (kwO h k t v n)) (rv : Rel H v d)
    (hQ : ∀ vs v s' H', Grow s H s' H' → Rels H' vs ds → Rel H' v d → Q ⟨vs, [(k, v)]⟩ s') (hst : starEach (e :: es) env = (false, eval e env) :: starEach es env := by rfl) :
    wpAny (model prog w) A (evalArgs f true (backTo pos (starEach (e :: es) env)) (backToKw pos (keywordEach [⟨none, ey, p⟩] env))) Q E s := by
  have hs := ha s H (.refl nw) pos
  rw [hst] at hs ⊢
  unfold evalArgs
  show wpAny _ A (spliced _ >>= _) Q E s
  refine wpAny_bind (hs _ _ fun vs s₁ H₁ g₁ rs => ?_)
  refine wpAny_bind (wpAny_pure ?_)
  refine wpAny_holding ?_
  show wpAny _ A (mergedKeywords f [(none, do let v ← eval ey env; standAt pos; pure v)] >>= _) Q E s₁
  refine wpAny_bind ?_
  unfold mergedKeywords
  refine wpAny_bind (wpAny_alloc ?_)
  have gp : Grow s₁ H₁ { s₁ with heap := s₁.heap.push dict0 } H₁ := .pushed g₁.now _
  have ed : (s₁.heap.push dict0).get? s₁.heap.objs.size = some dict0 := Heap.get?_push_size _ rfl
  refine wpAny_bind (wpAny_holding ?_)
  refine wpAny_bind ?_
  rw [List.forIn_cons]
  refine wpAny_bind ?_
  refine wpAny_bind (wpAny_of_eq (a := ()) rfl ?_)
  refine wpAny_bind (wpAny_bind (hy _ _ (g₁.trans gp) _ _ fun av s₂ H₂ g₂ r => wpAny_bind (wpAny_standAt (wpAny_pure ?_))))
  cases r
  have g02 := g₁.trans (gp.trans g₂)
  have ea := g₂.now _ _ (g₂.sub _ _ (gp.sub _ _ (g₁.sub _ _ hH)))
  have ed₂ := g₂.keep _ _ ed
  have hHd : H₂ s₁.heap.objs.size = none := by
    cases q : H₂ s₁.heap.objs.size with
    | none => rfl
    | some ob =>
      rcases g₂.fresh _ _ q with z | z
      · exact absurd (Heap.lt_size (g₁.now _ _ z)) (Nat.lt_irrefl _)
      · have : s₁.heap.objs.size < (s₁.heap.push dict0).objs.size := by rw [Heap.size_push]; exact Nat.lt_succ_self _
        exact absurd this (Nat.not_lt.mpr z)
  have hda : s₁.heap.objs.size ≠ a := fun z => by
    rw [z] at hHd; rw [g₂.sub _ _ (gp.sub _ _ (g₁.sub _ _ hH))] at hHd; cases hHd
  refine wpAny_bind (wpAny_onRaise (wpAny_holding (wpAny_tryCatch (wpAny_onRaise (merge_one hh ed₂ ea hda hm fun h' hs' hd' => ?_)))))
  refine wpAny_pure ?_
  show wpAny _ A (forIn [] _ _) _ _ _
  rw [List.forIn_nil]
  refine wpAny_pure ?_
  refine wpAny_bind (wpAny_of_eq (a := ()) rfl ?_)
  refine wpAny_pure ?_
  refine wpAny_pure ?_
  obtain ⟨n', hd'⟩ := hd'
  refine wpAny_bind (wpAny_pure ?_)
  refine wpAny_bind (wpAny_holding (kw_read (s := { s₂ with heap := h' }) hd' ?_))
  refine wpAny_pure ?_
  have g3 : Grow s H { s₂ with heap := h' } H₂ := by
    have st : Step [s₁.heap.objs.size] s₂ H₂ { s₂ with heap := h' } H₂ := Step.upd g₂.now hHd hs' _
    exact st.grow g02 fun b hb => by rw [List.mem_singleton.mp hb]; exact g₁.size
  exact hQ vs v _ H₂ g3 (rs.mono fun b o e => g₂.sub b o (gp.sub b o e)) (rv.mono g3.sub)
end
end Mine

namespace Mine
section
variable {prog : Program} {w : World} {A : Around} {env : Env} {mu : List Addr} {s : Shared} {H : Mp} {ρ ρ' : List (Str × D)} {K : Frag}

theorem let_plain {elts : List Expr} {x1} {pos : Pos} {I : Addr} {v : Value} {Q : Unit → Shared → Prop} {E : Value → Shared → Prop} (hI : PlainIt s.heap I) (hQ : Q () s) : wpAny (model prog w) A (letOwnedTupleGo (.Tuple elts x1 pos) (.ref I) v) Q E s := by
  obtain ⟨o, ho, hc⟩ := hI
  unfold letOwnedTupleGo
  cases v with
  | ref T =>
    refine wpAny_bind (wpAny_load ho ?_)
    have hd : ∀ nm, (nm = "list_iterator" ∨ nm = "range_iterator") → ["enumerate", "zip", "dict_itemiterator", "dict_reverseitemiterator", "odict_iterator", "itertools.zip_longest", "itertools.pairwise"].contains nm = false := by
      rintro nm (h | h) <;> subst h <;> decide
    rcases hc with hc | hc <;> rw [hc] <;> cases o.data <;> first
      | exact wpAny_pure hQ
      | (dsimp only
         rw [hd _ (by simp), Bool.false_and, if_neg Bool.false_ne_true]
         exact wpAny_pure hQ)
  | _ => exact wpAny_pure hQ

/-- for x, y in .. over a list of pairs -/
theorem bind_pair {x y : Str} {px py pos : Pos} {n} {d₁ d₂ : D} (hh : A.handled = none) (hx : env.kindOf x = some .local) (hy : env.kindOf y = some .local) (hf : env.scope.kind = .function)
    (h1 : ∀ p ∈ (x, d₁) :: ρ, p = (x, d₁) ∨ (p ∈ ρ ∧ p.1 ≠ x)) (h2 : ∀ p ∈ (y, d₂) :: (x, d₁) :: ρ, p = (y, d₂) ∨ (p ∈ (x, d₁) :: ρ ∧ p.1 ≠ y)) :
    Binds prog w A env mu ρ (.Tuple [.Name x px, .Name y py] n pos) (.tup [d₁, d₂]) ((y, d₂) :: (x, d₁) :: ρ) := fun I v s H S hPl r Q E k => by
  refine let_plain hPl ?_
  cases r with
  | @tup a vs _ ha rs =>
    cases rs with
    | @cons v₁ _ _ _ r₁ rs => cases rs with
      | @cons v₂ _ _ _ r₂ rs =>
        cases rs
        rw [arm_assign_Tuple]
        refine wpAny_bind (wpAny_standAt ?_)
        unfold unpack
        refine wpAny_bind (wpAny_holding (with_size (wpAny_unpackItems_tuple (items := #[v₁, v₂]) hh ⟨_, S.now _ _ ha, rfl, _, rfl⟩ fun h' hext hz => ?_)))
        have g : Grow s H { s with heap := h' } H := Grow.keeps S.now (fun b o e => hext b o (fun z => by rw [z] at e; exact Nat.lt_irrefl _ (Heap.lt_size e)) e) hz _
        have S₁ := S.grow g
        refine assignInOrder_cons ?_
        refine wpAny_assign_Name (st_loc S₁ hx hf (r₁.mono g.sub) h1 fun s₂ S₂ st₂ => ?_)
        refine assignInOrder_cons ?_
        refine wpAny_assign_Name (st_loc S₂ hy hf (r₂.mono g.sub) h2 fun s₃ S₃ st₃ => assignInOrder_nil ?_)
        have hm : ∀ b ∈ [env.locals], b ∈ mu := fun b hb => by rw [List.mem_singleton.mp hb]; exact S.loc
        refine k s₃ H ((Step.of g).trans ((st₂.trans st₃).more hm)) S₃ fun b l L => ?_
        have L₁ := L.grow g
        obtain ⟨m, hm⟩ := S₁.ns
        have L₂ := L₁.same st₂ (L₁.ne_loc hm)
        obtain ⟨m, hm⟩ := S₂.ns
        exact L₂.same st₃ (L₂.ne_loc hm)

/-- f(.., k=e) of a def of the text -/
theorem ev_callkw {f : Str} {np pos p : Pos} {e ek : Expr} {es : List Expr} {fa : Addr} {o : Obj} {fd : FuncData} {ds : List D} {d d' : D} {k : Str} {args : List Value → Args} (W : Wd K H) (G : GEnv env) (hx : env.kindOf f = some .globalImplicit) (he : nsIn K mainGlobals f = some (some (.ref fa)))
    (ho : K.lookup fa = some o) (hd : o.data = .func fd) (ha : EvL prog w A env s H (e :: es) ds) (hy : Ev prog w A env s H ek d')
    (F : FnB prog w A K fa args (ds ++ [d']) d) (hargs : ∀ vs v, vs.length = ds.length → args (vs ++ [v]) = ⟨vs, [(k, v)]⟩) (hst : starEach (e :: es) env = (false, eval e env) :: starEach es env := by rfl) (hb : (f == ("__debug__" : Str)) = false := by decide) :
    Ev prog w A env s H (.Call (.Name f np) (e :: es) [⟨some k, ek, p⟩] pos) d := fun s₁ H₁ g Q E kk => by
  refine wpAny_Call_Name_kw (rd_global (W.mono g.sub) g.now G hx he ?_ hb)
  refine callWith_def_kw hd (evalArgs_kw2 rfl (ha s₁ H₁ g pos _ _ fun vs s₂ H₂ g₂ rs => kwAll_cons (hy s₂ H₂ (g.trans g₂) _ _ fun v s₃ H₃ g₃ r => kwAll_nil ⟨?_, ?_⟩)) hst)
  · exact g₃.now _ _ (g₃.sub _ _ (g₂.sub _ _ (g.sub _ _ (W.at ho))))
  · show wpAny _ A (call (.ref fa) vs [(k, v)]) Q E s₃
    have e := hargs vs v rs.length
    refine wpAny_call ?_
    rw [← e]
    exact F s₃ H₃ (vs ++ [v]) g₃.now (W.mono fun a o e => g₃.sub a o (g₂.sub a o (g.sub a o e))) ((Rels.append (Rels.mono (g₃.sub) rs) (.cons r .nil))) _ fun v' s' H' g' r' => kk v' s' H' (g₂.trans (g₃.trans g')) r'
end
end Mine

namespace Mine
section
variable {prog : Program} {w : World} {A : Around} {env : Env} {mu : List Addr} {s : Shared} {H : Mp} {ρ ρ' : List (Str × D)} {K : Frag}

/-- the same where J holds -/
def FnJ (prog : Program) (w : World) (A : Around) (K : Frag) (fa : Addr) (J : Mp → Prop) (args : List Value → Args) (ds : List D) (d : D) : Prop := ∀ (s : Shared) (H : Mp) (vs : List Value), Now s H → Wd K H → J H → Rels H vs ds → ∀ R : Result → Shared → Prop,
  (∀ v s' H', Grow s H s' H' → Rel H' v d → R (.ok (.ret v)) s') → codeAny (model prog w) A (.call (.ref fa) (args vs)) R s

theorem fn_ofJ {J : Mp → Prop} {fa : Addr} {oc : Value} {od an : Option Addr} {name qual : Str} {params : Arguments} {body : List Stmt} {scope : Scope} {dV kV doc pm cdv ct : Value} {osl : Array (Option Value)} {names : List Str} {args : List Value → Args} {ds : List D} {d : D}
    (ho : K.lookup fa = some ⟨oc, od, .func (fnOf name qual params body scope dV kV doc pm an cdv ct), osl⟩) (hcd : codeIn K cdv qual = true) (hA : A.depth < recursionLimit) (Pq : List D → Mp → Prop)
    (hbind : ∀ (s : Shared) (H : Mp) (vs : List Value), Now s H → Wd K H → J H → Rels H vs ds → ∀ (Q : List (Str × Value) → Shared → Prop) (E : Value → Shared → Prop), (∀ ws ds' s' H', Grow s H s' H' → Rels H' ws ds' → ds'.length = names.length → Pq ds' H' → Q (names.zip ws) s') →
      wpAny (model prog w) A.in1 (bindArgs (fnOf name qual params body scope dV kV doc pm an cdv ct) (args vs)) Q E s) (hok : fnOk scope names = true)
    (hbody : ∀ s H s₁ env mu ds', Now s H → Wd K H → Pq ds' H → FEnv scope env mu → St env mu s₁ H (names.zip ds') → Grow s H s₁ H → (∀ a ∈ mu, s.heap.objs.size ≤ a) → ∀ (Q : Flow → Shared → Prop) (E : Value → Shared → Prop),
      (∀ v s' H', Step mu s₁ H s' H' → Rel H' v d → Q (.ret v) s') → wpAny (model prog w) (A.deeper env) (execs body env) Q E s₁) : FnJ prog w A K fa J args ds d := by
  intro s₀ H₀ vs₀ nw₀ W₀ hJ₀ rs₀ R k₀
  simp only [fnOk, Bool.and_eq_true, decide_eq_true_eq, List.all_eq_true, Bool.or_eq_true, beq_iff_eq, Bool.not_eq_true'] at hok
  obtain ⟨⟨⟨⟨⟨h1, h2⟩, h3⟩, h4⟩, h5⟩, h6⟩ := hok
  obtain ⟨hB₀, p₀, l₀, mg₀, mb₀, a₀, b₀, T₀⟩ := id W₀
  refine codeAny_call_function (fd := fnOf name qual params body scope dV kV doc pm an cdv ct) (body := body) hA (nw₀ _ _ (a₀ _ _ (b₀ _ _ ho))) rfl h5 h6 rfl ((codeRec_of b₀ hcd).keeps fun q o e => nw₀ _ _ (a₀ q o e)) ?_
  refine hbind s₀ H₀ vs₀ nw₀ W₀ hJ₀ rs₀ _ _ fun vs ds' s H g₀ rs hlen hPq => ?_
  have nw := g₀.now
  have W := W₀.mono g₀.sub
  obtain ⟨hB, p, l, mg, mb, a, b, T⟩ := id W
  have kB : ∀ q o, hB.get? q = some o → s.heap.get? q = some o := fun q o e => nw _ _ (a q o e)
  have hvl : vs.length = names.length := rs.length.trans hlen
  have hfst : (names.zip vs).map (·.1) = names := by rw [List.map_fst_zip]; omega
  have hkind : ∀ x ∈ names.zip vs, scope.names.lookup x.1 = some .local ∨ (scope.names.lookup x.1 = some .cell ∧ ((cellsFrom (s.heap.objs.size + 1) scope.names []).lookup x.1).isSome = true) := fun x hx => by
    have hx' : x.1 ∈ names := by rw [← hfst]; exact List.mem_map_of_mem hx
    rcases h3 _ hx' with q | q
    · exact .inl q
    · obtain ⟨c, e, _⟩ := cf_own scope.names (s.heap.objs.size + 1) [] x.1 (mem_of_lookup q)
      exact .inr ⟨q, by rw [e]; rfl⟩
  refine wpAny_newFunctionEnv_cells (binds := names.zip vs) h4 hkind fun env he s₁ X => ?_
  subst he
  refine ⟨(T.nolimit.keeps kB).keeps X.toInCall.keep, codeAny_func ?_⟩
  have hcells : ∀ q ∈ cellsFrom (s.heap.objs.size + 1) scope.names [], ∃ v, s₁.heap.IsCell q.2 v := fun q hq => ⟨_, X.cell q.1 q.2 (cf_lookup_mem _ _ _ h1 (fun _ z => absurd z List.not_mem_nil) (fun _ z => absurd z List.not_mem_nil) q hq)⟩
  have hmu : ∀ c ∈ s.heap.objs.size :: (cellsFrom (s.heap.objs.size + 1) scope.names []).map (·.2), s.heap.objs.size ≤ c ∧ s₁.heap.objs.size > c := fun c hc => by
    rcases List.mem_cons.mp hc with q | q
    · rw [q]; exact ⟨Nat.le_refl _, X.toInCall.ns.lt⟩
    · obtain ⟨z, hz, rfl⟩ := List.mem_map.mp q
      refine ⟨Nat.le_of_lt (X.above z.1 z.2 hz), ?_⟩
      obtain ⟨v, hv⟩ := hcells z hz
      exact hv.lt
  have g : Grow s H s₁ H := by
    obtain ⟨hh, tk, e⟩ := X.toInCall.same
    have hk := X.toInCall.keep
    subst e
    exact Grow.keeps nw hk (Nat.le_of_lt (hmu _ (.head _)).2) tk
  have S : St (callEnvC (fnOf name qual params body scope dV kV doc pm an cdv ct) s.heap.objs.size fa) (s.heap.objs.size :: (cellsFrom (s.heap.objs.size + 1) scope.names []).map (·.2)) s₁ H (names.zip ds') := by
    refine ⟨g.now, fun q hq => ?_, ⟨_, X.toInCall.ns⟩, fun c hc => ⟨above_none nw (hmu c hc).1, (hmu c hc).2⟩, .head _, hcells⟩
    obtain ⟨v, hv, r⟩ := zip_rel rs q hq
    refine ⟨v, ?_, r⟩
    have hx' : q.1 ∈ names := by rw [← hfst]; exact List.mem_map_of_mem (f := (·.1)) hv
    rcases h3 _ hx' with z | z
    · exact .loc (show scope.names.lookup q.1 = some .local from z) X.toInCall.ns (bindL_get (show scope.names.lookup q.1 = some .local from z) _ _ (by rw [hfst]; exact h2) hv)
    · obtain ⟨c, e, _⟩ := cf_own scope.names (s.heap.objs.size + 1) [] q.1 (mem_of_lookup z)
      refine .cell (.inl (show scope.names.lookup q.1 = some .cell from z)) (c := c) e ?_
      have hc : s₁.heap.IsCell c (bindC (callEnvC (fnOf name qual params body scope dV kV doc pm an cdv ct) s.heap.objs.size fa).kindOf (names.zip vs) (fun _ => none) q.1) := X.cell q.1 c e
      rwa [bindC_get (kindOf := (callEnvC (fnOf name qual params body scope dV kV doc pm an cdv ct) s.heap.objs.size fa).kindOf) (by show scope.names.lookup q.1 ≠ _; rw [z]; decide) _ _ (by rw [hfst]; exact h2) hv] at hc
  refine hbody s H s₁ _ _ ds' nw W hPq ⟨⟨h4, rfl, rfl⟩, rfl, fun x hx => ?_⟩ S g (fun c hc => (hmu c hc).1) _ _ fun v s' H' st r => k₀ v s' H' (g₀.trans (st.grow g fun c hc => (hmu c hc).1)) r
  obtain ⟨c, e, hc⟩ := cf_own scope.names (s.heap.objs.size + 1) [] x hx
  exact ⟨c, e, .tail _ (List.mem_map.mpr ⟨_, mem_of_lookup e, rfl⟩), fun p hp q => cf_apart scope.names (s.heap.objs.size + 1) [] (fun _ z => absurd z List.not_mem_nil) p hp _ (mem_of_lookup e) q (by rw [q]; exact hc)⟩


theorem ev_callJ {f : Str} {np pos : Pos} {e : Expr} {es : List Expr} {fa : Addr} {o : Obj} {fd : FuncData} {ds : List D} {d : D} {J : Mp → Prop} (W : Wd K H) (hJ : ∀ H', (∀ a o, H a = some o → H' a = some o) → J H') (G : GEnv env) (hx : env.kindOf f = some .globalImplicit) (he : nsIn K mainGlobals f = some (some (.ref fa)))
    (ho : K.lookup fa = some o) (hd : o.data = .func fd) (ha : EvL prog w A env s H (e :: es) ds) (F : FnJ prog w A K fa J (fun vs => ⟨vs, []⟩) ds d) (hst : starEach (e :: es) env = (false, eval e env) :: starEach es env := by rfl) (hb : (f == ("__debug__" : Str)) = false := by decide) :
    Ev prog w A env s H (.Call (.Name f np) (e :: es) [] pos) d := fun s₁ H₁ g Q E k =>
  wpAny_Call_NameR (rd_global (W.mono g.sub) g.now G hx he (callWith_def hd (ha s₁ H₁ g pos _ _ fun vs s₂ H₂ g₂ rs => ⟨g₂.now _ _ ((W.mono (fun a o e => g₂.sub a o (g.sub a o e))).at ho),
    wpAny_call (F s₂ H₂ vs g₂.now (W.mono fun a o e => g₂.sub a o (g.sub a o e)) (hJ _ fun a o e => g₂.sub a o (g.sub a o e)) rs _ fun v s' H' g' r => k v s' H' (g₂.trans g') r)⟩) hst) hb)

theorem set_item {l : Addr} {vs : List Value} {n : Nat} {k : Int} {t : Tok} {v : Value} {Q : Unit → Shared → Prop} {E : Value → Shared → Prop} (e : s.heap.get? l = some (lstO vs n)) (h0 : 0 ≤ k) (hfit : k < 2 ^ 63) (hn : k.toNat < vs.length)
    (hQ : ∀ h', Heap.SameBut l s.heap h' → (∃ n', h'.get? l = some (lstO (vs.set k.toNat v) n')) → Q () { s with heap := h' }) : wpAny (model prog w) A (setItem (.ref l) (.int k t) v) Q E s := by
  have hl : s.heap.IsList l vs.toArray := ⟨_, e, rfl, n, rfl⟩
  unfold setItem
  try with_reducible refine wpAny_holding ?_
  first | refine wpAny_bind (wpAny_pure ?_) | skip
  refine wpAny_bind (wpAny_sequenceKey hl.typeIs (by decide) ?_)
  refine wpAny_bind (wpAny_callSpecial?_slot (name := Str.ofString "__setitem__") hl.typeIs slot_list_setitem (wpAny_call_entry slot_list_setitem hl.typeIs entry_list_setitem ?_ (args_list_setitem _ _ _)))
  show wpAny _ _ (Builtin.List.listSubscript? (.int k t) >>= _) _ _ s
  refine wpAny_bind (wpAny_listSubscript_int (fitsIndex_of h0 hfit) ?_)
  clear hfit
  obtain ⟨j, rfl⟩ := Int.eq_ofNat_of_zero_le h0
  have hj : j < vs.length := hn
  have hx : vs.toArray[j]? = some vs[j] := by simp [hj]
  show wpAny _ _ ((seqItemAt l j >>= fun r => pure (r.map (j, ·))) >>= _) _ _ s
  refine wpAny_bind (wpAny_bind (wpAny_seqItemAt e rfl (wpAny_pure ?_)))
  rw [hx]
  show wpAny _ _ (setSeqItemAt l j v >>= _) _ _ s
  have q := Heap.get?_update_self (Obj.mapSeq (·.setIfInBounds j v)) e rfl
  have fin : ∃ n', (s.heap.update l (Obj.mapSeq (·.setIfInBounds j v))).get? l = some (lstO (vs.set (j : Int).toNat v) n') := ⟨_, q.trans (by simp only [Obj.mapSeq, List.setIfInBounds_toArray]; rfl)⟩
  refine wpAny_bind (wpAny_setSeqItemAt e rfl ?_)
  first
    | exact wpAny_bind (wpAny_pure (wpAny_pure ⟨.none, rfl, wpAny_pure (hQ _ (Heap.SameBut.update ..) fin)⟩))
    | exact wpAny_pure ⟨.none, rfl, wpAny_pure (hQ _ (Heap.SameBut.update ..) fin)⟩
end
end Mine

namespace Mine
section
variable {prog : Program} {w : World} {A : Around} {env : Env} {mu : List Addr} {s : Shared} {H : Mp} {ρ ρ' : List (Str × D)} {K : Frag} {Q : Flow → Shared → Prop} {E : Value → Shared → Prop} {rest : List Stmt}

theorem Rels.set {H : Mp} {v : Value} {d : D} (r : Rel H v d) : ∀ {vs : List Value} {l : List D} (j : Nat), Rels H vs l → Rels H (vs.set j v) (l.set j d)
  | _, _, _, .nil => .nil
  | _, _, 0, .cons h rs => .cons r rs
  | _, _, j + 1, .cons h rs => .cons h (Rels.set r j rs)

/-- x[i] += e on a list of ints that may turn -/
theorem x_augsub {x : Str} {px pos' pos : Pos} {i value : Expr} {a : Addr} {ns : List Int} {j : Nat} {b c : Int} (S : St env mu s H ρ) (hf : env.scope.kind = .function) (hx : (x, D.ptr a) ∈ ρ) (ha : a ∈ mu) (L : Lm a (ns.map D.int) s H)
    (hi : Ev prog w A env s H i (.int j)) (he : Ev prog w A env s H value (.int b)) (hc : ns[j]? = some c) (hz : j < 2 ^ 62) (h1 : (x == ("__debug__" : Str)) = false) (h2 : (x == ("__classdict__" : Str)) = false)
    (next : ∀ s' H', St env mu s' H' ρ → Lm a ((ns.set j (c + b)).map D.int) s' H' → Step mu s H s' H' → wpAny (model prog w) A (execs rest env) Q E s')
    (hst : ∀ ov iv new, augStore i ov iv new = (do holding [new, ov, iv] (setItem ov iv new); release [new, ov, iv] []; pure .next) := by intros; rfl) :
    wpAny (model prog w) A (execs (.AugAssign (.Subscript (.Name x px) i pos') .Add value pos :: rest) env) Q E s := by
  refine wpAny_execs_cons (wpAny_AugAssign_SubscriptAny ?_ hst)
  refine ev_name S.sc hx hf h1 h2 s H (.refl S.now) _ _ fun v s₁ H₁ g₁ r => ?_
  cases r
  refine hi s₁ H₁ g₁ _ _ fun v s₂ H₂ g₂ r => ?_
  cases r with
  | int _ t =>
    have g02 := g₁.trans g₂
    obtain ⟨vs, n, e, rs⟩ := L.grow g02
    have hzi : (j : Int) < 2 ^ 63 := by have : (j : Int) < 2 ^ 62 := by exact_mod_cast hz
                                        omega
    have hd : (ns.map D.int)[j]? = some (.int c) := by rw [List.getElem?_map, hc]; rfl
    obtain ⟨old, ho, ro⟩ := rs.get j hd
    refine wpAny_getItem_list ⟨_, e, rfl, _, rfl⟩ (Int.natCast_nonneg _) hzi (x := old) (by simpa using ho) ?_
    refine he s₂ H₂ g02 _ _ fun v s₃ H₃ g₃ r => ?_
    have g03 := g02.trans g₃
    have gt : Grow s₃ H₃ { s₃ with toks := s₃.toks + 1 } H₃ := .tok g₃.now _
    have S₃ := S.grow (g03.trans gt)
    have L₃ := L.grow (g03.trans gt)
    obtain ⟨vs', n', e', rs'⟩ := id L₃
    have hlt : j < vs'.length := by
      rw [rs'.length, List.length_map]; exact (List.getElem?_eq_some_iff.mp hc).1
    cases ro with
    | int _ t₁ =>
      cases r with
      | int _ t₂ =>
        refine iadd_int ?_
        refine set_item (s := { s₃ with toks := s₃.toks + 1 }) e' (Int.natCast_nonneg _) hzi hlt fun h' hs hn => ?_
        obtain ⟨n₂, hn⟩ := hn
        have g₅ : Step [a] { s₃ with toks := s₃.toks + 1 } H₃ { s₃ with heap := h', toks := s₃.toks + 1 } H₃ := Step.upd S₃.now (S₃.out a ha).1 hs _
        refine next _ H₃ (S₃.at ha L₃ g₅) ⟨_, n₂, hn, ?_⟩ ((Step.of (g03.trans gt)).trans (g₅.more fun b hb => by rw [List.mem_singleton.mp hb]; exact ha))
        rw [List.map_set]
        exact Rels.set (.int _ _) _ rs'

/-- x = [.. for ..], a list that may still turn -/
theorem x_setlm {x : Str} {px pos spos : Pos} {elt : Expr} {gens : List Comprehension} {scope : Scope} {out : List D} (S : St env mu s H ρ) (hf : env.scope.kind = .function) (hk : env.kindOf x = some .local)
    (hc : EvC prog w A env s H elt gens scope pos out) (hρ : ∀ a, ∀ p ∈ (x, D.ptr a) :: ρ', p = (x, .ptr a) ∨ (p ∈ ρ ∧ p.1 ≠ x)) (hsw : swapsWith (.ListComp elt gens scope pos) (some (.Name x px)) spos.line env = pure true)
    (next : ∀ a s' H', s.heap.objs.size ≤ a → St env (a :: mu) s' H' ((x, .ptr a) :: ρ') → Lm a out s' H' → Step mu s H s' H' → wpAny (model prog w) A (execs rest env) Q E s') (ha : firstAsync gens = false := by rfl) :
    wpAny (model prog w) A (execs (.Assign [.Name x px] (.ListComp elt gens scope pos) spos :: rest) env) Q E s := by
  refine wpAny_execs_cons ?_
  rw [exec_Assign_Name_used _ _ _ _ hsw]
  refine wpAny_bind (wpAny_standAt (wpAny_bind ?_))
  show wpAny _ A (do let _ ← comprehension (.ListComp elt gens scope pos) scope env _ (newList []) (firstAsync gens) (firstIter gens env) (some (assign (.Name x px) env))) _ _ s
  rw [ha]
  refine wpAny_bind (hc s H (.refl S.now) _ (some (assign (.Name x px) env)) _ _ fun C Dl vs n s₅ H₅ g hC hD hDC hHC hHD e rs hns => ?_)
  have S₄ := S.grow g
  have S₅ : St env (Dl :: mu) s₅ H₅ ρ := ⟨S₄.now, S₄.sc, S₄.ns, fun b hb => by
    rcases List.mem_cons.mp hb with q | q
    · rw [q]; exact ⟨hHD, Heap.lt_size e⟩
    · exact S₄.out b q, .tail _ S₄.loc, S₄.cells⟩
  have L₅ : Lm Dl out s₅ H₅ := ⟨vs, n, e, rs⟩
  obtain ⟨m, hm⟩ := hns
  refine wpAny_assign_Name (st_loc S₅ hk hf (.ptr Dl) (hρ Dl) fun s₆ S₆ st => ?_)
  have hLC : env.locals ≠ C := fun q => by have := (S.out _ S.loc).2; rw [q] at this; exact Nat.not_lt.mpr hC this
  have L₆ : Lm Dl out s₆ H₅ := by obtain ⟨m, hm⟩ := S₅.ns; exact L₅.same st (L₅.ne_loc hm)
  refine ⟨m, hm.at' fun o e => st.keep _ o (by simpa using fun z => hLC z.symm) e, fun h' hs => wpAny_pure (wpAny_pure ?_)⟩
  have gC : Step [C] s₆ H₅ { s₆ with heap := h' } H₅ :=
    ⟨⟨_, _, rfl⟩, fun b o nb e => hs.extBut b o (by simpa using nb) e, Nat.le_of_eq hs.1.symm, fun _ _ e => e, fun a o e => hs.extBut a o (fun z => by rw [z, hHC] at e; cases e) (st.now a o e), fun _ _ e => .inl e⟩
  have st' : Step mu s H s₆ H₅ := (Step.of g).trans (st.more fun a ha => by rw [List.mem_singleton.mp ha]; exact S.loc)
  refine next Dl _ H₅ hD (S₆.step gC (fun a ha z => ?_) fun a ha p hp z => ?_) (L₆.step gC (by simpa using hDC)) (gC.back st' fun a ha => .inr (by rw [List.mem_singleton.mp ha]; exact hC))
  · rw [List.mem_singleton.mp ha] at z
    rcases List.mem_cons.mp z with q | q
    · exact hDC q.symm
    · exact Nat.not_lt.mpr hC (S.out _ q).2
  · obtain ⟨v, o, e, _⟩ := S.cells p hp
    rw [List.mem_singleton.mp ha] at z; exact Nat.not_lt.mpr hC (z ▸ Heap.lt_size e)

/-- sum(x) of a list that may turn -/
theorem ev_sumL {x : Str} {np xp pos : Pos} {a : Addr} {ns : List Int} (W : Wd K H) (G : GEnv env) (hx : env.kindOf "sum" = some .globalImplicit) (he : nsIn K mainGlobals "sum" = some none) (hh : A.handled = none) (S : Sc env s H ρ) (hm : (x, D.ptr a) ∈ ρ) (L : Lm a (ns.map D.int) s H)
    (h1 : (x == ("__debug__" : Str)) = false) (h2 : (x == ("__classdict__" : Str)) = false) : Ev prog w A env s H (.Call (.Name "sum" np) [.Name x xp] [] pos) (.int ns.sum) := fun s₁ H₁ g Q E k => by
  refine wpAny_Call_NameR (rd_builtin (W.mono g.sub) g.now G hx he boot_sum (by decide) (callWith_builtin1 (args_cons (ev_name S hm G.kind h1 h2 s₁ H₁ g _ _ fun v s₂ H₂ g₂ r => args_nil ?_))))
  cases r
  obtain ⟨vs, n, e, rs⟩ := L.grow (g.trans g₂)
  have hi := rs.ints
  obtain ⟨xs, hx⟩ := hi.allInts.items
  have hl : s₂.heap.IsList a vs.toArray := ⟨_, e, rfl, _, rfl⟩
  have hl' : s₂.heap.IsList a (intItems xs) := hx ▸ hl
  refine with_size (sum_intListG hh hl' fun h' tk t' hk hz => ?_)
  have e1 : ns = xs.toList.map (·.1) := by
    rw [← nums_intItems, ← hx]
    exact (show numsOf vs.toArray.toList = ns from hi.numsOf).symm
  have e2 : preSum (numAt xs) xs.size = ns.sum := by
    rw [preSum_eq, List.take_of_length_le (by simp), e1]
  rw [e2]
  exact k _ _ H₂ (g₂.trans (Grow.keeps g₂.now hk hz tk)) (.int _ _)

/-- a settled list of ints, whatever else its object holds -/
def IntsAt (H : Mp) (a : Addr) (ns : List Int) : Prop := ∃ o vs n, H a = some o ∧ o.cls = .type "list" ∧ o.data = .seq (vs : List Value).toArray n ∧ IntsAre vs ns
theorem IntsAt.mono {H H' : Mp} {a : Addr} {ns : List Int} (x : IntsAt H a ns) (k : ∀ b o, H b = some o → H' b = some o) : IntsAt H' a ns := let ⟨o, vs, n, e, r⟩ := x; ⟨o, vs, n, k _ _ e, r⟩
theorem ev_lenS {x : Str} {np xp pos : Pos} {a : Addr} {ns : List Int} (W : Wd K H) (G : GEnv env) (hx : env.kindOf "len" = some .globalImplicit) (he : nsIn K mainGlobals "len" = some none) (S : Sc env s H ρ) (hm : (x, D.ptr a) ∈ ρ) (I : IntsAt H a ns) (hz : (ns.length : Int) < 2 ^ 63)
    (h1 : (x == ("__debug__" : Str)) = false) (h2 : (x == ("__classdict__" : Str)) = false) : Ev prog w A env s H (.Call (.Name "len" np) [.Name x xp] [] pos) (.int ns.length) := fun s₁ H₁ g Q E k => by
  refine wpAny_Call_NameR (rd_builtin (W.mono g.sub) g.now G hx he boot_len (by decide) (callWith_builtin1 (args_cons (ev_name S hm G.kind h1 h2 s₁ H₁ g _ _ fun v s₂ H₂ g₂ r => args_nil ?_))))
  cases r
  obtain ⟨o, vs, n, e, hc, hd, hi⟩ := I.mono fun a o e => g₂.sub a o (g.sub a o e)
  have hl : s₂.heap.IsList a vs.toArray := ⟨_, g₂.now _ _ e, hc, _, hd⟩
  have el : vs.toArray.size = ns.length := by simp [hi.length]
  refine len_list hl (by rw [el]; exact hz) ?_
  rw [el]
  exact k _ _ H₂ (g₂.trans (.tok g₂.now _)) (.int _ _)
theorem ev_itemS {x : Str} {xp pos : Pos} {slice : Expr} {a : Addr} {ns : List Int} {j : Nat} {c : Int} (hk : env.scope.kind = .function) (S : Sc env s H ρ) (hm : (x, D.ptr a) ∈ ρ) (I : IntsAt H a ns) (hi : Ev prog w A env s H slice (.int j)) (hc : ns[j]? = some c) (hz : j < 2 ^ 62)
    (h1 : (x == ("__debug__" : Str)) = false) (h2 : (x == ("__classdict__" : Str)) = false)
    (hs : ∀ (a : Addr) (j : Int) (t : Tok), subscripted slice false (.ref a) (.int j t) = operate [.ref a, .int j t] (getItem (.ref a) (.int j t)) := by intro _ _ _; with_unfolding_all rfl) : Ev prog w A env s H (.Subscript (.Name x xp) slice pos) (.int c) := fun s₁ H₁ g Q E k =>
  Subscript_ (ev_name S hm hk h1 h2 s₁ H₁ g _ _ fun v s₂ H₂ g₂ r => hi s₂ H₂ (g.trans g₂) _ _ fun v' s₃ H₃ g₃ r' => by
    cases r' with
    | int _ t =>
      cases r
      obtain ⟨o, vs, n, e, hcl, hd, hin⟩ := I.mono fun a o e => g₃.sub a o (g₂.sub a o (g.sub a o e))
      have hl : s₃.heap.IsList a vs.toArray := ⟨_, g₃.now _ _ e, hcl, _, hd⟩
      obtain ⟨t', ht⟩ := hin.get j c hc
      have hbi : (j : Int) < 2 ^ 62 := by exact_mod_cast hz
      exact tail_any hl.typeIs slot_list_getitem.lookup (wpAny_getItem_list hl (Int.natCast_nonneg _) (by omega) (x := .int c t') (by simpa using ht) (k _ _ H₃ (g₂.trans g₃) (.int _ _))) (hs _ _ _))
end
end Mine

namespace Mine
set_option maxRecDepth 100000 in
set_option maxHeartbeats 8000000 in
open_top hd for PySem.Challenge.rw_wj0011_01
end Mine

namespace Mine

noncomputable abbrev Kf (w : World) : Frag := hd.heap_39 w.params

section
variable {prog : Program} {w : World} {A : Around} {env : Env} {mu : List Addr} {s : Shared} {H : Mp} {ρ ρ' : List (Str × D)} {K : Frag}
theorem ev_gint {x : Str} {pos : Pos} {i : Int} {t : Tok} (W : Wd K H) (G : GEnv env) (hx : env.kindOf x = some .globalImplicit) (e : nsIn K mainGlobals x = some (some (.int i t))) (hd : (x == ("__debug__" : Str)) = false := by decide) :
    Ev prog w A env s H (.Name x pos) (.int i) := fun s₁ H₁ g Q E k => rd_global (W.mono g.sub) g.now G hx e (k _ _ H₁ (.refl g.now) (.int i t)) hd

theorem fn_ISTERMINAL (hA : AOk A 1) (i : Int) : Fn prog w A (Kf w) 91 [.int i] (.bool (decide (i < 256))) := by
  refine fn_of (names := ["x"]) rfl rfl hA.room (fun vs h => by match vs, h with | [a], _ => rfl) rfl (by decide +kernel) ?_
  intro s H s₁ env mu nw W F S g hmu Q E k
  refine x_ret S.now (ev_cmp (ev_name S.sc (.head _) F.g.kind (by decide) (by decide)) (ev_gint (S.now |> fun _ => W) F.g (F.kind rfl) rfl) (o_lt _ _)) fun v s' H' g' r => k v s' H' (.of g') r
end
end Mine
namespace Mine
section
variable {prog : Program} {w : World} {A : Around} {env : Env} {mu : List Addr} {s : Shared} {H : Mp} {ρ ρ' : List (Str × D)} {K : Frag}
theorem fn_ISNONTERMINAL (hA : AOk A 1) (i : Int) : Fn prog w A (Kf w) 98 [.int i] (.bool (decide (256 ≤ i))) := by
  refine fn_of (names := ["x"]) rfl rfl hA.room (fun vs h => by match vs, h with | [a], _ => rfl) rfl (by decide +kernel) ?_
  intro s H s₁ env mu nw W F S g hmu Q E k
  exact x_ret S.now (ev_cmp (ev_name S.sc (.head _) F.g.kind (by decide) (by decide)) (ev_gint W F.g (F.kind rfl) rfl) (o_ge _ _)) fun v s' H' g' r => k v s' H' (.of g') r
theorem fn_ISEOF (hA : AOk A 1) (i : Int) : Fn prog w A (Kf w) 105 [.int i] (.bool (i == 0)) := by
  refine fn_of (names := ["x"]) rfl rfl hA.room (fun vs h => by match vs, h with | [a], _ => rfl) rfl (by decide +kernel) ?_
  intro s H s₁ env mu nw W F S g hmu Q E k
  exact x_ret S.now (ev_cmp (ev_name S.sc (.head _) F.g.kind (by decide) (by decide)) (ev_gint W F.g (F.kind rfl) rfl) (o_eq _ _)) fun v s' H' g' r => k v s' H' (.of g') r

theorem set_name {x : Str} {d : D} {ρ ρ'' : List (Str × D)} (h : ρ.filter (fun p => !(p.1 == x)) = ρ'') : ∀ p ∈ (x, d) :: ρ'', p = (x, d) ∨ (p ∈ ρ ∧ p.1 ≠ x) := fun p hp => by
  subst h
  rcases List.mem_cons.mp hp with q | q
  · exact .inl q
  · obtain ⟨a, b⟩ := List.mem_filter.mp q
    exact .inr ⟨a, by simpa using b⟩
theorem bind_fn {scope : Scope} {x : Str} {px : Pos} {d : D} (F : FEnv scope env mu) (hx : scope.names.lookup x = some .local ∨ scope.names.lookup x = some .cell) {ns : List Str} (hn : ρ.map (·.1) = ns) (hc : ns.contains x = false) :
    Binds prog w A env mu ρ (.Name x px) d ((x, d) :: ρ) := by
  have hρ := new_name (ρ := ρ) (x := x) (d := d) hn hc
  rcases hx with hx | hx
  · exact bind_loc (F.kind hx) F.g.kind hρ
  · obtain ⟨c, hc', hcm, hap⟩ := F.own x (mem_of_lookup hx)
    exact bind_cell (F.kind hx) F.g.kind hc' hcm hap hρ

abbrev dints (l : List Int) : D := .list (l.map D.int)
def totalsL (ws : List Int) : List Int := ws.foldl (fun ts x => ts ++ ts.map (· + x)) [0]
theorem totalsL_len (ws : List Int) : (totalsL ws).length = 2 ^ ws.length := by
  have : ∀ (ws : List Int) (ts : List Int), (ws.foldl (fun ts x => ts ++ ts.map (· + x)) ts).length = ts.length * 2 ^ ws.length := by
    intro ws
    induction ws with
    | nil => intro ts; simp
    | cons a r ih => intro ts; rw [List.foldl_cons, ih]; simp [Nat.pow_succ]; rw [← Nat.two_mul, Nat.mul_comm 2, Nat.mul_assoc, Nat.mul_comm 2]
  unfold totalsL
  rw [this ws [0]]; simp

theorem fn_totals (hA : AOk A 2) (ws : List Int) (hw : ws.length ≤ 10) : Fn prog w A (Kf w) 115 [dints ws] (dints (totalsL ws)) := by
  refine fn_of (names := ["weights"]) rfl rfl hA.room (fun vs h => by match vs, h with | [a], _ => rfl) rfl (by decide +kernel) ?_
  intro s H s₁ env mu nw W F S g hmu Q E k
  have hB : AOk (A.deeper env) 1 := hA.deeper
  refine x_set S F.g.kind (F.kind rfl) (ev_list (evl_cons ev_int evl_nil) (by decide)) (set_name rfl) rfl fun s₂ H₂ S₂ g₂ => ?_
  refine x_for (c := D.int) (xs := ws) (fun i => [("totals", dints (totalsL (ws.take i))), ("weights", dints ws)]) (fun i a => [("x", .int a), ("totals", dints (totalsL (ws.take i))), ("weights", dints ws)]) (fun _ => []) hB.handled S₂ (fun _ h => absurd h List.not_mem_nil)
    (fun _ _ h => absurd h List.not_mem_nil) (evit_list hB.handled (ev_name S₂.sc (.tail _ (.head _)) F.g.kind (by decide) (by decide))) (fun i a _ => bind_fn (ns := ["totals", "weights"]) F (.inr rfl) rfl (by decide +kernel)) (Qb := fun _ _ => False) (Qr := fun _ _ _ => False) ?_ ?_ (fun _ _ _ h => h.elim) (fun _ _ _ _ h => h.elim)
  · intro i a s₃ H₃ ha up S₃ L₃ E'
    have hi : i < ws.length := (List.getElem?_eq_some_iff.mp ha).1
    have hlen : (totalsL (ws.take i)).length ≤ 1024 := by
      rw [totalsL_len, List.length_take]; exact Nat.pow_le_pow_right (by decide) (show min i ws.length ≤ 10 by omega)
    have hnext : totalsL (ws.take (i + 1)) = totalsL (ws.take i) ++ (totalsL (ws.take i)).map (· + a) := by
      unfold totalsL; rw [List.take_add_one, ha, List.foldl_append]; rfl
    have nm : ∀ {x : Str} {pos : Pos} {d : D}, (x, d) ∈ ([("x", .int a), ("totals", dints (totalsL (ws.take i))), ("weights", dints ws)] : List (Str × D)) → (x == ("__debug__" : Str)) = false → (x == ("__classdict__" : Str)) = false → Ev prog w (A.deeper env) env s₃ H₃ (.Name x pos) d := fun h1 h2 h3 => ev_name S₃.sc h1 F.g.kind h2 h3
    refine x_set S₃ F.g.kind (F.kind rfl) (ev_bin (nm (.tail _ (.head _)) (by decide) (by decide)) (ev_of_evc (evc_map (c := D.int) (xs := totalsL (ws.take i)) [("x", .int a)] (fun t => D.int (t + a)) S₃ (fun p hp => ?_) ["x"] rfl (by decide +kernel) (.inl rfl) (by decide +kernel) ⟨.inl (F.kind rfl), trivial⟩
      (evit_list hB.handled (nm (.tail _ (.head _)) (by decide) (by decide))) ?_ ?_)) (o_addl _ _ ?_)) (set_name rfl) rfl fun s₄ H₄ S₄ g₄ => ?_
    · rw [List.mem_singleton.mp hp]; exact .head _
    · exact Nat.le_trans hlen (by decide)
    · intro cenv mu' t s₅ H₅ ht C up' S₅
      exact ev_bin (ev_name S₅.sc (.head _) C.kind (by decide) (by decide)) (ev_name S₅.sc (.tail _ (.head _)) C.kind (by decide) (by decide)) (o_add _ _)
    · rw [List.length_map, List.length_map]; exact Nat.le_trans (Nat.add_le_add hlen hlen) (by decide)
    · refine x_nil ⟨H₄, g₄, ?_, fun _ h => absurd h List.not_mem_nil⟩
      have e : (totalsL (ws.take i)).map D.int ++ (totalsL (ws.take i)).map (fun t => D.int (t + a)) = (totalsL (ws.take (i + 1))).map D.int := by
        rw [hnext, List.map_append, List.map_map]; rfl
      rw [e] at S₄
      exact S₄.less fun p hp => by
        rcases List.mem_cons.mp hp with rfl | hp
        · exact .head _
        · rw [List.mem_singleton.mp hp]; exact .tail _ (.tail _ (.head _))
  · intro s₃ H₃ g₃ S₃ L₃ E'
    refine x_nil ?_
    rw [List.take_length] at S₃
    exact x_ret S₃.now (ev_name S₃.sc (.head _) F.g.kind (by decide) (by decide)) fun v s' H' g' r => k v s' H' ((g₂.trans g₃).trans (.of g')) r
end
end Mine

namespace Mine
section
variable {prog : Program} {w : World} {A : Around} {env : Env} {mu : List Addr} {s : Shared} {H : Mp} {ρ ρ' : List (Str × D)} {K : Frag}

def wordsA : List Str := ["OPTIMIZED", "NEWLOCALS", "VARARGS", "VARKEYWORDS", "NESTED"]
def wordsB : List Str := ["GENERATOR", "NOFREE", "COROUTINE", "ITERABLE_COROUTINE", "ASYNC_GENERATOR"]
def hexW (k : Nat) : Str := baseText "0x" 16 (2 ^ k)
def wordsL : List Str := wordsA ++ wordsB ++ (List.range 22).map fun k => hexW (10 + k)
abbrev dstrs (l : List Str) : D := .list (l.map D.str)

theorem hexW_len : ∀ k, k < 32 → (hexW k).length ≤ 12 := by decide +kernel

theorem fn_words (hA : AOk A 2) : Fn prog w A (Kf w) 120 [] (dstrs wordsL) := by
  refine fn_of (names := []) rfl rfl hA.room (fun vs h => by match vs, h with | [], _ => rfl) rfl (by decide +kernel) ?_
  intro s H s₁ env mu nw W F S g hmu Q E k
  have hB : AOk (A.deeper env) 1 := hA.deeper
  refine x_setm (l := wordsA.map D.str) (ρ' := []) S F.g.kind (F.kind rfl) (evl_cons ev_str (evl_cons ev_str (evl_cons ev_str (evl_cons ev_str (evl_cons ev_str evl_nil))))) (by decide) (fun a p hp => .inl (List.mem_singleton.mp hp)) rfl fun a s₂ H₂ ha S₂ L₂ g₂ => ?_
  refine x_iaddl (l' := wordsB.map D.str) S₂ F.g.kind (F.kind rfl) (.head _) (fun p hp _ => List.mem_singleton.mp hp) (.head _) L₂ (ev_list (evl_cons ev_str (evl_cons ev_str (evl_cons ev_str (evl_cons ev_str (evl_cons ev_str evl_nil))))) (by decide)) (by decide) (by decide) fun s₃ H₃ S₃ L₃ g₃ => ?_
  have gb : Step mu s₁ H s₃ H₃ := g₃.back g₂ fun b hb => by
    rcases List.mem_cons.mp hb with q | q
    · exact .inr (q ▸ ha)
    · exact .inl q
  obtain ⟨H₄, g₄, S₄, r₄, up₄⟩ := S₃.fix (fun z => Nat.not_lt.mpr ha (S.out _ z).2) S.loc L₃ gb ha
  have S₅ := S₄.retype r₄
  have W₅ : Wd (Kf w) H₄ := W.mono g₄.sub
  refine x_ret S₅.now (ev_bin (ev_name S₅.sc (.head _) F.g.kind (by decide) (by decide)) (ev_of_evc (evc_map (c := fun i : Nat => D.int (10 + i)) (xs := List.range 22) [] (fun k => D.str (hexW (10 + k))) S₅ (fun p hp => absurd hp List.not_mem_nil) [] rfl (by decide +kernel) (.inl rfl) (by decide +kernel) trivial
    (evit_range2 hB.handled W₅ F.g (F.kind rfl) rfl ev_int ev_int (by decide) (by decide) (by decide)) (by decide) ?_)) (o_addl _ _ (by decide))) fun v s' H' g' r => k v s' H' (g₄.trans (.of g')) ?_
  · intro cenv mu' i s₆ H₆ hi C up S₆
    have hi' : i < 22 := List.mem_range.mp hi
    have hb2 : Builtin.Int.intBits 2 = 2 := by decide +kernel
    have ht : ((10 : Int) + (i : Nat)).toNat = 10 + i := by omega
    refine ev_builtin (W₅.mono up) (C.g F.g) (C.other rfl) rfl boot_hex (by decide) (evl_cons (ev_bin ev_int (ev_name S₆.sc (.head _) C.kind (by decide) (by decide)) (o_pow 2 (10 + i) (by omega) (by rw [hb2]; omega))) evl_nil) ?_
    rw [ht]
    exact c_hex _ (Nat.le_trans (hexW_len (10 + i) (by omega)) (by decide))
  · have e : wordsA.map D.str ++ wordsB.map D.str ++ (List.range 22).map (fun k => D.str (hexW (10 + k))) = wordsL.map D.str := by
      unfold wordsL; rw [List.map_append, List.map_append, List.map_map]; rfl
    rw [e] at r; exact r

theorem fn_place (hA : AOk A 1) {ws : List Str} {x : Str} {j : Nat} (hj : ws[j]? = some x) (hb : ∀ m, m < j → ws[m]? ≠ some x) (hz : j < 2 ^ 62) : Fn prog w A (Kf w) 127 [.str x, dstrs ws] (.int j) := by
  refine fn_of (names := ["word", "among"]) rfl rfl hA.room (fun vs h => by match vs, h with | [a, b], _ => rfl) rfl (by decide +kernel) ?_
  intro s H s₁ env mu nw W F S g hmu Q E k
  exact x_ret S.now (ev_method W (ev_name S.sc (.tail _ (.head _)) F.g.kind (by decide) (by decide)) ty_list PySem.F.plainAttrs_list PySem.F.slot_list_index PySem.F.type_list_index (evl_cons (ev_name S.sc (.head _) F.g.kind (by decide) (by decide)) evl_nil) (c_index hj hb hz) rfl) fun v s' H' g' r => k v s' H' (.of g') r
end
end Mine

namespace Mine
section
variable {prog : Program} {w : World} {A : Around} {env : Env} {mu : List Addr} {s : Shared} {H : Mp} {ρ ρ' : List (Str × D)} {K : Frag}

abbrev rng (n : Nat) : List D := (List.range n).map fun i : Nat => D.int i
def shL (pot : Nat) : List (List Int) := (List.range (pot + 1)).flatMap fun a => (List.range (pot + 1 - a)).flatMap fun b => (List.range (pot + 1 - a - b)).flatMap fun c => (List.range (pot + 1 - a - b - c)).flatMap fun d : Nat => [[(a : Int), (b : Int), (c : Int), (d : Int), (pot : Int) - a - b - c - d]]
abbrev shD (pot : Nat) : List D := (List.range (pot + 1)).flatMap fun a => (List.range (pot + 1 - a)).flatMap fun b => (List.range (pot + 1 - a - b)).flatMap fun c => (List.range (pot + 1 - a - b - c)).flatMap fun d : Nat => if true then [tupI [(a : Int), (b : Int), (c : Int), (d : Int), (pot : Int) - a - b - c - d]] else []
theorem shD_eq (pot : Nat) : shD pot = (shL pot).map tupI := by
  unfold shD shL
  simp only [List.map_flatMap, List.map_cons, List.map_nil, if_true]
theorem shL_len : ∀ pot, pot < 7 → (shL pot).length ≤ 210 := by decide +kernel

theorem fn_sharings (hA : AOk A 2) (pot : Nat) (hp : pot < 7) : Fn prog w A (Kf w) 137 [.int pot] (.list ((shL pot).map tupI)) := by
  refine fn_of (names := ["pot"]) rfl rfl hA.room (fun vs h => by match vs, h with | [a], _ => rfl) rfl (by decide +kernel) ?_
  intro s H s₁ env mu nw W F S g hmu Q E k
  have hB : AOk (A.deeper env) 1 := hA.deeper
  have hz : (shD pot).length ≤ sizeLine := by rw [shD_eq, List.length_map]; exact Nat.le_trans (shL_len pot hp) (by decide)
  rw [← shD_eq] at k
  have e1 : ((pot : Int) + 1) = ((pot + 1 : Nat) : Int) := by omega
  refine x_ret S.now (ev_of_evc (evc_of (ρf := [("pot", .int pot)]) S (fun p hp => hp) (fs := ["pot"]) rfl (by decide +kernel) ⟨.inl (F.kind rfl), trivial⟩
    (evit_range1 (n := pot + 1) hB.handled W F.g (F.kind rfl) rfl (by rw [← e1]; exact ev_bin (ev_name S.sc (.head _) F.g.kind (by decide) (by decide)) ev_int (o_add _ _)) (by omega)) hz ?_)) fun v s' H' g' r => k v s' H' (.of g') r
  intro cenv mu' Dl s₂ H₂ g₂ C hD
  have W₂ : Wd (Kf w) H₂ := W.mono g₂.sub
  have G := C.g F.g
  have nm : ∀ {ρ : List (Str × D)} {s₃ : Shared} {H₃ : Mp} {x : Str} {pos : Pos} {d : D}, St cenv mu' s₃ H₃ ρ → (x, d) ∈ ρ → (x == ("__debug__" : Str)) = false → (x == ("__classdict__" : Str)) = false → Ev prog w (A.deeper env) cenv s₃ H₃ (.Name x pos) d := fun S h1 h2 h3 => ev_name S.sc h1 C.kind h2 h3
  refine comp_more (c := fun i : Nat => D.int i) rfl rfl hD (fun a => [("a", .int a), ("pot", .int pot)]) (fun a => rng (pot + 1 - a)) _ (fun a ha => bind_name C (.inl rfl) (by simp; decide +kernel)) (fun a ha q hq => .tail _ hq) hB.handled (fun a ha s₃ H₃ up S₃ => ?_) fun a ha => ?_
  · have ha' := List.mem_range.mp ha
    have e : ((pot + 1 - a : Nat) : Int) = (pot : Int) + 1 - a := by omega
    refine evit_range1 (n := pot + 1 - a) hB.handled (W₂.mono up) G (C.other rfl) rfl ?_ (by omega)
    rw [e]
    exact ev_bin (ev_bin (nm S₃ (.tail _ (.head _)) (by decide) (by decide)) ev_int (o_add _ _)) (nm S₃ (.head _) (by decide) (by decide)) (o_sub _ _)
  have ha' := List.mem_range.mp ha
  refine comp_more (c := fun i : Nat => D.int i) rfl rfl hD (fun b => [("b", .int b), ("a", .int a), ("pot", .int pot)]) (fun b => rng (pot + 1 - a - b)) _ (fun b hb => bind_name C (.inl rfl) (by simp; decide +kernel)) (fun b hb q hq => .tail _ hq) hB.handled (fun b hb s₃ H₃ up S₃ => ?_) fun b hb => ?_
  · have hb' := List.mem_range.mp hb
    have e : ((pot + 1 - a - b : Nat) : Int) = (pot : Int) + 1 - a - b := by omega
    refine evit_range1 (n := pot + 1 - a - b) hB.handled (W₂.mono up) G (C.other rfl) rfl ?_ (by omega)
    rw [e]
    exact ev_bin (ev_bin (ev_bin (nm S₃ (.tail _ (.tail _ (.head _))) (by decide) (by decide)) ev_int (o_add _ _)) (nm S₃ (.tail _ (.head _)) (by decide) (by decide)) (o_sub _ _)) (nm S₃ (.head _) (by decide) (by decide)) (o_sub _ _)
  have hb' := List.mem_range.mp hb
  refine comp_more (c := fun i : Nat => D.int i) rfl rfl hD (fun c => [("c", .int c), ("b", .int b), ("a", .int a), ("pot", .int pot)]) (fun c => rng (pot + 1 - a - b - c)) _ (fun c hc => bind_name C (.inl rfl) (by simp; decide +kernel)) (fun c hc q hq => .tail _ hq) hB.handled (fun c hc s₃ H₃ up S₃ => ?_) fun c hc => ?_
  · have hc' := List.mem_range.mp hc
    have e : ((pot + 1 - a - b - c : Nat) : Int) = (pot : Int) + 1 - a - b - c := by omega
    refine evit_range1 (n := pot + 1 - a - b - c) hB.handled (W₂.mono up) G (C.other rfl) rfl ?_ (by omega)
    rw [e]
    exact ev_bin (ev_bin (ev_bin (ev_bin (nm S₃ (.tail _ (.tail _ (.tail _ (.head _)))) (by decide) (by decide)) ev_int (o_add _ _)) (nm S₃ (.tail _ (.tail _ (.head _))) (by decide) (by decide)) (o_sub _ _)) (nm S₃ (.tail _ (.head _)) (by decide) (by decide)) (o_sub _ _)) (nm S₃ (.head _) (by decide) (by decide)) (o_sub _ _)
  refine comp_last (c := fun i : Nat => D.int i) rfl rfl hD (fun d => [("d", .int d), ("c", .int c), ("b", .int b), ("a", .int a), ("pot", .int pot)]) (fun _ => true) (fun d => tupI [(a : Int), (b : Int), (c : Int), (d : Int), (pot : Int) - a - b - c - d]) (fun d hd => bind_name C (.inl rfl) (by simp; decide +kernel)) (fun d hd q hq => .tail _ hq) (fun _ _ _ _ _ _ => evts_nil) fun d hd _ s₃ H₃ up S₃ => ?_
  exact ev_tuple (evl_cons (nm S₃ (.tail _ (.tail _ (.tail _ (.head _)))) (by decide) (by decide)) (evl_cons (nm S₃ (.tail _ (.tail _ (.head _))) (by decide) (by decide)) (evl_cons (nm S₃ (.tail _ (.head _)) (by decide) (by decide)) (evl_cons (nm S₃ (.head _) (by decide) (by decide)) (evl_cons
    (ev_bin (ev_bin (ev_bin (ev_bin (nm S₃ (.tail _ (.tail _ (.tail _ (.tail _ (.head _))))) (by decide) (by decide)) (nm S₃ (.tail _ (.tail _ (.tail _ (.head _)))) (by decide) (by decide)) (o_sub _ _)) (nm S₃ (.tail _ (.tail _ (.head _))) (by decide) (by decide)) (o_sub _ _)) (nm S₃ (.tail _ (.head _)) (by decide) (by decide)) (o_sub _ _)) (nm S₃ (.head _) (by decide) (by decide)) (o_sub _ _)) evl_nil))))) (show 5 ≤ sizeLine by decide)
end
end Mine

namespace Mine
section
variable {prog : Program} {w : World} {A : Around} {env : Env} {mu : List Addr} {s : Shared} {H : Mp} {ρ ρ' : List (Str × D)} {K : Frag}

def bitP (m k : Nat) : Bool := Builtin.bitAnd ((m : Int).fdiv (2 ^ k)) 1 != 0
def needers (ws ts : List Int) (q : Int) (m : Nat) : List Nat := (List.range 5).filter fun k => bitP m k && decide (q ≤ ts.getD m 0 - ws.getD k 0)
def heavyAt (ws ts : List Int) (q : Int) (m : Nat) : Bool := decide (q < ts.getD m 0) && decide ((needers ws ts q m).map (fun k : Nat => (k : Int)) = [])
def noHeavy (ws ts : List Int) (q : Int) : Bool := (List.range 32).all fun m => !heavyAt ws ts q m

theorem at_ints {l : List Int} {k : Nat} (h : k < l.length) : (l.map D.int)[k]? = some (.int (l.getD k 0)) := by
  rw [List.getElem?_map, List.getElem?_eq_getElem h]; simp [List.getD, List.getElem?_eq_getElem h]

theorem fn_noheavy (hA : AOk A 2) (ws ts : List Int) (q : Int) (hw : ws.length = 5) (ht : ts.length = 32) : Fn prog w A (Kf w) 147 [dints ws, dints ts, .int q] (.bool (noHeavy ws ts q)) := by
  refine fn_of (names := ["weights", "totals", "quota"]) rfl rfl hA.room (fun vs h => by match vs, h with | [a, b, c], _ => rfl) rfl (by decide +kernel) ?_
  intro s H s₁ env mu nw W F S g hmu Q E k
  have hB : AOk (A.deeper env) 1 := hA.deeper
  refine x_forP (c := fun i : Nat => D.int i) (xs := List.range 32) (fun _ => [("weights", dints ws), ("totals", dints ts), ("quota", .int q)]) (fun i a => [("m", .int a), ("weights", dints ws), ("totals", dints ts), ("quota", .int q)]) (fun _ => []) hB.handled S (fun _ h => absurd h List.not_mem_nil)
    (fun _ _ h => absurd h List.not_mem_nil) (evit_range1 (n := 32) hB.handled W F.g (F.kind rfl) rfl ev_int (by decide)) (fun i a _ => bind_fn (ns := ["weights", "totals", "quota"]) F (.inr rfl) rfl (by decide +kernel)) (fun i => ∀ j, j < i → heavyAt ws ts q j = false) (fun j h => absurd h (Nat.not_lt_zero _))
    (Qb := fun _ _ => False) (Qr := fun v s' H' => Rel H' v (.bool (noHeavy ws ts q))) ?_ ?_ (fun _ _ _ h => h.elim) (fun v s' H' g' r => k v s' H' g' r)
  · intro i m s₃ H₃ hm hP up S₃ L₃ E'
    have hi : i < 32 := by have := (List.getElem?_eq_some_iff.mp hm).1; simpa using this
    have hmi : m = i := by rw [List.getElem?_range hi] at hm; cases hm; rfl
    subst hmi
    have W₃ : Wd (Kf w) H₃ := W.mono up
    have nm : ∀ {x : Str} {pos : Pos} {d : D}, (x, d) ∈ ([("m", .int m), ("weights", dints ws), ("totals", dints ts), ("quota", .int q)] : List (Str × D)) → (x == ("__debug__" : Str)) = false → (x == ("__classdict__" : Str)) = false → Ev prog w (A.deeper env) env s₃ H₃ (.Name x pos) d := fun h1 h2 h3 => ev_name S₃.sc h1 F.g.kind h2 h3
    have htm := at_ints (l := ts) (k := m) (by omega)
    have hcomp := fun (a : List Nat) (h : a.map (fun k : Nat => D.int k) = (a.map (fun k : Nat => (k : Int))).map D.int) => h
    refine x_if (b := heavyAt ws ts q m) S₃.now (evt_and (evt_cmp (ev_item (nm (.tail _ (.tail _ (.head _))) (by decide) (by decide)) (nm (.head _) (by decide) (by decide)) htm (by omega)) (nm (.tail _ (.tail _ (.tail _ (.head _)))) (by decide) (by decide)) (o_gt _ _)) fun _ =>
      evt_cmp (ev_of_evc (out := ((needers ws ts q m).map (fun k : Nat => (k : Int))).map D.int) ?_) (ev_list evl_nil (by decide)) (o_eqli _ [] (by have := hB.units; unfold cLine; omega))) ?_ ?_
    · rw [List.map_map]
      refine evc_filter (c := fun i : Nat => D.int i) (xs := List.range 5) [("m", .int m), ("weights", dints ws), ("totals", dints ts), ("quota", .int q)] (fun k => bitP m k && decide (q ≤ ts.getD m 0 - ws.getD k 0)) (fun k => D.int k) S₃ (fun p hp => hp) ["m", "weights", "totals", "quota"] rfl (by decide +kernel) (.inl rfl) (by decide +kernel)
        ⟨.inl (F.kind rfl), .inl (F.kind rfl), .inl (F.kind rfl), .inl (F.kind rfl), trivial⟩ (evit_range1 (n := 5) hB.handled W₃ F.g (F.kind rfl) rfl ev_int (by decide)) (by decide) ?_
      intro cenv mu' kk s₅ H₅ hk C up' S₅
      have hk' : kk < 5 := List.mem_range.mp hk
      have nc : ∀ {x : Str} {pos : Pos} {d : D}, (x, d) ∈ ([("k", .int kk), ("m", .int m), ("weights", dints ws), ("totals", dints ts), ("quota", .int q)] : List (Str × D)) → (x == ("__debug__" : Str)) = false → (x == ("__classdict__" : Str)) = false → Ev prog w (A.deeper env) cenv s₅ H₅ (.Name x pos) d := fun h1 h2 h3 => ev_name S₅.sc h1 C.kind h2 h3
      refine ⟨evts_one (evt_and (evt_int (ev_bin (ev_bin (nc (.tail _ (.head _)) (by decide) (by decide)) (nc (.head _) (by decide) (by decide)) (o_shr _ _ (by omega))) ev_int (o_and _ _))) fun _ =>
        evt_cmp (ev_bin (ev_item (nc (.tail _ (.tail _ (.tail _ (.head _)))) (by decide) (by decide)) (nc (.tail _ (.head _)) (by decide) (by decide)) htm (by omega)) (ev_item (nc (.tail _ (.tail _ (.head _))) (by decide) (by decide)) (nc (.head _) (by decide) (by decide)) (at_ints (l := ws) (k := kk) (by omega)) (by omega)) (o_sub _ _)) (nc (.tail _ (.tail _ (.tail _ (.tail _ (.head _))))) (by decide) (by decide)) (o_ge _ _)), fun _ => nc (.head _) (by decide) (by decide)⟩
    · intro hb s₄ H₄ g₄
      refine x_ret g₄.now ev_bool fun v s' H' g' r => ⟨H', .of (g₄.trans g'), ?_⟩
      have : noHeavy ws ts q = false := by
        unfold noHeavy
        rw [Bool.eq_false_iff]
        intro h
        have := List.all_eq_true.mp h m (List.mem_range.mpr hi)
        rw [hb] at this; cases this
      rw [this]; exact r
    · intro hb s₄ H₄ g₄
      refine x_nil (x_nil ⟨H₄, .of g₄, (S₃.grow g₄).less fun p hp => .tail _ hp, fun _ h => absurd h List.not_mem_nil, fun j hj => ?_⟩)
      rcases Nat.lt_succ_iff_lt_or_eq.mp hj with h | h
      · exact hP j h
      · rw [h]; exact hb
  · intro s₃ H₃ hP g₃ S₃ L₃ E'
    refine x_nil (x_ret S₃.now ev_bool fun v s' H' g' r => k v s' H' (g₃.trans (.of g')) ?_)
    have : noHeavy ws ts q = true := by
      unfold noHeavy
      rw [List.all_eq_true]
      intro m hm
      rw [hP m (by simpa using hm)]; rfl
    rw [this]; exact r
end
end Mine

namespace Mine
section
variable {prog : Program} {w : World} {A : Around} {env : Env} {mu : List Addr} {s : Shared} {H : Mp} {ρ ρ' : List (Str × D)} {K : Frag}

theorem ev_titem {value slice : Expr} {pos : Pos} {l : List D} {i : Nat} {d : D} (hv : Ev prog w A env s H value (.tup l)) (hi : Ev prog w A env s H slice (.int i)) (hd : l[i]? = some d) (hb : i < 2 ^ 62)
    (hs : ∀ (a : Addr) (j : Int) (t : Tok), subscripted slice false (.ref a) (.int j t) = operate [.ref a, .int j t] (getItem (.ref a) (.int j t)) := by intro _ _ _; with_unfolding_all rfl) : Ev prog w A env s H (.Subscript value slice pos) d := fun s₁ H₁ g Q E k =>
  Subscript_ (hv s₁ H₁ g _ _ fun v s₂ H₂ g₂ r => hi s₂ H₂ (g.trans g₂) _ _ fun v' s₃ H₃ g₃ r' => by
    cases r' with
    | int _ t =>
      cases r with
      | tup h rs =>
        obtain ⟨x, hx, rx⟩ := rs.get i hd
        have hl : IsTup s₃.heap _ _ := ⟨_, g₃.now _ _ (g₃.sub _ _ h), rfl, _, rfl⟩
        have hbi : (i : Int) < 2 ^ 62 := by exact_mod_cast hb
        have hlt := (List.getElem?_eq_some_iff.mp hx).1
        exact tail_any hl.typeIs PySem.F.slot_tuple_getitem.lookup (PyProof.Rows.getItem_tuple hl (by omega) (by omega) (seqIndex_of (Int.natCast_nonneg _) (by rw [List.size_toArray]; exact_mod_cast hlt)) (by simpa using hx) (k _ _ H₃ (g₂.trans g₃) (rx.mono g₃.sub))) (hs _ _ _))

theorem swaps_cell {elt : Expr} {gens : List Comprehension} {scope : Scope} {pos px : Pos} {x : Str} {line : Nat} (hk : env.kindOf x = some .cell) : swapsWith (.ListComp elt gens scope pos) (some (.Name x px)) line env = pure false := by
  simp only [swapsWith, hk]
  cases env.blockKind == .function <;> rfl

theorem evt_bool {e : Expr} {b : Bool} (h : Ev prog w A env s H e (.bool b)) (he : ∀ whole, isTrue e env whole = (do let v ← whole; standAt e.pos; holding [v] (truthy v)) := by intro _; rfl) : EvT prog w A env s H e b := fun s₁ H₁ g Q E k =>
  wpAny_isTrue_value (h s₁ H₁ g _ _ fun v s' H' g' r => by cases r; exact wpAny_truthy_bool (k s' H' g')) (he _)

theorem FEnv.up {scope : Scope} {env : Env} {mu mu' : List Addr} (F : FEnv scope env mu) (h : ∀ a ∈ mu, a ∈ mu') : FEnv scope env mu' := ⟨F.g, F.names, fun x hx => let ⟨c, a, b, d⟩ := F.own x hx; ⟨c, a, h c b, d⟩⟩

/-- what the groups that win with these shares weigh -/
def shortAt (ws : List Int) (k : Nat) (s : Nat) : Int := if decide (256 + (s : Int) - ws.getD k 0 < 256) then 2 ^ k else 0
def shortRow (ws : List Int) (pot k : Nat) : List Int := (List.range (pot + 1)).map (shortAt ws k)
def lowOf (ws : List Int) (t : List Int) : Int := ((List.range 5).map fun k => shortAt ws k (t.getD k 0).toNat).sum
theorem shL_ok : ∀ pot, pot < 7 → ((shL pot).all fun t => (t.length == 5) && t.all fun x => decide (0 ≤ x) && decide (x ≤ pot)) = true := by decide +kernel
theorem at_rng {α : Type} {f : Nat → α} {n k : Nat} (h : k < n) : ((List.range n).map f)[k]? = some (f k) := by
  rw [List.getElem?_map, List.getElem?_range h]; rfl

theorem fn_views (hA : AOk A 3) (ws : List Int) (pot : Nat) (ks : List (List Int)) (hw : ws.length = 5) (hp : pot < 7) :
    Fn prog w A (Kf w) 142 [dints ws, .int pot, .list (ks.map tupI)] (.list ((shL pot).map fun t => .tup [.bool (ks.contains t), .int (lowOf ws t)])) := by
  refine fn_of (names := ["weights", "pot", "kept"]) rfl rfl hA.room (fun vs h => by match vs, h with | [a, b, c], _ => rfl) rfl (by decide +kernel) ?_
  intro s H s₁ env mu nw W F S g hmu Q E k
  have hB : AOk (A.deeper env) 2 := hA.deeper
  obtain ⟨cS, hcS, hcSm, hcSa⟩ := F.own "short" (by decide +kernel)
  refine x_setc S F.g.kind (F.kind rfl) hcS hcSm hcSa (d := .list ((List.range 5).map fun k => dints (shortRow ws pot k))) (ev_of_evc (evc_map (c := fun i : Nat => D.int i) (xs := List.range 5) [("weights", dints ws), ("pot", .int pot)] (fun k => dints (shortRow ws pot k)) S (fun p hp => ?_) ["weights", "pot"] rfl (by decide +kernel) (.inr rfl) (by decide +kernel)
    ⟨.inl (F.kind rfl), .inl (F.kind rfl), trivial⟩ (evit_range1 (n := 5) hB.handled W F.g (F.kind rfl) rfl ev_int (by decide)) (by decide) ?_)) (set_name rfl) (swaps_cell (F.kind rfl)) fun s₂ H₂ S₂ g₂ => ?_
  · rcases List.mem_cons.mp hp with q | q
    · rw [q]; exact .head _
    · rw [List.mem_singleton.mp q]; exact .tail _ (.head _)
  · intro cenv mu' kk s₃ H₃ hk C up S₃
    have hk' : kk < 5 := List.mem_range.mp hk
    have G := C.g F.g
    have W₃ : Wd (Kf w) H₃ := W.mono up
    have e1 : ((pot : Int) + 1) = ((pot + 1 : Nat) : Int) := by omega
    have nm : ∀ {x : Str} {pos : Pos} {d : D}, (x, d) ∈ ([("k", .int kk), ("weights", dints ws), ("pot", .int pot)] : List (Str × D)) → (x == ("__debug__" : Str)) = false → (x == ("__classdict__" : Str)) = false → Ev prog w (A.deeper env) cenv s₃ H₃ (.Name x pos) d := fun h1 h2 h3 => ev_name S₃.sc h1 C.kind h2 h3
    have hrow : dints (shortRow ws pot kk) = .list ((List.range (pot + 1)).map fun s => D.int (shortAt ws kk s)) := by
      unfold shortRow; rw [dints, List.map_map]; rfl
    rw [hrow]
    refine ev_of_evc (evc_map (c := fun i : Nat => D.int i) (xs := List.range (pot + 1)) [("k", .int kk), ("weights", dints ws)] (fun s => D.int (shortAt ws kk s)) S₃ (fun p hp => ?_) ["k", "weights"] rfl (by decide +kernel) (.inl rfl) (by decide +kernel)
      ⟨.inl (C.other rfl), C.free rfl, trivial⟩ (evit_range1 (n := pot + 1) hB.handled W₃ G (C.other rfl) rfl (by rw [← e1]; exact ev_bin (nm (.tail _ (.tail _ (.head _))) (by decide) (by decide)) ev_int (o_add _ _)) (by omega)) (by rw [List.length_range]; exact Nat.le_trans (show pot + 1 ≤ 7 by omega) (by decide)) ?_)
    · rcases List.mem_cons.mp hp with q | q
      · rw [q]; exact .head _
      · rw [List.mem_singleton.mp q]; exact .tail _ (.head _)
    intro cenv' mu'' ss s₄ H₄ hs C' up' S₄
    have nc : ∀ {x : Str} {pos : Pos} {d : D}, (x, d) ∈ ([("s", .int ss), ("k", .int kk), ("weights", dints ws)] : List (Str × D)) → (x == ("__debug__" : Str)) = false → (x == ("__classdict__" : Str)) = false → Ev prog w (A.deeper env) cenv' s₄ H₄ (.Name x pos) d := fun h1 h2 h3 => ev_name S₄.sc h1 C'.kind h2 h3
    refine ev_ife (evt_bool (ev_call (W₃.mono up') (C'.g G) (C'.other rfl) rfl rfl rfl (evl_cons (ev_bin (ev_bin ev_int (nc (.head _) (by decide) (by decide)) (o_add _ _)) (ev_item (nc (.tail _ (.tail _ (.head _))) (by decide) (by decide)) (nc (.tail _ (.head _)) (by decide) (by decide)) (at_ints (l := ws) (k := kk) (by omega)) (by omega)) (o_sub _ _)) evl_nil) (fn_ISTERMINAL (hB.less (by decide)) _))) (fun hb => ?_) fun hb => ?_
    · have : shortAt ws kk ss = 2 ^ kk := by unfold shortAt; rw [if_pos hb]
      rw [this]
      have hb2 : Builtin.Int.intBits 2 = 2 := by decide +kernel
      exact ev_bin ev_int (nc (.tail _ (.head _)) (by decide) (by decide)) (o_pow 2 kk (by omega) (by rw [hb2]; omega))
    · have : shortAt ws kk ss = 0 := by unfold shortAt; rw [if_neg (by rw [hb]; decide)]
      rw [this]
      exact ev_int
  have S₂' : St env mu s₂ H₂ [("short", .list ((List.range 5).map fun k => dints (shortRow ws pot k))), ("weights", dints ws), ("pot", .int pot), ("kept", .list (ks.map tupI))] := S₂
  have W₂ := W.mono g₂.sub
  refine x_setm (l := []) (ρ' := [("short", .list ((List.range 5).map fun k => dints (shortRow ws pot k))), ("weights", dints ws), ("pot", .int pot), ("kept", .list (ks.map tupI))]) S₂' F.g.kind (F.kind rfl) evl_nil (by decide) (fun a => new_name (ns := ["short", "weights", "pot", "kept"]) rfl (by decide +kernel)) rfl fun av s₃ H₃ ha S₃ L₃ g₃ => ?_
  have g₁₃ := g₂.trans g₃
  let rr : List (Str × D) := [("views", .ptr av), ("short", .list ((List.range 5).map fun k => dints (shortRow ws pot k))), ("weights", dints ws), ("pot", .int pot), ("kept", .list (ks.map tupI))]
  let vd : List Int → D := fun t => .tup [.bool (ks.contains t), .int (lowOf ws t)]
  have W₃ := W.mono g₁₃.sub
  have G := F.g
  refine x_for (c := tupI) (xs := shL pot) (fun _ => rr) (fun _ t => ("shares", tupI t) :: rr) (fun i => [(av, ((shL pot).take i).map vd)]) hB.handled S₃ (fun p hp => by rw [List.mem_singleton.mp hp]; exact L₃) (fun i p hp => by rw [List.mem_singleton.mp hp]; exact .head _)
    (evit_list hB.handled (ev_call W₃ G (F.kind rfl) rfl rfl rfl (evl_cons (ev_name S₃.sc (.tail _ (.tail _ (.tail _ (.head _)))) F.g.kind (by decide) (by decide)) evl_nil) (fn_sharings hB pot hp))) (fun i a _ => ?_) (Qb := fun _ _ => False) (Qr := fun _ _ _ => False) ?_ ?_ (fun _ _ _ h => h.elim) (fun _ _ _ _ h => h.elim)
  · exact bind_fn (ns := ["views", "short", "weights", "pot", "kept"]) (F.up fun a ha => .tail _ ha) (.inr rfl) rfl (by decide +kernel)
  · intro i t s₄ H₄ ht up S₄ L₄ E'
    have hi : i < (shL pot).length := (List.getElem?_eq_some_iff.mp ht).1
    have hmem : t ∈ shL pot := List.mem_of_getElem? ht
    have hok := List.all_eq_true.mp (shL_ok pot hp) t hmem
    simp only [Bool.and_eq_true, beq_iff_eq, List.all_eq_true, decide_eq_true_eq] at hok
    have W₄ := W₃.mono up
    have nm : ∀ {x : Str} {pos : Pos} {d : D}, (x, d) ∈ ([("shares", tupI t), ("views", .ptr av), ("short", .list ((List.range 5).map fun k => dints (shortRow ws pot k))), ("weights", dints ws), ("pot", .int pot), ("kept", .list (ks.map tupI))] : List (Str × D)) → (x == ("__debug__" : Str)) = false → (x == ("__classdict__" : Str)) = false → Ev prog w (A.deeper env) env s₄ H₄ (.Name x pos) d := fun h1 h2 h3 => ev_name S₄.sc h1 F.g.kind h2 h3
    have hsum : dints ((List.range 5).map fun k => shortAt ws k (t.getD k 0).toNat) = .list ((List.range 5).map fun k => D.int (shortAt ws k (t.getD k 0).toNat)) := by
      rw [dints, List.map_map]; rfl
    refine x_append (d := vd t) S₄ F.g.kind (.tail _ (.head _)) (.head _) (L₄ _ (.head _)) (ev_tuple (evl_cons (ev_cmp (nm (.head _) (by decide) (by decide)) (nm (.tail _ (.tail _ (.tail _ (.tail _ (.tail _ (.head _)))))) (by decide) (by decide)) (o_in t ks (by have := hB.units; unfold cLine; omega)))
      (evl_cons (ev_builtin W₄ G (F.kind rfl) rfl boot_sum (by decide) (evl_cons (ev_of_evc (out := (List.range 5).map fun k => D.int (shortAt ws k (t.getD k 0).toNat)) ?_) evl_nil) (by rw [← hsum]; exact c_sum _ hB.handled)) evl_nil)) (show 2 ≤ sizeLine by decide)) ?_ (by decide) (by decide) rfl rfl fun s₅ H₅ S₅ L₅ g₅ => ?_
    · refine evc_map (c := fun i : Nat => D.int i) (xs := List.range 5) [("shares", tupI t), ("short", .list ((List.range 5).map fun k => dints (shortRow ws pot k)))] (fun k => D.int (shortAt ws k (t.getD k 0).toNat)) S₄ (fun p hp => ?_) ["shares", "short"] rfl (by decide +kernel) (.inl rfl) (by decide +kernel)
        ⟨.inl (F.kind rfl), .inl (F.kind rfl), trivial⟩ (evit_range1 (n := 5) hB.handled W₄ G (F.kind rfl) rfl ev_int (by decide)) (by decide) ?_
      · rcases List.mem_cons.mp hp with q | q
        · rw [q]; exact .head _
        · rw [List.mem_singleton.mp q]; exact .tail _ (.tail _ (.head _))
      · intro cenv mu' kk s₆ H₆ hk C up' S₆
        have hk' : kk < 5 := List.mem_range.mp hk
        have nc : ∀ {x : Str} {pos : Pos} {d : D}, (x, d) ∈ ([("k", .int kk), ("shares", tupI t), ("short", .list ((List.range 5).map fun k => dints (shortRow ws pot k)))] : List (Str × D)) → (x == ("__debug__" : Str)) = false → (x == ("__classdict__" : Str)) = false → Ev prog w (A.deeper env) cenv s₆ H₆ (.Name x pos) d := fun h1 h2 h3 => ev_name S₆.sc h1 C.kind h2 h3
        have hx : t.getD kk 0 ∈ t := by
          rw [List.getD_eq_getElem?_getD, List.getElem?_eq_getElem (by omega)]; exact List.getElem_mem _
        obtain ⟨h0, h1⟩ := hok.2 _ hx
        have e : t.getD kk 0 = (((t.getD kk 0).toNat : Nat) : Int) := (Int.toNat_of_nonneg h0).symm
        have hitem := at_ints (l := t) (k := kk) (by omega)
        rw [e] at hitem
        refine ev_item (l := (shortRow ws pot kk).map D.int) (i := (t.getD kk 0).toNat) (ev_item (nc (.tail _ (.tail _ (.head _))) (by decide) (by decide)) (nc (.head _) (by decide) (by decide)) (at_rng hk') (by omega)) (ev_titem (nc (.tail _ (.head _)) (by decide) (by decide)) (nc (.head _) (by decide) (by decide)) hitem (by omega)) ?_ (by omega)
        unfold shortRow
        rw [List.map_map]
        exact at_rng (f := fun s => D.int (shortAt ws kk s)) (by omega)
    · rw [List.length_map, List.length_take]
      exact Nat.le_trans (Nat.le_trans (Nat.min_le_right _ _) (shL_len pot hp)) (by decide)
    · refine x_nil ⟨H₅, g₅, S₅.less fun p hp => .tail _ hp, fun p hp => ?_⟩
      rw [List.mem_singleton.mp hp, List.take_add_one, ht, List.map_append]
      exact L₅
  · intro s₄ H₄ g₄ S₄ L₄ E'
    have L₄' := L₄ _ (.head _)
    rw [List.take_length] at L₄'
    have hav : s₂.heap.objs.size ≤ av := ha
    have hamu : av ∉ mu := fun z => Nat.not_lt.mpr hav (S₂'.out _ z).2
    have g24 : Step mu s₂ H₂ s₄ H₄ := g₄.back g₃ fun b hb => by
      rcases List.mem_cons.mp hb with q | q
      · exact .inr (q ▸ hav)
      · exact .inl q
    obtain ⟨H₅, g₅, S₅, r₅, up₅⟩ := S₄.fix hamu S₂'.loc L₄' g24 hav
    have S₆ := S₅.retype r₅
    exact x_nil (x_ret S₆.now (ev_name S₆.sc (.head _) F.g.kind (by decide) (by decide)) fun v s' H' g' r => k v s' H' ((g₂.trans g₅).trans (.of g')) r)
end
end Mine

namespace Mine
section
variable {prog : Program} {w : World} {A : Around} {env : Env} {mu : List Addr} {s : Shared} {H : Mp} {ρ ρ' : List (Str × D)} {K : Frag}

/-- a call of a built-in on values, the text's own objects in sight -/
def CallW (prog : Program) (w : World) (A : Around) (K : Frag) (id : String) (ds : List D) (d : D) : Prop := ∀ (s : Shared) (H : Mp) (vs : List Value), Now s H → Wd K H → Rels H vs ds → ∀ (Q : Value → Shared → Prop) (E : Value → Shared → Prop),
  (∀ v s' H', Grow s H s' H' → Rel H' v d → Q v s') → wpAny (model prog w) A (call (.builtin id) vs) Q E s
theorem ev_methodW {o : Expr} {name : Str} {apos pos : Pos} {e : Expr} {es : List Expr} {d₀ d : D} {ds : List D} {T id : String} (W : Wd K H) (ho : Ev prog w A env s H o d₀) (hT : TyOf K d₀ T) (pa : PlainAttrs T) (slot : Slot T name id) (hty : typeOf (.builtin id) = pure (.type "method_descriptor"))
    (ha : EvL prog w A env s H (e :: es) ds) (C : CallW prog w A K id (d₀ :: ds) d) (hbase : attributeBase o name env (eval o env) = eval o env)
    (hfew : ((backTo pos (starEach (e :: es) env)).all (fun x => !x.1) && (backToKw pos (keywordEach [] env)).all (fun x => x.1.isSome) && decide ((e :: es).length + ([] : List Keyword).length + (if ([] : List Keyword).isEmpty then 0 else 1) < 30)) = true := by rfl)
    (hline : (apos.endLine == pos.line) = true := by rfl) (hst : starEach (e :: es) env = (false, eval e env) :: starEach es env := by rfl) (hpl : (backTo pos (starEach es env)).any (·.1) = false := by rfl) :
    Ev prog w A env s H (.Call (.Attribute o name apos) (e :: es) [] pos) d := fun s₁ H₁ g Q E k =>
  wpAny_Call_method hbase hfew hline pa slot hty (ho s₁ H₁ g _ _ fun v s₂ H₂ g₂ r =>
    let ⟨t1, t2⟩ := hT s₂ H₂ v g₂.now (W.mono fun a o e => g₂.sub a o (g.sub a o e)) r
    ⟨t1, t2, callWith_method1 (ha s₂ H₂ (g.trans g₂) pos _ _ fun vs s₃ H₃ g₃ rs => C s₃ H₃ (v :: vs) g₃.now (W.mono fun a o e => g₃.sub a o (g₂.sub a o (g.sub a o e))) (.cons (r.mono g₃.sub) rs) _ _ fun v' s' H' g' r' => k v' s' H' ((g₂.trans g₃).trans g') r') hst hpl⟩)

def flagTab : List (Int × PyData) := [(1, .str "OPTIMIZED"), (2, .str "NEWLOCALS"), (4, .str "VARARGS"), (8, .str "VARKEYWORDS"), (16, .str "NESTED"), (32, .str "GENERATOR"), (64, .str "NOFREE"), (128, .str "COROUTINE"), (256, .str "ITERABLE_COROUTINE"), (512, .str "ASYNC_GENERATOR")]
abbrev flagD : List (PyData × PyData) := flagTab.map fun p => (PyData.int p.1, p.2)
def wordAt (k : Nat) : Str := wordsL.getD k ""
theorem flag_look (w : World) : KTD.keyedLook (fun b => (Kf w).lookup b) 15 flagTab = true := by rfl
theorem word_look : ∀ k, k < 32 → (match (Spec.lookup (.int (2 ^ k)) flagD).getD (.str (hexW k)) with | .str x => x == wordAt k | _ => false) = true := by decide +kernel

theorem c_flag {k : Nat} (hk : k < 32) : CallW prog w A (Kf w) "dict.get" [.ptr 15, .int (2 ^ k), .str (hexW k)] (.str (wordAt k)) := fun s H vs n W rs Q E kk => by
  cases rs with
  | cons r rs => cases rs with
    | cons r' rs => cases rs with
      | cons r'' rn =>
        cases rn; cases r; cases r'
        cases r'' with
        | str _ t =>
          obtain ⟨hB, p, l, mg, mb, a, b, T⟩ := W
          have K := kt_keyed_in b (flag_look w)
          have T := (K.keep fun q o e => n _ _ (a q o e)) prog w
          refine call_get2_intTab T (dd := .str (hexW k)) (.str _ _) fun v hv => ?_
          have hl := word_look k hk
          generalize (Spec.lookup (.int (2 ^ k)) flagD).getD (.str (hexW k)) = dd at hv hl
          have hr := hv s.heap
          cases dd with
          | str x =>
            have e : x = wordAt k := by simpa using hl
            subst e
            cases hr
            exact kk _ _ H (.tok n _) (.str _ _)
          | _ => exact absurd (show false = true from hl) (by decide)

theorem ty_flags : TyOf (Kf w) (.ptr 15) "dict" := fun s H v n W r => by
  cases r
  have e := n _ _ (W.at (a := 15) rfl)
  exact ⟨⟨_, e, rfl⟩, fun a q => by cases q; exact ⟨_, e, rfl⟩⟩

/-- the flags that are left before turn i -/
def fa (f i : Nat) : Nat := f / 2 ^ i * 2 ^ i
def bitsTo (f n : Nat) : List Nat := (List.range n).filter f.testBit
def bitNames (f n : Nat) : List Str := (bitsTo f n).map wordAt
def prettyW (f : Nat) : Str := Txt.join ", " (if f = 0 then [baseText "0x" 16 0] else bitNames f 32)

theorem pow_cast (i : Nat) : (2 : Int) ^ i = ((2 ^ i : Nat) : Int) := by rw [Int.natCast_pow]; rfl
theorem fa_zero (f : Nat) : fa f 0 = f := by simp [fa]
theorem fa_bit (f i : Nat) : (fa f i).testBit i = f.testBit i := by
  rw [Nat.testBit_eq_decide_div_mod_eq, Nat.testBit_eq_decide_div_mod_eq, fa, Nat.mul_div_cancel _ (Nat.two_pow_pos i)]
theorem and_pow (n i : Nat) : n &&& 2 ^ i = if n.testBit i then 2 ^ i else 0 := by
  apply Nat.eq_of_testBit_eq
  intro j
  rw [Nat.testBit_and, Nat.testBit_two_pow]
  by_cases h : i = j
  · subst h
    cases hb : n.testBit i <;> simp
  · cases hb : n.testBit i <;> simp [h]
theorem fa_and (f i : Nat) : Builtin.bitAnd (fa f i : Nat) (2 ^ i) = if f.testBit i then 2 ^ i else 0 := by
  rw [pow_cast, bitAnd_pp (Int.natCast_nonneg _) (Int.natCast_nonneg _), Int.toNat_natCast, Int.toNat_natCast, and_pow, fa_bit]
  cases f.testBit i <;> simp
theorem fa_test (f i : Nat) : (Builtin.bitAnd (fa f i : Nat) (2 ^ i) != 0) = f.testBit i := by
  rw [fa_and, pow_cast]
  cases f.testBit i
  · rfl
  · have := Nat.two_pow_pos i
    have h : ((2 ^ i : Nat) : Int) ≠ 0 := by omega
    rw [if_pos rfl]; simpa [bne_iff_ne] using h
theorem fa_next (f i : Nat) : (f.testBit i = true → fa f (i + 1) + 2 ^ i = fa f i) ∧ (f.testBit i = false → fa f (i + 1) = fa f i) := by
  have h : fa f (i + 1) = f / 2 ^ i / 2 * 2 * 2 ^ i := by
    rw [fa, Nat.pow_succ, Nat.div_div_eq_div_mul, Nat.mul_assoc, Nat.mul_comm 2]
  rw [h, Nat.testBit_eq_decide_div_mod_eq]
  unfold fa
  generalize f / 2 ^ i = q
  constructor
  · intro hb
    have hb : q % 2 = 1 := of_decide_eq_true hb
    have : q / 2 * 2 + 1 = q := by omega
    conv => rhs; rw [← this, Nat.add_mul, Nat.one_mul]
  · intro hb
    have hb : ¬ q % 2 = 1 := of_decide_eq_false hb
    have : q / 2 * 2 = q := by omega
    rw [this]
theorem fa_xor (f i : Nat) (h : f.testBit i = true) : Builtin.bitXor (fa f i : Nat) (2 ^ i) = (fa f (i + 1) : Nat) := by
  rw [bitXor_and, fa_and, h, if_pos rfl, pow_cast]
  have := (fa_next f i).1 h
  omega
theorem bits_succ (f n : Nat) : bitsTo f (n + 1) = bitsTo f n ++ if f.testBit n then [n] else [] := by
  unfold bitsTo
  rw [List.range_succ, List.filter_append]
  cases h : f.testBit n <;> simp [h]
theorem bits_all (f n : Nat) (h : f < 2 ^ n) : ∀ k, bitsTo f (n + k) = bitsTo f n
  | 0 => rfl
  | k + 1 => by
    rw [← Nat.add_assoc, bits_succ, Nat.testBit_lt_two_pow (Nat.lt_of_lt_of_le h (Nat.pow_le_pow_right (by decide) (Nat.le_add_right n k))), bits_all f n h k]
    simp
theorem fa_none (f n : Nat) (h : fa f n = 0) : f < 2 ^ n := by
  unfold fa at h
  have := Nat.two_pow_pos n
  rcases Nat.mul_eq_zero.mp h with h | h
  · exact (Nat.div_eq_zero_iff.mp h).resolve_left (by omega)
  · omega
theorem bits_len (f n : Nat) : (bitsTo f n).length ≤ n := by
  unfold bitsTo
  exact Nat.le_trans (List.length_filter_le _ _) (by simp)
theorem word_len : ∀ k, k < 32 → (wordAt k).length ≤ 18 := by decide +kernel
theorem bits_lt (f n : Nat) : ∀ k ∈ bitsTo f n, k < n := fun k hk => by
  unfold bitsTo at hk
  simpa using (List.mem_filter.mp hk).1

theorem names_len (f n : Nat) (hn : n ≤ 32) : (((bitNames f n).map (·.length)).sum ≤ 18 * 32) ∧ (bitNames f n).length ≤ 32 := by
  have h1 : ∀ l : List Nat, (∀ k ∈ l, k < 32) → ((l.map wordAt).map (·.length)).sum ≤ 18 * l.length := by
    intro l
    induction l with
    | nil => intro _; simp
    | cons a r ih =>
      intro h
      have := ih fun k hk => h k (.tail _ hk)
      have := word_len a (h a (.head _))
      simp only [List.map_cons, List.sum_cons, List.length_cons]
      omega
  have h2 := bits_len f n
  refine ⟨?_, by unfold bitNames; rw [List.length_map]; omega⟩
  unfold bitNames
  exact Nat.le_trans (h1 _ fun k hk => Nat.lt_of_lt_of_le (bits_lt f n k hk) hn) (by omega)

theorem pretty_end {Q : Flow → Shared → Prop} {E : Value → Shared → Prop} {f : Nat} {av : Addr} {s₀ s₂ : Shared} {H₀ H₂ : Mp} {l : List Str} {k₀ : Nat} {p₁ p₂ p₃ p₄ p₅ : Pos} (W : Wd K H) (hk : env.scope.kind = .function) (hz : (l.map (·.length)).sum + l.length * 2 ≤ 16777216) (hj : Txt.join ", " l = prettyW f)
    (g₂ : Step mu s₀ H₀ s₂ H₂) (g : Step (av :: mu) s₂ H₂ s H) (S : St env (av :: mu) s H [("names", .ptr av)]) (L : Lm av (l.map D.str) s H) (ha : s₀.heap.objs.size ≤ av) (hav : av ∉ mu) (hL : env.locals ∈ mu)
    (k : ∀ v s' H', Step mu s₀ H₀ s' H' → Rel H' v (D.str (prettyW f)) → Q (.ret v) s') (hline : (p₂.endLine == p₄.line) = true) :
    wpAny (model prog w) A (execs [.Return (some (.Call (.Attribute (.Constant (.str ", ") k₀ p₁) "join" p₂) [.Name "names" p₃] [] p₄)) p₅] env) Q E s := by
  have gb : Step mu s₀ H₀ s H := g.back g₂ fun b hb => by
    rcases List.mem_cons.mp hb with q | q
    · exact .inr (q ▸ ha)
    · exact .inl q
  obtain ⟨H₅, g₅, S₅, r₅, up₅⟩ := S.fix hav hL L gb ha
  have S₆ := S₅.retype r₅
  refine x_ret S₆.now (ev_method (W.mono up₅) ev_str ty_str PySem.F.plainAttrs_str PySem.F.slot_str_join PySem.F.type_str_join (evl_cons (ev_name S₆.sc (.head _) hk (by decide) (by decide)) evl_nil) (c_join ", " l hz) rfl rfl hline) fun v s' H' g' r => k v s' H' (g₅.trans (.of g')) ?_
  rw [← hj]; exact r
theorem fn_pretty (hA : AOk A 2) (f : Nat) (hf : f < 2 ^ 32) : Fn prog w A (Kf w) 22 [.int f] (.str (prettyW f)) := by
  refine fn_of (names := ["flags"]) rfl rfl hA.room (fun vs h => by match vs, h with | [a], _ => rfl) rfl (by decide +kernel) ?_
  intro s H s₁ env mu nw W F S g hmu Q E k
  have hB : AOk (A.deeper env) 1 := hA.deeper
  have G := F.g
  refine x_setm (l := []) (ρ' := [("flags", .int f)]) S F.g.kind (F.kind rfl) evl_nil (by decide) (fun a => new_name (ns := ["flags"]) rfl (by decide +kernel)) rfl fun av s₂ H₂ ha S₂ L₂ g₂ => ?_
  have W₂ := W.mono g₂.sub
  have hav : av ∉ mu := fun z => Nat.not_lt.mpr ha (S.out _ z).2
  refine x_forP (c := fun i : Nat => D.int i) (xs := List.range 32) (fun i => [("names", .ptr av), ("flags", .int (fa f i))]) (fun i a => [("i", .int a), ("names", .ptr av), ("flags", .int (fa f i))]) (fun i => [(av, (bitNames f i).map D.str)]) hB.handled (by rw [fa_zero]; exact S₂) (fun p hp => by rw [List.mem_singleton.mp hp]; exact L₂)
    (fun i p hp => by rw [List.mem_singleton.mp hp]; exact .head _) (evit_range1 (n := 32) hB.handled W₂ G (F.kind rfl) rfl ev_int (by decide)) (fun i a _ => bind_fn (ns := ["names", "flags"]) (F.up fun a ha => .tail _ ha) (.inl rfl) rfl (by decide +kernel)) (fun i => f = 0 ∨ fa f i ≠ 0) (by rw [fa_zero]; exact Decidable.em _)
    (Qb := fun s' H' => St env (av :: mu) s' H' [("names", .ptr av)] ∧ Lm av ((bitNames f 32).map D.str) s' H' ∧ f ≠ 0) (Qr := fun _ _ _ => False) ?_ ?_ ?_ (fun _ _ _ _ h => h.elim)
  · intro i m s₃ H₃ hm hP up S₃ L₃ E'
    have hi : i < 32 := by have := (List.getElem?_eq_some_iff.mp hm).1; simpa using this
    have hmi : m = i := by rw [List.getElem?_range hi] at hm; cases hm; rfl
    subst hmi
    have W₃ : Wd (Kf w) H₃ := W₂.mono up
    have e1 : (1 : Int) * 2 ^ (m : Int).toNat = 2 ^ m := by rw [Int.one_mul]; rfl
    refine x_setL (d := .int (2 ^ m)) (ρ' := [("flag", .int (2 ^ m)), ("i", .int m), ("names", .ptr av), ("flags", .int (fa f m))]) S₃ G.kind (F.kind rfl) (by rw [← e1]; exact ev_bin ev_int (ev_name S₃.sc (.head _) G.kind (by decide) (by decide)) (o_shl 1 m (by omega) (by omega) (by decide)))
      (new_name (ns := ["i", "names", "flags"]) rfl (by decide +kernel)) rfl fun s₄ H₄ S₄ LL₄ g₄ => ?_
    have L₄ : Lm av ((bitNames f m).map D.str) s₄ H₄ := LL₄ _ _ (L₃ _ (.head _))
    have W₄ := W₃.mono g₄.sub
    refine x_if (b := f.testBit m) S₄.now (by rw [← fa_test]; exact evt_int (ev_bin (ev_name S₄.sc (.tail _ (.tail _ (.tail _ (.head _)))) G.kind (by decide) (by decide)) (ev_name S₄.sc (.head _) G.kind (by decide) (by decide)) (o_and (fa f m : Nat) (2 ^ m)))) (fun hb s₅ H₅ g₅ => ?_) fun hb s₅ H₅ g₅ => ?_
    · have S₅ := S₄.grow g₅
      have W₅ := W₄.mono g₅.sub
      have nm : ∀ {x : Str} {pos : Pos} {d : D}, (x, d) ∈ ([("flag", .int (2 ^ m)), ("i", .int m), ("names", .ptr av), ("flags", .int (fa f m))] : List (Str × D)) → (x == ("__debug__" : Str)) = false → (x == ("__classdict__" : Str)) = false → Ev prog w (A.deeper env) env s₅ H₅ (.Name x pos) d := fun h1 h2 h3 => ev_name S₅.sc h1 G.kind h2 h3
      refine x_append (d := .str (wordAt m)) S₅ G.kind (.tail _ (.tail _ (.head _))) (.head _) (L₄.grow g₅) (ev_methodW W₅ (ev_global W₅ G (F.kind rfl) rfl) ty_flags PySem.F.plainAttrs_dict PySem.F.slot_dict_get PySem.F.type_dict_get (evl_cons (nm (.head _) (by decide) (by decide)) (evl_cons
        (ev_builtin W₅ G (F.kind rfl) rfl boot_hex (by decide) (evl_cons (nm (.head _) (by decide) (by decide)) evl_nil) (c_hex _ (Nat.le_trans (hexW_len m hi) (by decide)))) evl_nil)) (c_flag hi) rfl) ?_ (by decide) (by decide) rfl rfl fun s₆ H₆ S₆ L₆ g₆ => ?_
      · rw [List.length_map]; exact Nat.le_trans (names_len f m (by omega)).2 (by decide)
      have hx := fa_xor f m hb
      refine x_augL (c := (fa f (m + 1) : Nat)) (ρ' := [("flags", .int (fa f (m + 1))), ("flag", .int (2 ^ m)), ("i", .int m), ("names", .ptr av)]) S₆ G.kind (F.kind rfl) (.tail _ (.tail _ (.tail _ (.head _)))) (ev_name S₆.sc (.head _) G.kind (by decide) (by decide)) (by rw [← hx]; exact i_xor _ _) (set_name rfl) (by decide) fun s₇ H₇ S₇ LL₇ g₇ => ?_
      have L₇ := LL₇ _ _ L₆
      have hnames : (bitNames f m).map D.str ++ [D.str (wordAt m)] = (bitNames f (m + 1)).map D.str := by
        unfold bitNames
        rw [bits_succ, if_pos hb, List.map_append, List.map_append]; rfl
      rw [hnames] at L₇
      have g57 := (Step.of g₅).trans (g₆.trans g₇)
      refine x_if S₇.now (evt_not (evt_int (ev_name S₇.sc (.head _) G.kind (by decide) (by decide)))) (fun hz s₈ H₈ g₈ => ?_) fun hz s₈ H₈ g₈ => ?_
      · have hz' : fa f (m + 1) = 0 := by simpa using hz
        have hall : bitNames f 32 = bitNames f (m + 1) := by
          have := bits_all f (m + 1) (fa_none f _ hz') (32 - (m + 1))
          rw [show m + 1 + (32 - (m + 1)) = 32 by omega] at this
          unfold bitNames; rw [this]
        have hf0 : f ≠ 0 := fun z => by rw [z, Nat.zero_testBit] at hb; cases hb
        refine wpAny_execs_cons (wpAny_Break ⟨H₈, g₄.trans (g57.trans (.of g₈)), (S₇.grow g₈).less fun p hp => ?_, ?_, hf0⟩)
        · rw [List.mem_singleton.mp hp]; exact .tail _ (.tail _ (.tail _ (.head _)))
        · rw [hall]; exact L₇.grow g₈
      · have hz' : fa f (m + 1) ≠ 0 := by simpa using hz
        refine x_nil (x_nil (x_nil ⟨H₈, g₄.trans (g57.trans (.of g₈)), (S₇.grow g₈).less fun p hp => ?_, fun p hp => ?_, .inr hz'⟩))
        · rcases List.mem_cons.mp hp with q | q
          · rw [q]; exact .tail _ (.tail _ (.tail _ (.head _)))
          · rw [List.mem_singleton.mp q]; exact .head _
        · rw [List.mem_singleton.mp hp]; exact L₇.grow g₈
    · have hx := (fa_next f m).2 hb
      have hnames : bitNames f (m + 1) = bitNames f m := by unfold bitNames; rw [bits_succ, hb]; simp
      refine x_nil (x_nil ⟨H₅, g₄.trans (.of g₅), (S₄.grow g₅).less fun p hp => ?_, fun p hp => ?_, by rw [hx]; exact hP⟩)
      · rw [hx] at hp; exact .tail _ (.tail _ hp)
      · rw [List.mem_singleton.mp hp, hnames]; exact L₄.grow g₅
  · intro s₃ H₃ hP g₃ S₃ L₃ E'
    have W₃ := W₂.mono g₃.sub
    have hz32 : fa f 32 = 0 := by unfold fa; rw [Nat.div_eq_of_lt hf, Nat.zero_mul]
    have hf0 : f = 0 := by
      rcases hP with h | h
      · exact h
      · rw [List.length_range] at h; exact absurd hz32 h
    have L₃' := L₃ _ (.head _)
    rw [List.length_range] at L₃' S₃
    have hn : bitNames f 32 = [] := by rw [hf0]; decide +kernel
    rw [hn] at L₃'
    rw [hz32] at S₃
    refine x_append (d := .str (baseText "0x" 16 0)) S₃ G.kind (.head _) (.head _) L₃' (ev_builtin W₃ G (F.kind rfl) rfl boot_hex (by decide) (evl_cons (ev_name S₃.sc (.tail _ (.head _)) G.kind (by decide) (by decide)) evl_nil) (c_hex _ (by decide +kernel))) (show 0 ≤ sizeLine by decide) (by decide) (by decide) rfl rfl fun s₄ H₄ S₄ L₄ g₄ => ?_
    refine x_nil (pretty_end (l := [baseText "0x" 16 0]) (W₃.mono g₄.sub) G.kind (by decide +kernel) (by unfold prettyW; rw [if_pos hf0]) g₂ (g₃.trans g₄) (S₄.less fun p hp => by rw [List.mem_singleton.mp hp]; exact .head _) L₄ ha hav S.loc k rfl)
  · rintro s₃ H₃ g₃ ⟨S₃, L₃, hf0⟩
    refine pretty_end (W₂.mono g₃.sub) G.kind ?_ (by unfold prettyW; rw [if_neg hf0]) g₂ g₃ S₃ L₃ ha hav S.loc k rfl
    have := names_len f 32 (by omega)
    omega
end
end Mine

namespace Mine
section
variable {prog : Program} {w : World} {A : Around} {env : Env} {mu : List Addr} {s : Shared} {H : Mp} {ρ ρ' : List (Str × D)} {K : Frag}

theorem evt_or {x y : Expr} {pos : Pos} {b c : Bool} (hx : EvT prog w A env s H x b) (hy : b = false → EvT prog w A env s H y c) : EvT prog w A env s H (.BoolOp .Or [x, y] pos) (b || c) := fun s₁ H₁ g _ _ k =>
  wpAny_isTrue_BoolOp (wpAny_allTrue_Or_cons (hx s₁ H₁ g _ _ fun s₂ H₂ g₂ => by
    cases b with
    | true => exact k _ _ g₂
    | false =>
      rw [if_neg (by decide)]
      refine wpAny_allTrue_Or_cons (hy rfl s₂ H₂ (g.trans g₂) _ _ fun s₃ H₃ g₃ => ?_)
      cases c with
      | true => exact k _ _ (g₂.trans g₃)
      | false => rw [if_neg (by decide)]; exact wpAny_allTrue_Or_nil (k _ _ (g₂.trans g₃))))

/-- while .. -/
theorem x_while {α : Type} {Q : Flow → Shared → Prop} {E : Value → Shared → Prop} {rest : List Stmt} {test : Expr} {body orelse : List Stmt} {pos : Pos} (r : α → List (Str × D)) (P : α → Prop) (ms : α → Nat) (b : α → Bool) {a₀ : α} (h0 : P a₀) (S : St env mu s H (r a₀))
    (ht : ∀ a s₁ H₁, P a → (∀ b o, H b = some o → H₁ b = some o) → St env mu s₁ H₁ (r a) → EvT prog w A env s₁ H₁ test (b a))
    {Qb : Shared → Mp → Prop} {Qr : Value → Shared → Mp → Prop}
    (turn : ∀ a s₁ H₁, P a → b a = true → (∀ b o, H b = some o → H₁ b = some o) → St env mu s₁ H₁ (r a) → ∀ E', wpAny (model prog w) A (execs body env) (fun f s₂ => match f with
      | .next | .cont => ∃ a' H₂, ms a' < ms a ∧ P a' ∧ Step mu s₁ H₁ s₂ H₂ ∧ St env mu s₂ H₂ (r a')
      | .brk => ∃ H₂, Step mu s₁ H₁ s₂ H₂ ∧ Qb s₂ H₂
      | .ret v => ∃ H₂, Step mu s₁ H₁ s₂ H₂ ∧ Qr v s₂ H₂) E' s₁)
    (done : ∀ a s₁ H₁, P a → b a = false → Step mu s H s₁ H₁ → St env mu s₁ H₁ (r a) → ∀ E', wpAny (model prog w) A (execs orelse env) (Then prog w A env rest Q E) E' s₁)
    (brk : ∀ s₁ H₁, Step mu s H s₁ H₁ → Qb s₁ H₁ → wpAny (model prog w) A (execs rest env) Q E s₁)
    (ret : ∀ v s₁ H₁, Step mu s H s₁ H₁ → Qr v s₁ H₁ → Q (.ret v) s₁) :
    wpAny (model prog w) A (execs (.While test body orelse pos :: rest) env) Q E s := by
  refine wpAny_execs_cons (wpAny_While ?_)
  refine codeAny_whileLoop (fun n s' => ∃ a H', n = ms a ∧ P a ∧ Step mu s H s' H' ∧ St env mu s' H' (r a)) ?_ (ms a₀) ⟨a₀, H, rfl, h0, .refl S.now, S⟩
  rintro n s' ⟨a, H', rfl, hP, g, S'⟩
  refine ht a s' H' hP g.sub S' s' H' (.refl S'.now) _ _ fun s₂ H₂ g₂ => ?_
  have S₂ := S'.grow g₂
  have gg := g.trans (.of g₂)
  cases hb : b a with
  | true =>
    rw [if_pos rfl]
    refine wpAny_mono (turn a s₂ H₂ hP hb gg.sub S₂ _) (fun f s₃ h₃ => ?_) fun _ _ x => x
    have hn : (∃ a' H₃, ms a' < ms a ∧ P a' ∧ Step mu s₂ H₂ s₃ H₃ ∧ St env mu s₃ H₃ (r a')) → ∃ m, m < ms a ∧ ∃ a H', m = ms a ∧ P a ∧ Step mu s H s₃ H' ∧ St env mu s₃ H' (r a) := by
      rintro ⟨a', H₃, hm, hP', g₃, S₃⟩
      exact ⟨ms a', hm, a', H₃, rfl, hP', gg.trans g₃, S₃⟩
    cases f with
    | next => exact hn h₃
    | cont => exact hn h₃
    | brk => obtain ⟨H₃, g₃, q⟩ := h₃; exact brk s₃ H₃ (gg.trans g₃) q
    | ret v => obtain ⟨H₃, g₃, q⟩ := h₃; exact ret v s₃ H₃ (gg.trans g₃) q
  | false =>
    rw [if_neg (by decide)]
    refine wpAny_mono (done a s₂ H₂ hP hb gg S₂ _) (fun f s₃ h => ?_) fun _ _ x => x
    cases f <;> exact h

/-- the quoted part: two marks stand for one -/
def quoted : List Nat → List Nat
  | [] => []
  | c :: r => if c = 34 then (match r with
    | [] => []
    | d :: r' => if d = 34 then 34 :: quoted r' else []) else c :: quoted r
theorem quoted_two (r : List Nat) : quoted (34 :: 34 :: r) = 34 :: quoted r := by rw [quoted.eq_def]; simp
theorem quoted_end (r : List Nat) (h : r.headD 0 ≠ 34) : quoted (34 :: r) = [] := by
  rw [quoted.eq_def]
  cases r with
  | nil => simp
  | cons d r => simp only [List.headD_cons] at h; simp [h]
theorem quoted_other (c : Nat) (r : List Nat) (h : ¬ c = 34) : quoted (c :: r) = c :: quoted r := by rw [quoted.eq_def]; simp [h]
theorem drop_name {x : Str} {d : D} {ρ ρ' : List (Str × D)} {ns : List Str} (hsub : ∀ p ∈ ρ', p ∈ ρ) (hn : ρ'.map (·.1) = ns) (hc : ns.contains x = false) : ∀ p ∈ (x, d) :: ρ', p = (x, d) ∨ (p ∈ ρ ∧ p.1 ≠ x) := fun p hp =>
  (new_name hn hc p hp).imp id fun h => ⟨hsub p h.1, h.2⟩
def parseW (x : Str) : Str := ⟨(quoted (x.cps.toList.drop 5)).toArray⟩

theorem mark_eq (c : Nat) : ((⟨#[c]⟩ : Str) == ("\"" : Str)) = decide (c = 34) := by
  by_cases h : c = 34
  · subst h; decide +kernel
  · rw [decide_eq_false h, beq_eq_false_iff_ne]
    intro q
    have : (⟨#[c]⟩ : Str).cps.toList = ("\"" : Str).cps.toList := by rw [q]
    have e : ("\"" : Str).cps.toList = [34] := by decide +kernel
    rw [e] at this
    exact h (by simpa using this)

theorem fn_parse (hA : AOk A 2) (x : Str) (hz : x.length ≤ 100000) (h3 : Txt.slice x none (some 3) = "257") (h5 : Txt.slice x (some 3) (some 5) = " \"") (h : 5 ≤ x.length) : Fn prog w A (Kf w) 84 [.str x] (.str (parseW x)) := by
  refine fn_of (names := ["resp"]) rfl rfl hA.room (fun vs h => by match vs, h with | [a], _ => rfl) rfl (by decide +kernel) ?_
  intro s H s₁ env mu nw W F S g hmu Q E k
  have hB : AOk (A.deeper env) 1 := hA.deeper
  have G := F.g
  have hz' : x.length ≤ sizeLine := Nat.le_trans hz (by decide)
  refine x_if (b := false) S.now (by rw [show false = (Txt.slice x none (some 3) != "257") by rw [h3]; decide +kernel]; exact evt_cmp (ev_slice0 (ev_name S.sc (.head _) G.kind (by decide) (by decide)) hz') ev_str (o_nes _ _)) (fun h => by cases h) fun _ s₂ H₂ g₂ => x_nil ?_
  have S₂ := S.grow g₂
  refine x_if (b := false) S₂.now (by rw [show false = (Txt.slice x (some 3) (some 5) != " \"") by rw [h5]; decide +kernel]; exact evt_cmp (ev_slice (ev_name S₂.sc (.head _) G.kind (by decide) (by decide)) hz') ev_str (o_nes _ _)) (fun h => by cases h) fun _ s₃ H₃ g₃ => x_nil ?_
  have S₃ := S₂.grow g₃
  have W₃ := (W.mono g₂.sub).mono g₃.sub
  refine x_set (d := .str "") (ρ' := [("dirname", .str ""), ("resp", .str x)]) S₃ G.kind (F.kind rfl) ev_str (new_name (ns := ["resp"]) rfl (by decide +kernel)) rfl fun s₄ H₄ S₄ g₄ => ?_
  refine x_set (d := .int 5) (ρ' := [("i", .int 5), ("dirname", .str ""), ("resp", .str x)]) S₄ G.kind (F.kind rfl) ev_int (new_name (ns := ["dirname", "resp"]) rfl (by decide +kernel)) rfl fun s₅ H₅ S₅ g₅ => ?_
  have W₅ := (W₃.mono g₄.sub).mono g₅.sub
  refine x_set (d := .int x.length) (ρ' := [("n", .int x.length), ("i", .int 5), ("dirname", .str ""), ("resp", .str x)]) S₅ G.kind (F.kind rfl) (ev_builtin W₅ G (F.kind rfl) rfl boot_len (by decide) (evl_cons (ev_name S₅.sc (.tail _ (.tail _ (.head _))) G.kind (by decide) (by decide)) evl_nil) (c_lens x (by omega))) (new_name (ns := ["i", "dirname", "resp"]) rfl (by decide +kernel)) rfl fun s₆ H₆ S₆ g₆ => ?_
  have g16 : Step mu s₁ H s₆ H₆ := (Step.of (g₂.trans g₃)).trans (g₄.trans (g₅.trans g₆))
  have hlen : x.length = x.cps.toList.length := by simp [Str.length]
  refine x_while (α := Str × Nat) (fun a => [("n", .int x.length), ("i", .int a.2), ("dirname", .str a.1), ("resp", .str x)]) (fun a => a.1.cps.toList ++ quoted (x.cps.toList.drop a.2) = quoted (x.cps.toList.drop 5) ∧ a.1.length ≤ a.2 ∧ a.2 ≤ x.length) (fun a => x.length - a.2) (fun a => decide (a.2 < x.length)) (a₀ := ("", 5)) ⟨by simp; decide +kernel, Nat.zero_le _, h⟩ S₆
    (fun a s₇ H₇ hP up S₇ => ?_) (Qb := fun s' H' => St env mu s' H' [("dirname", .str (parseW x))]) (Qr := fun _ _ _ => False) (fun a s₇ H₇ hP hb up S₇ E' => ?_) (fun a s₇ H₇ hP hb g₇ S₇ E' => ?_) (fun s₇ H₇ g₇ S₇ => ?_) (fun _ _ _ _ h => h.elim)
  · have e : decide (a.2 < x.length) = decide ((a.2 : Int) < (x.length : Int)) := by simp
    rw [e]
    exact evt_cmp (ev_name S₇.sc (.tail _ (.head _)) G.kind (by decide) (by decide)) (ev_name S₇.sc (.head _) G.kind (by decide) (by decide)) (o_lt _ _)
  · obtain ⟨d, i⟩ := a
    obtain ⟨hq, hdl, hin⟩ := hP
    simp only at hq hdl hin hb S₇
    have hi : i < x.length := of_decide_eq_true hb
    have hi' : i < x.cps.toList.length := by rw [← hlen]; exact hi
    obtain ⟨c, hc⟩ : ∃ c, x.cps.toList[i]? = some c := ⟨_, List.getElem?_eq_getElem hi'⟩
    have hc' : x.cps[i]? = some c := by simpa using hc
    have hdrop : x.cps.toList.drop i = c :: x.cps.toList.drop (i + 1) := by
      rw [List.drop_eq_getElem_cons hi']; congr 1
      rw [List.getElem?_eq_getElem hi'] at hc; exact Option.some.inj hc
    have hsz : d.length + 1 ≤ sizeLine := Nat.le_trans (show d.length + 1 ≤ 100001 by omega) (by decide)
    refine x_set (d := .str ⟨#[c]⟩) (ρ' := [("c", .str ⟨#[c]⟩), ("n", .int x.length), ("i", .int i), ("dirname", .str d), ("resp", .str x)]) S₇ G.kind (F.kind rfl) (ev_sitem (ev_name S₇.sc (.tail _ (.tail _ (.tail _ (.head _)))) G.kind (by decide) (by decide)) (ev_name S₇.sc (.tail _ (.head _)) G.kind (by decide) (by decide)) hc' (by omega)) (new_name (ns := ["n", "i", "dirname", "resp"]) rfl (by decide +kernel)) rfl fun s₈ H₈ S₈ g₈ => ?_
    refine x_set (d := .int (i + 1 : Nat)) (ρ' := [("i", .int (i + 1 : Nat)), ("c", .str ⟨#[c]⟩), ("n", .int x.length), ("dirname", .str d), ("resp", .str x)]) S₈ G.kind (F.kind rfl) (ev_bin (ev_name S₈.sc (.tail _ (.tail _ (.head _))) G.kind (by decide) (by decide)) ev_int (o_add i 1)) (set_name rfl) rfl fun s₉ H₉ S₉ g₉ => ?_
    have g79 := g₈.trans g₉
    have emark : ((⟨#[c]⟩ : Str) == ("\"" : Str)) = decide (c = 34) := mark_eq c
    have eadd : ∀ r, (d.cps.toList ++ c :: quoted r = quoted (x.cps.toList.drop 5)) → (d ++ (⟨#[c]⟩ : Str)).cps.toList ++ quoted r = quoted (x.cps.toList.drop 5) := fun r h => by
      rw [← h]
      show (d.cps ++ #[c]).toList ++ _ = _
      simp
    have elen : (d ++ (⟨#[c]⟩ : Str)).length = d.length + 1 := by
      show (d.cps ++ #[c]).size = d.cps.size + 1
      simp
    refine x_if (b := decide (c = 34)) S₉.now (by rw [← emark]; exact evt_cmp (ev_name S₉.sc (.tail _ (.head _)) G.kind (by decide) (by decide)) ev_str (o_eqs _ _)) (fun h34 s₁₀ H₁₀ g₁₀ => ?_) fun h34 s₁₀ H₁₀ g₁₀ => ?_
    · have h34 : c = 34 := of_decide_eq_true h34
      subst h34
      have S₁₀ := S₉.grow g₁₀
      have nm : ∀ {s₁ : Shared} {H₁ : Mp} {x' : Str} {pos : Pos} {dd : D}, Grow s₁₀ H₁₀ s₁ H₁ → (x', dd) ∈ ([("i", .int (i + 1 : Nat)), ("c", .str ⟨#[34]⟩), ("n", .int x.length), ("dirname", .str d), ("resp", .str x)] : List (Str × D)) → (x' == ("__debug__" : Str)) = false → (x' == ("__classdict__" : Str)) = false → Ev prog w (A.deeper env) env s₁ H₁ (.Name x' pos) dd := fun gg h1 h2 h3 => ev_name (S₁₀.grow gg).sc h1 G.kind h2 h3
      have r0 := Grow.refl S₁₀.now
      refine x_if (b := decide ((x.length : Int) ≤ ((i + 1 : Nat) : Int)) || ((⟨#[(x.cps.toList.drop (i + 1)).headD 0]⟩ : Str) != ("\"" : Str))) S₁₀.now (evt_or (evt_cmp (nm r0 (.head _) (by decide) (by decide)) (nm r0 (.tail _ (.tail _ (.head _))) (by decide) (by decide)) (o_ge _ _)) fun hlt => ?_) (fun hbr s₁₁ H₁₁ g₁₁ => ?_) fun hbr s₁₁ H₁₁ g₁₁ => ?_
      · have hlt : ¬ (x.length : Int) ≤ ((i + 1 : Nat) : Int) := of_decide_eq_false hlt
        have h1 : i + 1 < x.cps.toList.length := by rw [← hlen]; omega
        have hd : x.cps[i + 1]? = some ((x.cps.toList.drop (i + 1)).headD 0) := by
          rw [List.drop_eq_getElem_cons h1]
          have : x.cps.toList[i + 1]? = some (x.cps.toList[i + 1]) := List.getElem?_eq_getElem h1
          simpa using this
        exact evt_cmp (ev_sitem (nm r0 (.tail _ (.tail _ (.tail _ (.tail _ (.head _))))) (by decide) (by decide)) (nm r0 (.head _) (by decide) (by decide)) hd (by omega)) ev_str (o_nes _ _)
      · refine wpAny_execs_cons (wpAny_Break ⟨H₁₁, g79.trans (.of (g₁₀.trans g₁₁)), ?_⟩)
        have hquo : quoted (x.cps.toList.drop i) = [] := by
          rw [hdrop]
          refine quoted_end _ ?_
          rcases Bool.or_eq_true_iff.mp hbr with h | h
          · have h : (x.length : Int) ≤ ((i + 1 : Nat) : Int) := of_decide_eq_true h
            rw [List.drop_eq_nil_of_le (by rw [← hlen]; omega)]; decide
          · simp only [bne, mark_eq] at h
            simpa using h
        rw [hquo, List.append_nil] at hq
        have hd : d = parseW x := by
          apply Str.ext'
          rw [← Array.toList_inj, hq]; simp [parseW]
        rw [← hd]
        exact (S₁₀.grow g₁₁).less fun p hp => by rw [List.mem_singleton.mp hp]; exact .tail _ (.tail _ (.tail _ (.head _)))
      · refine x_nil ?_
        obtain ⟨h1, h2⟩ := Bool.or_eq_false_iff.mp hbr
        have h1 : ¬ (x.length : Int) ≤ ((i + 1 : Nat) : Int) := of_decide_eq_false h1
        have hl : i + 1 < x.cps.toList.length := by rw [← hlen]; omega
        simp only [bne, mark_eq] at h2
        have h2 : (x.cps.toList.drop (i + 1)).headD 0 = 34 := by simpa using h2
        have hd2 : x.cps.toList.drop (i + 1) = 34 :: x.cps.toList.drop (i + 2) := by
          rw [List.drop_eq_getElem_cons hl] at h2 ⊢
          rw [show x.cps.toList[i + 1] = 34 from h2]
        have S₁₁ := S₁₀.grow g₁₁
        refine x_set (d := .int (i + 2 : Nat)) (ρ' := [("i", .int (i + 2 : Nat)), ("c", .str ⟨#[34]⟩), ("n", .int x.length), ("dirname", .str d), ("resp", .str x)]) S₁₁ G.kind (F.kind rfl) (ev_bin (nm g₁₁ (.head _) (by decide) (by decide)) ev_int (o_add (i + 1 : Nat) 1)) (set_name rfl) rfl fun s₁₂ H₁₂ S₁₂ g₁₂ => x_nil ?_
        refine x_set (d := .str (d ++ ⟨#[34]⟩)) (ρ' := [("dirname", .str (d ++ ⟨#[34]⟩)), ("i", .int (i + 2 : Nat)), ("c", .str ⟨#[34]⟩), ("n", .int x.length), ("resp", .str x)]) S₁₂ G.kind (F.kind rfl) (ev_bin (ev_name S₁₂.sc (.tail _ (.tail _ (.tail _ (.head _)))) G.kind (by decide) (by decide)) (ev_name S₁₂.sc (.tail _ (.head _)) G.kind (by decide) (by decide)) (o_adds _ _ hsz)) (drop_name (ns := ["i", "c", "n", "resp"]) (fun p hp => by simp only [List.mem_cons, List.not_mem_nil, or_false] at hp ⊢; rcases hp with h | h | h | h <;> simp [h]) rfl (by decide +kernel)) rfl fun s₁₃ H₁₃ S₁₃ g₁₃ => x_nil ⟨(d ++ ⟨#[34]⟩, i + 2), H₁₃, ?_, ⟨?_, ?_, ?_⟩, g79.trans ((Step.of (g₁₀.trans g₁₁)).trans (g₁₂.trans g₁₃)), S₁₃.less fun p hp => ?_⟩
        · simp only; omega
        · refine eadd _ ?_
          rw [← hq, hdrop, hd2, quoted_two]
        · simp only; rw [elen]; omega
        · simp only; omega
        · simp only [List.mem_cons, List.not_mem_nil, or_false] at hp ⊢
          rcases hp with h | h | h | h <;> simp [h]
    · refine x_nil ?_
      have h34 : ¬ c = 34 := of_decide_eq_false h34
      have S₁₀ := S₉.grow g₁₀
      refine x_set (d := .str (d ++ ⟨#[c]⟩)) (ρ' := [("dirname", .str (d ++ ⟨#[c]⟩)), ("i", .int (i + 1 : Nat)), ("c", .str ⟨#[c]⟩), ("n", .int x.length), ("resp", .str x)]) S₁₀ G.kind (F.kind rfl) (ev_bin (ev_name S₁₀.sc (.tail _ (.tail _ (.tail _ (.head _)))) G.kind (by decide) (by decide)) (ev_name S₁₀.sc (.tail _ (.head _)) G.kind (by decide) (by decide)) (o_adds _ _ hsz)) (drop_name (ns := ["i", "c", "n", "resp"]) (fun p hp => by simp only [List.mem_cons, List.not_mem_nil, or_false] at hp ⊢; rcases hp with h | h | h | h <;> simp [h]) rfl (by decide +kernel)) rfl fun s₁₃ H₁₃ S₁₃ g₁₃ => x_nil ⟨(d ++ ⟨#[c]⟩, i + 1), H₁₃, ?_, ⟨?_, ?_, ?_⟩, g79.trans ((Step.of g₁₀).trans g₁₃), S₁₃.less fun p hp => ?_⟩
      · simp only; omega
      · refine eadd _ ?_
        rw [← hq, hdrop, quoted_other _ _ h34]
      · simp only; rw [elen]; omega
      · simp only; omega
      · simp only [List.mem_cons, List.not_mem_nil, or_false] at hp ⊢
        rcases hp with h | h | h | h <;> simp [h]
  · obtain ⟨d, i⟩ := a
    obtain ⟨hq, hdl, hin⟩ := hP
    simp only at hq hdl hin hb S₇
    have hi : ¬ i < x.length := of_decide_eq_false hb
    have S₇' := S₇
    rw [List.drop_eq_nil_of_le (by rw [← hlen]; omega), quoted, List.append_nil] at hq
    have hd : d = parseW x := by
      apply Str.ext'
      rw [← Array.toList_inj, hq]; simp [parseW]
    rw [hd] at S₇'
    exact x_nil (x_ret S₇'.now (ev_name S₇'.sc (.tail _ (.tail _ (.head _))) G.kind (by decide) (by decide)) fun v s' H' g' r => k v s' H' ((g16.trans g₇).trans (.of g')) r)
  · exact x_ret S₇.now (ev_name S₇.sc (.head _) G.kind (by decide) (by decide)) fun v s' H' g' r => k v s' H' ((g16.trans g₇).trans (.of g')) r
end
end Mine

namespace Mine
section
variable {prog : Program} {w : World} {A : Around} {env : Env} {mu : List Addr} {s : Shared} {H : Mp} {ρ ρ' : List (Str × D)} {K : Frag}

theorem Wd.notModules (W : Wd K H) (n : Now s H) : (s.heap.objs.size == sysModules) = false := by
  obtain ⟨hB, p, l, mg, mb, a, b, T⟩ := W
  have h1 := modules_low (T.nolimit.keeps fun q o e => n _ _ (a q o e))
  exact beq_eq_false_iff_ne.mpr (Nat.ne_of_gt h1)

abbrev argsP (vs : List Value) : Args := match vs with | [a, b] => ⟨[a], [("among", b)]⟩ | _ => ⟨vs, []⟩
abbrev argsG (vs : List Value) : Args := match vs with | [a, b, c] => ⟨[a, b], [("among", c)]⟩ | _ => ⟨vs, []⟩

theorem fn_placeK (hA : AOk A 1) {ws : List Str} {x : Str} {j : Nat} (hj : ws[j]? = some x) (hb : ∀ m, m < j → ws[m]? ≠ some x) (hz : j < 2 ^ 62) : FnB prog w A (Kf w) 127 argsP [.str x, dstrs ws] (.int j) := by
  refine fn_ofB (names := ["word", "among"]) rfl rfl hA.room (fun ds H => ds = [.str x, dstrs ws]) (fun s H vs nw W rs Q E k => ?_) (by decide +kernel) ?_
  · cases rs with
    | @cons a _ _ _ ra rs => cases rs with
      | @cons b _ _ _ rb rs =>
        cases rs
        refine wpAny_of_eq (a := ([("word", a), ("among", b)] : List (Str × Value))) rfl ?_
        exact k [a, b] [.str x, dstrs ws] s H (.refl nw) (.cons ra (.cons rb .nil)) rfl rfl
  intro s H s₁ env mu ds nw W hds F S g hmu Q E k
  subst hds
  exact x_ret S.now (ev_method W (ev_name S.sc (.tail _ (.head _)) F.g.kind (by decide) (by decide)) ty_list PySem.F.plainAttrs_list PySem.F.slot_list_index PySem.F.type_list_index (evl_cons (ev_name S.sc (.head _) F.g.kind (by decide) (by decide)) evl_nil) (c_index hj hb hz) rfl) fun v s' H' g' r => k v s' H' (.of g') r

theorem bind_gni {fd : FuncData} {a b c : Value} {caller d : D} {Q : List (Str × Value) → Shared → Prop} {E : Value → Shared → Prop} {x : Str} (nw : Now s H) (W : Wd K H) (ra : Rel H a (.str x)) (rb : Rel H b caller) (rc : Rel H c d)
    (hbd : bindArgs fd (argsG [a, b, c]) = (alloc dict0 >>= fun dd => forIn ([("among", c)] : List (Str × Value)) PUnit.unit (fun x _ => (nsSet dd x.1 x.2 >>= fun _ => pure (ForInStep.yield PUnit.unit))) >>= fun _ => pure ([("name_index", a), ("get_name", b), ("extrainfo", .ref dd)] : List (Str × Value))))
    (k : ∀ dd t v n s' H', Grow s H s' H' → H' dd = some (kwO (PyData.keyHash w.params "among") "among" t v n) → Rel H' v d → (dd == sysModules) = false → Rels H' [a, b, .ref dd] [.str x, caller, .ptr dd] → Q [("name_index", a), ("get_name", b), ("extrainfo", .ref dd)] s') :
    wpAny (model prog w) A (bindArgs fd (argsG [a, b, c])) Q E s := by
  rw [hbd]
  refine wpAny_bind (wpAny_alloc ?_)
  have gp : Grow s H { s with heap := s.heap.push dict0 } H := .pushed nw _
  have ed : (s.heap.push dict0).get? s.heap.objs.size = some dict0 := Heap.get?_push_size _ rfl
  rw [List.forIn_cons]
  refine wpAny_bind (wpAny_bind (wpAny_bind ?_))
  refine ns_set (s := { s with heap := s.heap.push dict0 }) ed fun h' hs hn => ?_
  obtain ⟨n, hn⟩ := hn
  have hnone : H s.heap.objs.size = none := above_none nw (Nat.le_refl _)
  have g' : Grow s H { s with heap := h', toks := s.toks + 1 } (put H s.heap.objs.size (kwO (PyData.keyHash w.params "among") "among" s.toks c n)) := by
    refine Grow.put nw (fun b o e => ?_) ?_ _ (Nat.le_refl _) hn
    · exact hs.extBut b o (fun z => by rw [z] at e; exact Nat.lt_irrefl _ (Heap.lt_size e)) (gp.keep b o e)
    · have := gp.size; rw [hs.1]; exact this
  refine wpAny_pure ?_
  show wpAny _ _ (forIn [] _ _) _ _ _
  rw [List.forIn_nil]
  exact wpAny_pure (wpAny_pure (k _ s.toks c n _ _ g' put_same (rc.mono g'.sub) (W.notModules nw) (.cons (ra.mono g'.sub) (.cons (rb.mono g'.sub) (.cons (.ptr _) .nil)))))

theorem ev_callstar {f : Str} {np pos p : Pos} {e ey : Expr} {es : List Expr} {fa : Addr} {o : Obj} {fd : FuncData} {ds : List D} {d d' : D} {a : Addr} {k : Str} {t : Tok} {v : Value} {n : Nat} {args : List Value → Args} (W : Wd K H) (hf : Ev prog w A env s H (.Name f np) (.ptr fa))
    (ho : K.lookup fa = some o) (hd : o.data = .func fd) (ha : EvL prog w A env s H (e :: es) ds) (hy : Ev prog w A env s H ey (.ptr a)) (hH : H a = some (kwO (PyData.keyHash w.params k) k t v n)) (rv : Rel H v d') (hm : (a == sysModules) = false)
    (F : FnB prog w A K fa args (ds ++ [d']) d) (hargs : ∀ vs v, vs.length = ds.length → args (vs ++ [v]) = ⟨vs, [(k, v)]⟩) (hst : starEach (e :: es) env = (false, eval e env) :: starEach es env := by rfl) :
    Ev prog w A env s H (.Call (.Name f np) (e :: es) [⟨none, ey, p⟩] pos) d := fun s₁ H₁ g Q E kk => by
  refine wpAny_Call_Name_kw (hf s₁ H₁ g _ _ fun fv s₂ H₂ g₂ r => ?_)
  cases r
  have g02 := g.trans g₂
  refine callWith_def_kw hd (args_star rfl g₂.now hm (ha.grow g02) (hy.grow g02) (g02.sub _ _ hH) (rv.mono g02.sub) (fun vs v s₃ H₃ g₃ rs r => ⟨?_, ?_⟩) hst)
  · exact g₃.now _ _ (g₃.sub _ _ (g02.sub _ _ (W.at ho)))
  · rw [← hargs vs v rs.length]
    refine wpAny_call (F s₃ H₃ (vs ++ [v]) g₃.now (W.mono fun a o e => g₃.sub a o (g02.sub a o e)) (rs.append (.cons r .nil)) _ fun v' s' H' g' r' => kk v' s' H' (g₂.trans (g₃.trans g')) r')

theorem fn_gni (hA : AOk A 2) {ws : List Str} {x : Str} {j : Nat} (hj : ws[j]? = some x) (hb : ∀ m, m < j → ws[m]? ≠ some x) (hz : j < 2 ^ 62) : FnB prog w A (Kf w) 52 argsG [.str x, .ptr 127, dstrs ws] (.tup [.int j, .int j]) := by
  refine fn_ofB (names := ["name_index", "get_name", "extrainfo"]) rfl rfl hA.room (fun ds H => ∃ dd t v n, ds = [.str x, .ptr 127, .ptr dd] ∧ H dd = some (kwO (PyData.keyHash w.params "among") "among" t v n) ∧ Rel H v (dstrs ws) ∧ (dd == sysModules) = false) (fun s H vs nw W rs Q E k => ?_) (by decide +kernel) ?_
  · cases rs with
    | @cons a _ _ _ ra rs => cases rs with
      | @cons b _ _ _ rb rs => cases rs with
        | @cons c _ _ _ rc rs =>
          cases rs
          exact bind_gni nw W ra rb rc rfl fun dd t v n s' H' g' e r hm rs' => k [a, b, .ref dd] [.str x, .ptr 127, .ptr dd] s' H' g' rs' rfl ⟨dd, t, v, n, rfl, e, r, hm⟩
  intro s H s₁ env mu ds nw W hds F S g hmu Q E k
  obtain ⟨dd, t, v, n, rfl, he, rv, hm⟩ := hds
  have hB : AOk (A.deeper env) 1 := hA.deeper
  have S' : St env mu s₁ H [("name_index", .str x), ("get_name", .ptr 127), ("extrainfo", .ptr dd)] := S
  refine x_if (b := true) S'.now (evt_cmp (ev_name S'.sc (.tail _ (.head _)) F.g.kind (by decide) (by decide)) ev_none (o_isnot_ptr 127)) (fun _ s₂ H₂ g₂ => ?_) (fun h => by cases h)
  have S₂ := S'.grow g₂
  have W₂ := W.mono g₂.sub
  refine x_set (d := .int j) (ρ' := [("argval", .int j), ("name_index", .str x), ("get_name", .ptr 127), ("extrainfo", .ptr dd)]) S₂ F.g.kind (F.kind rfl) (ev_callstar (ds := [.str x]) (d' := dstrs ws) (args := argsP) W₂ (ev_name S₂.sc (.tail _ (.head _)) F.g.kind (by decide) (by decide)) rfl rfl
    (evl_cons (ev_name S₂.sc (.head _) F.g.kind (by decide) (by decide)) evl_nil) (ev_name S₂.sc (.tail _ (.tail _ (.head _))) F.g.kind (by decide) (by decide)) (g₂.sub _ _ he) (rv.mono g₂.sub) hm (fn_placeK hB hj hb hz) (fun vs v h => by match vs, h with | [a], _ => rfl)) (new_name (ns := ["name_index", "get_name", "extrainfo"]) rfl (by decide +kernel)) rfl fun s₃ H₃ S₃ g₃ => ?_
  have nm : ∀ {pos : Pos}, Ev prog w (A.deeper env) env s₃ H₃ (.Name "argval" pos) (.int j) := fun {pos} => ev_name S₃.sc (.head _) F.g.kind (by decide) (by decide)
  exact x_ret S₃.now (ev_tuple (evl_cons nm (evl_cons nm evl_nil)) (show 2 ≤ sizeLine by decide)) fun v s' H' g' r => k v s' H' ((Step.of g₂).trans (g₃.trans (.of g'))) r

theorem fn_gni0 (hA : AOk A 2) {ws : List Str} {x : Str} : FnB prog w A (Kf w) 52 argsG [.str x, .none, dstrs ws] (.tup [.ptr 45, .str ""]) := by
  refine fn_ofB (names := ["name_index", "get_name", "extrainfo"]) rfl rfl hA.room (fun ds H => ∃ dd, ds = [.str x, .none, .ptr dd]) (fun s H vs nw W rs Q E k => ?_) (by decide +kernel) ?_
  · cases rs with
    | @cons a _ _ _ ra rs => cases rs with
      | @cons b _ _ _ rb rs => cases rs with
        | @cons c _ _ _ rc rs =>
          cases rs
          exact bind_gni nw W ra rb rc rfl fun dd t v n s' H' g' e r hm rs' => k [a, b, .ref dd] [.str x, .none, .ptr dd] s' H' g' rs' rfl ⟨dd, rfl⟩
  intro s H s₁ env mu ds nw W hds F S g hmu Q E k
  obtain ⟨dd, rfl⟩ := hds
  have S' : St env mu s₁ H [("name_index", .str x), ("get_name", .none), ("extrainfo", .ptr dd)] := S
  refine x_if (b := false) S'.now (evt_cmp (ev_name S'.sc (.tail _ (.head _)) F.g.kind (by decide) (by decide)) ev_none o_isnot_none) (fun h => by cases h) (fun _ s₂ H₂ g₂ => ?_)
  have W₂ := W.mono g₂.sub
  exact x_ret g₂.now (ev_tuple (evl_cons (ev_global W₂ F.g (F.kind rfl) rfl) (evl_cons ev_str evl_nil)) (show 2 ≤ sizeLine by decide)) fun v s' H' g' r => k v s' H' ((Step.of g₂).trans (.of g')) r
end
end Mine

namespace Mine
section
variable {prog : Program} {w : World} {A : Around} {env : Env} {mu : List Addr} {s : Shared} {H : Mp} {ρ ρ' : List (Str × D)} {K : Frag}

def hailed (f : Nat) : Str := ("257 \"" : Str) ++ Txt.replace (prettyW f) ", " "\"\"" ++ ("\" weigh just that" : Str)
def heardW (f : Nat) : List Str := Txt.split (parseW (hailed f)) "\""
structure ToldOk (f : Nat) : Prop where
  low : f < 2 ^ 32
  p1 : (prettyW f).length ≤ 1000
  h1 : (Txt.replace (prettyW f) ", " "\"\"").length ≤ 10000
  h2 : (hailed f).length ≤ 10000
  h3 : 5 ≤ (hailed f).length
  s1 : Txt.slice (hailed f) none (some 3) = "257"
  s2 : Txt.slice (hailed f) (some 3) (some 5) = " \""
  l1 : (parseW (hailed f)).length ≤ 10000
  l2 : (heardW f).length ≤ 10000
  all : f ≠ 0 → heardW f = bitNames f 32

theorem swaps_loc {elt : Expr} {gens : List Comprehension} {scope : Scope} {pos px : Pos} {x : Str} {line : Nat} (hf : env.scope.kind = .function) (hk : env.kindOf x = some .local) (hl : (px.line == pos.line) = true) (hn : (scope.names.any fun p => p.1 == x && (p.2 == .local || p.2 == .cell)) = false) :
    swapsWith (.ListComp elt gens scope pos) (some (.Name x px)) line env = pure true := by
  have hb : env.blockKind = .function := by unfold Env.blockKind; rw [hf]; rfl
  simp only [swapsWith, hk, hb]
  have hl' : (px.line == (Expr.ListComp elt gens scope pos).pos.line) = true := hl
  rw [hl']
  have hn' : (scope.names.any fun x_1 => match x_1 with | (n, k) => n == x && (k == .local || k == .cell)) = false := hn
  rw [hn']; rfl
theorem word_at : ∀ k, k < 32 → wordsL[k]? = some (wordAt k) := by decide +kernel
theorem word_first : ∀ k, k < 32 → ∀ m, m < k → wordsL[m]? ≠ some (wordAt k) := by decide +kernel

theorem fn_told (hA : AOk A 4) (f : Nat) (T : ToldOk f) : Fn prog w A (Kf w) 132 [.int f] (dints ((bitsTo f 32).map fun k : Nat => (k : Int))) := by
  refine fn_of (names := ["flags"]) rfl rfl hA.room (fun vs h => by match vs, h with | [a], _ => rfl) rfl (by decide +kernel) ?_
  intro s H s₁ env mu nw W F S g hmu Q E k
  have hB : AOk (A.deeper env) 3 := hA.deeper
  have G := F.g
  obtain ⟨cW, hcW, hcWm, hcWa⟩ := F.own "words" (by decide +kernel)
  obtain ⟨cC, hcC, hcCm, hcCa⟩ := F.own "caller" (by decide +kernel)
  let caller : D := if f = 0 then .none else .ptr 127
  refine x_setc (d := dstrs wordsL) (ρ' := [("words", dstrs wordsL), ("flags", .int f)]) S G.kind (F.kind rfl) hcW hcWm hcWa (ev_call0 (fd := default) W G (F.kind rfl) rfl rfl rfl (fn_words (hB.less (by decide)))) (new_name (ns := ["flags"]) rfl (by decide +kernel)) rfl fun s₂ H₂ S₂ g₂ => ?_
  have W₂ := W.mono g₂.sub
  refine x_setc (d := caller) (ρ' := [("caller", caller), ("words", dstrs wordsL), ("flags", .int f)]) S₂ G.kind (F.kind rfl) hcC hcCm hcCa (ev_ife (b := ((f : Int) == 0)) (evt_cmp (ev_name S₂.sc (.tail _ (.head _)) G.kind (by decide) (by decide)) ev_int (o_eq _ _)) (fun hb => ?_) fun hb => ?_) (new_name (ns := ["words", "flags"]) rfl (by decide +kernel)) rfl fun s₃ H₃ S₃ g₃ => ?_
  · have h0 : f = 0 := by have := beq_iff_eq.mp hb; omega
    have : caller = .none := if_pos h0
    rw [this]; exact ev_none
  · have h0 : f ≠ 0 := fun z => by rw [z] at hb; exact absurd hb (by decide)
    have : caller = .ptr 127 := if_neg h0
    rw [this]; exact ev_global W₂ G (F.kind rfl) rfl
  have W₃ := W₂.mono g₃.sub
  refine x_set (d := dstrs (heardW f)) (ρ' := [("heard", dstrs (heardW f)), ("caller", caller), ("words", dstrs wordsL), ("flags", .int f)]) S₃ G.kind (F.kind rfl) (ev_method W₃ (ev_call W₃ G (F.kind rfl) rfl rfl rfl (evl_cons (ev_bin (ev_addc (evp_replace W₃ (ev_call W₃ G (F.kind rfl) rfl rfl rfl (evl_cons (ev_name S₃.sc (.tail _ (.tail _ (.head _))) G.kind (by decide) (by decide)) evl_nil) (fn_pretty (hB.less (by decide)) f T.low)) rfl (by decide +kernel) ?_) ?_) ev_str (o_adds _ _ ?_)) evl_nil)
      (fn_parse (hB.less (by decide)) (hailed f) (Nat.le_trans T.h2 (by decide)) T.s1 T.s2 T.h3)) ty_str PySem.F.plainAttrs_str PySem.F.slot_str_split PySem.F.type_str_split (evl_cons ev_str evl_nil) (c_split (parseW (hailed f)) "\"" (by decide +kernel) ?_) rfl) (new_name (ns := ["caller", "words", "flags"]) rfl (by decide +kernel)) rfl fun s₄ H₄ S₄ g₄ => ?_
  · have := T.p1
    have e : ("\"\"" : Str).length = 2 := by decide +kernel
    rw [e]; omega
  · have := T.h1
    have e : ("257 \"" : Str).length = 5 := by decide +kernel
    rw [e]; exact Nat.le_trans (show _ ≤ 10005 by omega) (by decide)
  · have := T.h2
    unfold hailed at this
    have hl : ∀ a b : Str, (a ++ b).length = a.length + b.length := fun a b => by
      show (a.cps ++ b.cps).size = a.cps.size + b.cps.size
      simp
    rw [hl] at this
    exact Nat.le_trans this (by decide)
  · exact Nat.le_trans (Nat.add_le_add_right T.l1 2) (by decide)
  have W₄ := W₃.mono g₄.sub
  let pairs : List D := if f = 0 then (heardW f).map (fun _ => D.tup [.ptr 45, .str ""]) else (bitsTo f 32).map fun k : Nat => D.tup [.int k, .int k]
  have hA2 : AOk (A.deeper env) 2 := hB.less (by decide)
  have hfr : ∀ p ∈ ([("caller", caller), ("words", dstrs wordsL)] : List (Str × D)), p ∈ ([("heard", dstrs (heardW f)), ("caller", caller), ("words", dstrs wordsL), ("flags", .int f)] : List (Str × D)) := fun p hp => by
    rcases List.mem_cons.mp hp with q | q
    · rw [q]; exact .tail _ (.head _)
    · rw [List.mem_singleton.mp q]; exact .tail _ (.tail _ (.head _))
  refine x_setl (out := pairs) (ρ' := [("pairs", .list pairs), ("heard", dstrs (heardW f)), ("caller", caller), ("words", dstrs wordsL), ("flags", .int f)]) S₄ G.kind (F.kind rfl) ?_ (new_name (ns := ["heard", "caller", "words", "flags"]) rfl (by decide +kernel)) (swaps_loc G.kind (F.kind rfl) rfl (by decide +kernel)) fun s₅ H₅ S₅ g₅ => ?_
  · by_cases h0 : f = 0
    · have e1 : pairs = (heardW f).map (fun _ => D.tup [.ptr 45, .str ""]) := if_pos h0
      have e2 : caller = .none := if_pos h0
      rw [e1]
      refine evc_map (c := D.str) (xs := heardW f) [("caller", caller), ("words", dstrs wordsL)] (fun _ => D.tup [.ptr 45, .str ""]) S₄ hfr ["caller", "words"] rfl (by decide +kernel) (.inl rfl) (by decide +kernel) ⟨.inl (F.kind rfl), .inl (F.kind rfl), trivial⟩
        (evit_list hB.handled (ev_name S₄.sc (.head _) G.kind (by decide) (by decide))) (Nat.le_trans T.l2 (by decide)) ?_
      intro cenv mu' x s₆ H₆ hx C up S₆
      rw [e2] at S₆
      exact ev_callkw (ds := [.str x, .none]) (d' := dstrs wordsL) (args := argsG) (W₄.mono up) (C.g G) (C.other rfl) rfl rfl rfl (evl_cons (ev_name S₆.sc (.head _) C.kind (by decide) (by decide)) (evl_cons (ev_name S₆.sc (.tail _ (.head _)) C.kind (by decide) (by decide)) evl_nil)) (ev_name S₆.sc (.tail _ (.tail _ (.head _))) C.kind (by decide) (by decide)) (fn_gni0 hA2)
        (fun vs v h => by match vs, h with | [a, b], _ => rfl)
    · have e1 : pairs = (bitsTo f 32).map (fun k : Nat => D.tup [.int k, .int k]) := if_neg h0
      have e2 : caller = .ptr 127 := if_neg h0
      rw [e1]
      have eh : dstrs (heardW f) = .list ((bitsTo f 32).map fun k => D.str (wordAt k)) := by
        rw [T.all h0]; unfold bitNames; rw [dstrs, List.map_map]; rfl
      refine evc_map (c := fun k => D.str (wordAt k)) (xs := bitsTo f 32) [("caller", caller), ("words", dstrs wordsL)] (fun k : Nat => D.tup [.int k, .int k]) S₄ hfr ["caller", "words"] rfl (by decide +kernel) (.inl rfl) (by decide +kernel) ⟨.inl (F.kind rfl), .inl (F.kind rfl), trivial⟩
        (evit_list hB.handled (by rw [← eh]; exact ev_name S₄.sc (.head _) G.kind (by decide) (by decide))) (Nat.le_trans (bits_len f 32) (by decide)) ?_
      intro cenv mu' x s₆ H₆ hx C up S₆
      rw [e2] at S₆
      have hx' := bits_lt f 32 x hx
      exact ev_callkw (ds := [.str (wordAt x), .ptr 127]) (d' := dstrs wordsL) (args := argsG) (W₄.mono up) (C.g G) (C.other rfl) rfl rfl rfl (evl_cons (ev_name S₆.sc (.head _) C.kind (by decide) (by decide)) (evl_cons (ev_name S₆.sc (.tail _ (.head _)) C.kind (by decide) (by decide)) evl_nil)) (ev_name S₆.sc (.tail _ (.tail _ (.head _))) C.kind (by decide) (by decide)) (fn_gni hA2 (word_at x hx') (word_first x hx') (by omega))
        (fun vs v h => by match vs, h with | [a, b], _ => rfl)
  have W₅ := W₄.mono g₅.sub
  have hout : (bitsTo f 32).map (fun k : Nat => D.int k) = ((bitsTo f 32).map fun k : Nat => (k : Int)).map D.int := by rw [List.map_map]; rfl
  have g15 := g₂.trans (g₃.trans (g₄.trans g₅))
  refine x_ret S₅.now (ev_of_evc (out := (bitsTo f 32).map fun k : Nat => D.int k) ?_) fun v s' H' g' r => k v s' H' (g15.trans (.of g')) (by rw [dints, ← hout]; exact r)
  by_cases h0 : f = 0
  · have e1 : pairs = (heardW f).map (fun _ => D.tup [.ptr 45, .str ""]) := if_pos h0
    have e3 : (bitsTo f 32).map (fun k : Nat => D.int k) = (heardW f).flatMap fun _ => if (("" : Str) != "" && false) = true then [D.none] else [] := by
      have : bitsTo f 32 = [] := by rw [h0]; decide +kernel
      rw [this]; simp
    rw [e1] at S₅
    rw [e3]
    refine evc_of (ρf := []) S₅ (fun p hp => absurd hp List.not_mem_nil) (fs := []) rfl (by decide +kernel) trivial (evit_list hB.handled (ev_name S₅.sc (.head _) G.kind (by decide) (by decide))) (by rw [← e3, h0, show bitsTo 0 32 = [] by decide +kernel]; exact Nat.zero_le _) (fun cenv mu' Dl s₆ H₆ g₆ C hD => ?_)
    refine comp_last (c := fun _ => D.tup [.ptr 45, .str ""]) rfl rfl hD (fun _ => [("second", .str ""), ("first", .ptr 45)]) (fun _ => (("" : Str) != "" && false)) (fun _ => D.none)
      (fun d hd => bind_pair hB.handled (C.other rfl) (C.other rfl) C.kind (new_name (ns := []) rfl rfl) (new_name (ns := ["first"]) rfl (by decide +kernel))) (fun d hd q hq => absurd hq List.not_mem_nil) (fun d hd s₇ H₇ up S₇ => ?_) fun d hd hp => absurd hp (by decide +kernel)
    exact evts_one (evt_and (evt_cmp (ev_name S₇.sc (.head _) C.kind (by decide) (by decide)) ev_str (o_nes _ _)) fun hb => absurd hb (by decide +kernel))
  · have e1 : pairs = (bitsTo f 32).map (fun k : Nat => D.tup [.int k, .int k]) := if_neg h0
    have e3 : (bitsTo f 32).map (fun k : Nat => D.int k) = (bitsTo f 32).flatMap fun k : Nat => if (true && ((k : Int) == (k : Int))) = true then [D.int k] else [] := by
      simp only [beq_self_eq_true, Bool.and_self, if_true]
      generalize bitsTo f 32 = l
      induction l with
      | nil => rfl
      | cons a r ih => rw [List.map_cons, List.flatMap_cons, ih]; rfl
    rw [e1] at S₅
    rw [e3]
    refine evc_of (ρf := []) S₅ (fun p hp => absurd hp List.not_mem_nil) (fs := []) rfl (by decide +kernel) trivial (evit_list hB.handled (ev_name S₅.sc (.head _) G.kind (by decide) (by decide))) (by rw [← e3, List.length_map]; exact Nat.le_trans (bits_len f 32) (by decide)) (fun cenv mu' Dl s₆ H₆ g₆ C hD => ?_)
    refine comp_last (c := fun k : Nat => D.tup [.int k, .int k]) rfl rfl hD (fun k => [("second", .int k), ("first", .int k)]) (fun k : Nat => (true && ((k : Int) == (k : Int)))) (fun k : Nat => D.int k)
      (fun d hd => bind_pair hB.handled (C.other rfl) (C.other rfl) C.kind (new_name (ns := []) rfl rfl) (new_name (ns := ["first"]) rfl (by decide +kernel))) (fun d hd q hq => absurd hq List.not_mem_nil) (fun d hd s₇ H₇ up S₇ => ?_) fun d hd hp s₇ H₇ up S₇ => ?_
    · exact evts_one (evt_and (evt_cmp (ev_name S₇.sc (.head _) C.kind (by decide) (by decide)) ev_str (o_neis _ _)) fun hb => evt_cmp (ev_name S₇.sc (.tail _ (.head _)) C.kind (by decide) (by decide)) (ev_name S₇.sc (.head _) C.kind (by decide) (by decide)) (o_eq _ _))
    · exact ev_name S₇.sc (.tail _ (.head _)) C.kind (by decide) (by decide)
end
end Mine

namespace Mine
section
variable {prog : Program} {w : World} {A : Around} {env : Env} {mu : List Addr} {s : Shared} {H : Mp} {ρ ρ' : List (Str × D)} {K : Frag}

def drawnL (sc : List Int) : Nat → List Int
  | 0 => [2, 2, 1, 1, 1]
  | k + 1 => (drawnL sc k).set (k % 5) ((drawnL sc k).getD (k % 5) 0 + (sc.getD k 0).fmod 1000000)
def modsL (sc : List Int) : List Int := (drawnL sc (min sc.length 20)).map fun x => x.fmod 3
def weightsL (sc : List Int) : List Int := if (modsL sc).sum.fmod 2 = 0 then (modsL sc).set 0 ((modsL sc).getD 0 0 + 1) else modsL sc

theorem drawn_len (sc : List Int) : ∀ n, (drawnL sc n).length = 5
  | 0 => rfl
  | n + 1 => by rw [drawnL, List.length_set, drawn_len sc n]
theorem mods_len (sc : List Int) : (modsL sc).length = 5 := by rw [modsL, List.length_map, drawn_len]
theorem getD_get {l : List Int} {k : Nat} (h : k < l.length) : l[k]? = some (l.getD k 0) := by
  rw [List.getD_eq_getElem?_getD, List.getElem?_eq_getElem h]; rfl
theorem fmod5 (k : Nat) : (k : Int).fmod 5 = ((k % 5 : Nat) : Int) := by
  rw [Int.fmod_eq_emod_of_nonneg _ (by decide)]; omega

theorem fn_weights (hA : AOk A 2) (a : Addr) (sc : List Int) (hz : (sc.length : Int) < 2 ^ 40) : FnJ prog w A (Kf w) 110 (fun H => IntsAt H a sc) (fun vs => ⟨vs, []⟩) [.ptr a] (dints (weightsL sc)) := by
  refine fn_ofJ (names := ["script"]) rfl rfl hA.room (fun ds H => ds = [.ptr a] ∧ IntsAt H a sc) (fun s H vs nw W hJ rs Q E k => ?_) (by decide +kernel) ?_
  · cases rs with
    | @cons v _ _ _ ra rs =>
      cases rs
      refine wpAny_of_eq (a := ([("script", v)] : List (Str × Value))) rfl ?_
      exact k [v] [.ptr a] s H (.refl nw) (.cons ra .nil) rfl ⟨rfl, hJ⟩
  intro s H s₁ env mu ds nw W hds F S g hmu Q E k
  obtain ⟨rfl, I⟩ := hds
  have S : St env mu s₁ H [("script", .ptr a)] := S
  have hB : AOk (A.deeper env) 1 := hA.deeper
  have G := F.g
  refine x_setm (l := (drawnL sc 0).map D.int) (ρ' := [("script", .ptr a)]) S G.kind (F.kind rfl) (evl_cons ev_int (evl_cons ev_int (evl_cons ev_int (evl_cons ev_int (evl_cons ev_int evl_nil))))) (show 5 ≤ sizeLine by decide) (fun b => new_name (ns := ["script"]) rfl (by decide +kernel)) rfl fun dv s₂ H₂ hdv S₂ L₂ g₂ => ?_
  have W₂ := W.mono g₂.sub
  have I₂ := I.mono g₂.sub
  have hdm : dv ∉ mu := fun z => Nat.not_lt.mpr hdv (S.out _ z).2
  have hmin : ((min sc.length 20 : Nat) : Int) = if (20 : Int) < (sc.length : Int) then 20 else (sc.length : Int) := by
    by_cases h : (20 : Int) < (sc.length : Int)
    · rw [if_pos h]; omega
    · rw [if_neg h]; omega
  refine x_for (c := fun i : Nat => D.int i) (xs := List.range (min sc.length 20)) (fun i => [("drawn", .ptr dv), ("script", .ptr a)]) (fun i k => [("k", .int k), ("drawn", .ptr dv), ("script", .ptr a)]) (fun i => [(dv, (drawnL sc i).map D.int)]) hB.handled S₂ (fun p hp => by rw [List.mem_singleton.mp hp]; exact L₂)
    (fun i p hp => by rw [List.mem_singleton.mp hp]; exact .head _) (evit_range1 (n := min sc.length 20) hB.handled W₂ G (F.kind rfl) rfl (by rw [hmin]; exact ev_builtin W₂ G (F.kind rfl) rfl boot_min (by decide) (evl_cons (ev_lenS W₂ G (F.kind rfl) rfl S₂.sc (.tail _ (.head _)) I₂ (by omega) (by decide) (by decide)) (evl_cons ev_int evl_nil)) (c_min _ _ hB.handled)) (by omega))
    (fun i k _ => bind_fn (ns := ["drawn", "script"]) (F.up fun a ha => .tail _ ha) (.inl rfl) rfl (by decide +kernel)) (Qb := fun _ _ => False) (Qr := fun _ _ _ => False) ?_ ?_ (fun _ _ _ h => h.elim) (fun _ _ _ _ h => h.elim)
  · intro i m s₃ H₃ hm up S₃ L₃ E'
    have hi : i < min sc.length 20 := by have := (List.getElem?_eq_some_iff.mp hm).1; simpa using this
    have hmi : m = i := by rw [List.getElem?_range hi] at hm; cases hm; rfl
    subst hmi
    have hlt : m % 5 < (drawnL sc m).length := by rw [drawn_len]; omega
    refine x_augsub (j := m % 5) (b := (sc.getD m 0).fmod 1000000) (c := (drawnL sc m).getD (m % 5) 0) S₃ G.kind (.tail _ (.head _)) (.head _) (L₃ _ (.head _)) (by rw [← fmod5]; exact ev_bin (ev_name S₃.sc (.head _) G.kind (by decide) (by decide)) ev_int (o_mod _ _ (by decide)))
      (ev_bin (ev_itemS G.kind S₃.sc (.tail _ (.tail _ (.head _))) (I₂.mono up) (ev_name S₃.sc (.head _) G.kind (by decide) (by decide)) (getD_get (k := m) (by omega)) (by omega) (by decide) (by decide)) ev_int (o_mod _ _ (by decide))) (getD_get hlt) (by omega) (by decide) (by decide) fun s₄ H₄ S₄ L₄ g₄ => ?_
    refine x_nil ⟨H₄, g₄, S₄.less fun p hp => .tail _ hp, fun p hp => ?_⟩
    rw [List.mem_singleton.mp hp]
    exact L₄
  · intro s₃ H₃ g₃ S₃ L₃ E'
    refine x_nil ?_
    have L₃' := L₃ _ (.head _)
    rw [List.length_range] at L₃'
    have gb : Step mu s₁ H s₃ H₃ := g₃.back g₂ fun b hb => by
      rcases List.mem_cons.mp hb with q | q
      · exact .inr (q ▸ hdv)
      · exact .inl q
    obtain ⟨H₄, g₄, S₄, r₄, up₄⟩ := S₃.fix hdm S.loc L₃' gb hdv
    have S₅ := S₄.retype r₄
    have W₄ := W.mono g₄.sub
    have hmods : (modsL sc).map D.int = (drawnL sc (min sc.length 20)).map fun x => D.int (x.fmod 3) := by unfold modsL; rw [List.map_map]; rfl
    refine x_setlm (out := (modsL sc).map D.int) (ρ' := []) S₅ G.kind (F.kind rfl) (by rw [hmods]; exact evc_map (c := D.int) (xs := drawnL sc (min sc.length 20)) [] (fun x => D.int (x.fmod 3)) S₅ (fun p hp => absurd hp List.not_mem_nil) [] rfl (by decide +kernel) (.inl rfl) (by decide +kernel) trivial (evit_list hB.handled (ev_name S₅.sc (.head _) G.kind (by decide) (by decide))) (by rw [drawn_len]; decide) fun cenv mu' x s₆ H₆ hx C up S₆ => ev_bin (ev_name S₆.sc (.head _) C.kind (by decide) (by decide)) ev_int (o_mod _ _ (by decide)))
      (fun b p hp => .inl (List.mem_singleton.mp hp)) (swaps_loc G.kind (F.kind rfl) rfl (by decide +kernel)) fun wv s₆ H₆ hwv S₆ L₆ g₆ => ?_
    have W₆ := W₄.mono g₆.sub
    have hwm : wv ∉ mu := fun z => Nat.not_lt.mpr hwv (S₄.out _ z).2
    have fin : ∀ (l : List Int) s₇ H₇, l = weightsL sc → Step (wv :: mu) s₆ H₆ s₇ H₇ → St env (wv :: mu) s₇ H₇ [("weights", .ptr wv)] → Lm wv (l.map D.int) s₇ H₇ → ∀ (p₁ p₂ : Pos), wpAny (model prog w) (A.deeper env) (execs [.Return (some (.Name "weights" p₁)) p₂] env) Q E s₇ := by
      intro l s₇ H₇ hl g₇ S₇ L₇ p₁ p₂
      have g47 : Step mu s₃ H₄ s₇ H₇ := g₇.back g₆ fun b hb => by
        rcases List.mem_cons.mp hb with q | q
        · exact .inr (q ▸ hwv)
        · exact .inl q
      obtain ⟨H₈, g₈, S₈, r₈, up₈⟩ := S₇.fix hwm S.loc L₇ g47 hwv
      have S₉ := S₈.retype r₈
      rw [← hl] at k
      exact x_ret S₉.now (ev_name S₉.sc (.head _) G.kind (by decide) (by decide)) fun v s' H' g' r => k v s' H' (g₄.trans (g₈.trans (.of g'))) r
    refine x_if (b := ((modsL sc).sum.fmod 2 == 0)) S₆.now (evt_cmp (ev_bin (ev_sumL W₆ G (F.kind rfl) rfl hB.handled S₆.sc (.head _) L₆ (by decide) (by decide)) ev_int (o_mod _ _ (by decide))) ev_int (o_eq _ _)) (fun hb s₇ H₇ g₇ => ?_) fun hb s₇ H₇ g₇ => ?_
    · have hb' : (modsL sc).sum.fmod 2 = 0 := beq_iff_eq.mp hb
      refine x_augsub (j := 0) (b := 1) (c := (modsL sc).getD 0 0) (S₆.grow g₇) G.kind (.head _) (.head _) (L₆.grow g₇) ev_int ev_int (getD_get (by rw [mods_len]; decide)) (by decide) (by decide) (by decide) fun s₈ H₈ S₈ L₈ g₈ => ?_
      exact x_nil (fin _ s₈ H₈ (by unfold weightsL; rw [if_pos hb']) ((Step.of g₇).trans g₈) S₈ L₈ _ _)
    · have hb' : ¬ (modsL sc).sum.fmod 2 = 0 := by simpa using hb
      exact x_nil (fin _ s₇ H₇ (by unfold weightsL; rw [if_neg hb']) (.of g₇) (S₆.grow g₇) (L₆.grow g₇) _ _)
end
end Mine

namespace Mine
section
variable {prog : Program} {w : World} {A : Around} {env : Env} {mu : List Addr} {s : Shared} {H : Mp} {ρ ρ' : List (Str × D)} {K : Frag}

def totOf (ws : List Int) (m : Nat) : Int := (totalsL ws).getD m 0
def potOf (ws : List Int) : Nat := ((ws.sum + 1).fdiv 2).toNat
def winsB (ws : List Int) : List Bool := (totalsL ws).map fun t => decide (256 ≤ 256 + t - (potOf ws : Int))
def flagInts (ws : List Int) : List Int := ((List.range 32).filter fun m => totOf ws m - (potOf ws : Int) == 0).map fun m : Nat => (2 : Int) ^ m
def flagsOf (ws : List Int) : Nat := (flagInts ws).sum.toNat
def justOf (ws : List Int) : List Nat := bitsTo (flagsOf ws) 32
def keptAt (ws : List Int) (m : Nat) : List Int := (List.range 5).map fun k => if bitP m k then ws.getD k 0 else 0
def keptOf (ws : List Int) : List (List Int) := (justOf ws).map (keptAt ws)
def beatsL (ws : List Int) (low : Nat) : List Int := ((justOf ws).filter fun m => (winsB ws).getD (m &&& low) false).map fun m : Nat => (m : Int)
def beatenB (ws : List Int) : List Bool := (List.range 32).map fun low => !decide (beatsL ws low = [])
def badOf (ws : List Int) (tab : List Bool) : List Int := ((shL (potOf ws)).filter fun t => (keptOf ws).contains t == tab.getD (lowOf ws t).toNat false).map (lowOf ws)
/-- what the law asks of the weights -/
structure Good (ws : List Int) : Prop where
  len : ws.length = 5
  pot : (ws.sum + 1).fdiv 2 = (potOf ws : Int)
  small : potOf ws < 7
  flags : (flagInts ws).sum = (flagsOf ws : Int)
  told : ToldOk (flagsOf ws)
  just : justOf ws = (List.range 32).filter fun m => totOf ws m == (potOf ws : Int)
  low : ∀ t ∈ shL (potOf ws), 0 ≤ lowOf ws t ∧ lowOf ws t < 32
  one : badOf ws (winsB ws) = []
  fin : (decide (badOf ws (beatenB ws) = []) == noHeavy ws (totalsL ws) (potOf ws)) = true

theorem at_bools {l : List Bool} {k : Nat} (h : k < l.length) : (l.map D.bool)[k]? = some (.bool (l.getD k false)) := by
  rw [List.getElem?_map, List.getElem?_eq_getElem h]; simp [List.getD, List.getElem?_eq_getElem h]

theorem flat_filter {α : Type} (ts : List α) (p : α → Bool) (lo : α → Int) : ((ts.filter p).map lo).map D.int = ts.flatMap fun t => if p t then [D.int (lo t)] else [] := by
  induction ts with
  | nil => rfl
  | cons a r ih =>
    rw [List.flatMap_cons, ← ih, List.filter_cons]
    cases p a <;> simp

/-- tuple([.. for ..]) -/
theorem ev_tupleof {np cpos pos : Pos} {elt : Expr} {gens : List Comprehension} {scope : Scope} {l : List D} (W : Wd K H) (G : GEnv env) (hx : env.kindOf "tuple" = some .globalImplicit) (he : nsIn K mainGlobals "tuple" = some none) (h : EvC prog w A env s H elt gens scope pos l) (hz : l.length ≤ sizeLine) (ha : firstAsync gens = false := by rfl)
    (hst : starEach [.ListComp elt gens scope pos] env = (false, eval (.ListComp elt gens scope pos) env) :: starEach [] env := by rfl) :
    Ev prog w A env s H (.Call (.Name "tuple" np) [.ListComp elt gens scope pos] [] cpos) (.tup l) := fun s₁ H₁ g Q E k => by
  refine wpAny_Call_NameR (rd_builtin (W.mono g.sub) g.now G hx he PyProof.Rows.boot_tuple (by decide) (Pv.callWith_type1 (args_cons ?_ hst) hst))
  rw [eval_ListComp, ha]
  refine h s₁ H₁ g _ none _ E fun C Dl vs n s' H' g' hC hD hDC hHC hHD e rs hns => ?_
  obtain ⟨m, hm⟩ := hns
  refine ⟨m, hm, fun h' hs => args_nil ?_⟩
  have g₂ := g'.settle hC hD hDC hHC hHD e hs
  have rs' := rs.mono (put_sub' (o := lstO vs n) hHD)
  generalize put H' Dl (lstO vs n) = H₂ at g₂ rs'
  have eD : h'.get? Dl = some (lstO vs n) := hs.extBut Dl _ hDC e
  have hl : h'.IsList Dl vs.toArray := ⟨_, eD, rfl, n, rfl⟩
  refine call_tuple_list (s := { s' with heap := h' }) hl (fun h'' hk => ?_) (by rw [List.size_toArray, rs.length]; exact hz)
  have e1 : (h''.push (tupO vs)).get? h''.objs.size = some (tupO vs) := Heap.get?_push_size _ rfl
  have hDlt := Heap.lt_size (hk _ _ eD)
  have hge : s₁.heap.objs.size ≤ h''.objs.size := Nat.le_of_lt (Nat.lt_of_le_of_lt hD hDlt)
  have hnone : H₂ h''.objs.size = none := by
    cases q : H₂ h''.objs.size with
    | none => rfl
    | some o => exact absurd (Heap.lt_size (hk _ _ (g₂.now _ _ q))) (Nat.lt_irrefl _)
  have gp : Grow s₁ H₁ { s' with heap := h''.push (tupO vs) } (put H₂ h''.objs.size (tupO vs)) := by
    refine ⟨?_, fun b o q => Heap.get?_push_of_some _ (hk b o (g₂.keep b o q)), ?_, fun a o q => put_sub' hnone a o (g₂.sub a o q), fun a o q => ?_, fun a o q => ?_⟩
    · obtain ⟨hh, tk, e⟩ := g'.same; subst e; exact ⟨_, _, rfl⟩
    · show s₁.heap.objs.size ≤ (h''.push (tupO vs)).objs.size
      rw [Heap.size_push]; exact Nat.le_succ_of_le hge
    · unfold put at q
      split at q
      · rename_i z; cases q; rw [z]; exact e1
      · exact Heap.get?_push_of_some _ (hk a o (g₂.now a o q))
    · unfold put at q
      split at q
      · rename_i z; exact .inr (z ▸ hge)
      · exact g₂.fresh a o q
  exact k _ _ _ gp (.tup put_same (rs'.mono (put_sub' hnone)))

/-- [low for inside, low in views if inside == T[low]] -/
theorem evc_views {T : Str} {scope : Scope} {pos p₁ p₂ p₃ p₄ p₅ p₆ p₇ p₈ p₉ p₁₀ : Pos} {ts : List (List Int)} {u : List Int → Bool} {lo : List Int → Int} {tab : List Bool} (hh : A.handled = none) (S : St env mu s H ρ) (hk : env.scope.kind = .function)
    (hT : (T, D.list (tab.map D.bool)) ∈ ρ) (hv : (("views" : Str), D.list (ts.map fun t => .tup [.bool (u t), .int (lo t)])) ∈ ρ) (hlo : ∀ t ∈ ts, 0 ≤ lo t ∧ lo t < 32) (htab : tab.length = 32) (hz : ts.length ≤ sizeLine)
    (hok : scopeOk scope [T] = true) (hi : scope.names.lookup ("inside" : Str) = some .local) (hl : scope.names.lookup ("low" : Str) = some .local) (hK : AllK env [T]) (n1 : ([T] : List Str).contains "inside" = false) (n2 : (["inside", T] : List Str).contains "low" = false) (n3 : (T == ("__debug__" : Str)) = false) (n4 : (T == ("__classdict__" : Str)) = false) :
    EvC prog w A env s H (.Name "low" p₁) [⟨.Tuple [.Name "inside" p₂, .Name "low" p₃] 0 p₄, .Name "views" p₅, [.Compare (.Name "inside" p₆) [.Eq] [.Subscript (.Name T p₇) (.Name "low" p₈) p₉] p₁₀], 0⟩] scope pos (((ts.filter fun t => u t == tab.getD (lo t).toNat false).map lo).map D.int) := by
  have hout := flat_filter ts (fun t => u t == tab.getD (lo t).toNat false) lo
  have hlen : (((ts.filter fun t => u t == tab.getD (lo t).toNat false).map lo).map D.int).length ≤ sizeLine := by
    rw [List.length_map, List.length_map]; exact Nat.le_trans (List.length_filter_le _ _) hz
  rw [hout] at hlen ⊢
  refine evc_of (ρf := [(T, D.list (tab.map D.bool))]) S (fun p hp => by rw [List.mem_singleton.mp hp]; exact hT) (fs := [T]) rfl hok hK (evit_list hh (ev_name S.sc hv hk (by decide) (by decide))) hlen (fun cenv mu' Dl s₆ H₆ g₆ C hD => ?_)
  refine comp_last (c := fun t => .tup [.bool (u t), .int (lo t)]) rfl rfl hD (fun t => [("low", .int (lo t)), ("inside", .bool (u t)), (T, D.list (tab.map D.bool))]) (fun t => (u t == tab.getD (lo t).toNat false)) (fun t => D.int (lo t))
    (fun d hd => bind_pair hh (C.other hi) (C.other hl) C.kind (new_name (ns := [T]) rfl n1) (new_name (ns := ["inside", T]) rfl n2)) (fun d hd q hq => .tail _ (.tail _ hq)) (fun d hd s₇ H₇ up S₇ => ?_) fun d hd hp s₇ H₇ up S₇ => ?_
  · obtain ⟨h0, h1⟩ := hlo d hd
    have e : lo d = (((lo d).toNat : Nat) : Int) := (Int.toNat_of_nonneg h0).symm
    exact evts_one (evt_cmp (ev_name S₇.sc (.tail _ (.head _)) C.kind (by decide) (by decide)) (ev_item (i := (lo d).toNat) (ev_name S₇.sc (.tail _ (.tail _ (.head _))) C.kind n3 n4) (by rw [← e]; exact ev_name S₇.sc (.head _) C.kind (by decide) (by decide)) (at_bools (by omega)) (by omega)) (o_eqb _ _))
  · exact ev_name S₇.sc (.head _) C.kind (by decide) (by decide)

theorem totals32 {ws : List Int} (h : ws.length = 5) : (totalsL ws).length = 32 := by rw [totalsL_len, h]

noncomputable def lawFd (w : World) : FuncData := match (Kf w).lookup 152 with | some ⟨_, _, .func fd, _⟩ => fd | _ => default
noncomputable def lawB (w : World) : List Stmt := match (lawFd w).body with | .stmts b => b | _ => []
noncomputable def lawS (w : World) : Scope := (lawFd w).scope
theorem get_body {P : List Stmt → Scope → Prop} {oc : Value} {od an : Option Addr} {name qual : Str} {params : Arguments} {body : List Stmt} {scope : Scope} {dV kV doc pm cdv ct : Value} {osl : Array (Option Value)}
    (ho : (Kf w).lookup 152 = some ⟨oc, od, .func (fnOf name qual params body scope dV kV doc pm an cdv ct), osl⟩) (h : P body scope) : P (lawB w) (lawS w) := by
  have e : lawFd w = fnOf name qual params body scope dV kV doc pm an cdv ct := by unfold lawFd; rw [ho]
  have e1 : lawB w = body := by unfold lawB; rw [e]
  have e2 : lawS w = scope := by unfold lawS; rw [e]
  rw [e1, e2]; exact h

def LawGoes (w : World) (body : List Stmt) (scope : Scope) : Prop := ∀ (prog : Program) (A : Around) (a : Addr) (sc : List Int) (s : Shared) (H : Mp) (env : Env) (mu : List Addr), AOk A 5 → (sc.length : Int) < 2 ^ 40 → Good (weightsL sc) → Wd (Kf w) H → FEnv scope env mu → St env mu s H [("script", .ptr a)] → IntsAt H a sc → ∀ (Q : Flow → Shared → Prop) (E : Value → Shared → Prop),
  (∀ v s' H', Step mu s H s' H' → Rel H' v (.bool true) → Q (.ret v) s') → wpAny (model prog w) A (execs body env) Q E s

theorem law_goes (w : World) : LawGoes w (lawB w) (lawS w) := by
  refine get_body rfl ?_
  intro prog A a sc s₁ H env mu hB hz GW W F S I Q E k
  have G := F.g
  have I' := fun (H' : Mp) (h : ∀ b o, H b = some o → H' b = some o) => I.mono h
  have q0 := GW.pot
  have hts : (totalsL (weightsL sc)).length = 32 := totals32 GW.len
  obtain ⟨cw, hwc, hwm, hwa⟩ := F.own "weights" (by decide +kernel)
  obtain ⟨ct, htc, htm, hta⟩ := F.own "totals" (by decide +kernel)
  obtain ⟨cq, hqc, hqm, hqa⟩ := F.own "quota" (by decide +kernel)
  obtain ⟨ci, hic, him, hia⟩ := F.own "wins" (by decide +kernel)
  obtain ⟨cj, hjc, hjm, hja⟩ := F.own "just" (by decide +kernel)
  obtain ⟨cb, hbc, hbm, hba⟩ := F.own "beaten" (by decide +kernel)
  refine x_setc (d := dints (weightsL sc)) (ρ' := [("weights", dints (weightsL sc)), ("script", .ptr a)]) S G.kind (F.kind rfl) hwc hwm hwa (ev_callJ (J := fun H => IntsAt H a sc) W I' G (F.kind rfl) rfl rfl rfl (evl_cons (ev_name S.sc (.head _) G.kind (by decide) (by decide)) evl_nil) (fn_weights (hB.less (by decide)) a sc hz)) (new_name (ns := ["script"]) rfl (by decide +kernel)) rfl fun s₂ H₂ S₂ g₂ => ?_
  have W₂ := W.mono g₂.sub
  refine x_setc (d := dints (totalsL (weightsL sc))) (ρ' := [("totals", dints (totalsL (weightsL sc))), ("weights", dints (weightsL sc)), ("script", .ptr a)]) S₂ G.kind (F.kind rfl) htc htm hta (ev_call W₂ G (F.kind rfl) rfl rfl rfl (evl_cons (ev_name S₂.sc (.head _) G.kind (by decide) (by decide)) evl_nil) (fn_totals (hB.less (by decide)) (weightsL sc) (by rw [GW.len]; decide))) (new_name (ns := ["weights", "script"]) rfl (by decide +kernel)) rfl fun s₃ H₃ S₃ g₃ => ?_
  have W₃ := W₂.mono g₃.sub
  refine x_setc (d := .int (potOf (weightsL sc))) (ρ' := [("quota", .int (potOf (weightsL sc))), ("totals", dints (totalsL (weightsL sc))), ("weights", dints (weightsL sc)), ("script", .ptr a)]) S₃ G.kind (F.kind rfl) hqc hqm hqa (by rw [← q0]; exact ev_bin (ev_bin (ev_builtin W₃ G (F.kind rfl) rfl boot_sum (by decide) (evl_cons (ev_name S₃.sc (.tail _ (.head _)) G.kind (by decide) (by decide)) evl_nil) (c_sum _ hB.handled)) ev_int (o_add _ _)) ev_int (o_fdiv _ _ (by decide) (by decide))) (new_name (ns := ["totals", "weights", "script"]) rfl (by decide +kernel)) rfl fun s₄ H₄ S₄ g₄ => ?_
  have W₄ := W₃.mono g₄.sub
  have hwins : (winsB (weightsL sc)).map D.bool = (totalsL (weightsL sc)).map fun t => D.bool (decide (256 ≤ 256 + t - (potOf (weightsL sc) : Int))) := by unfold winsB; rw [List.map_map]; rfl
  refine x_setc (d := .list ((winsB (weightsL sc)).map D.bool)) (ρ' := [("wins", .list ((winsB (weightsL sc)).map D.bool)), ("quota", .int (potOf (weightsL sc))), ("totals", dints (totalsL (weightsL sc))), ("weights", dints (weightsL sc)), ("script", .ptr a)]) S₄ G.kind (F.kind rfl) hic him hia (ev_of_evc (by rw [hwins]; exact (evc_map (c := D.int) (xs := totalsL (weightsL sc)) [("quota", .int (potOf (weightsL sc)))] (fun t => D.bool (decide (256 ≤ 256 + t - (potOf (weightsL sc) : Int)))) S₄ (fun p hp => by rw [List.mem_singleton.mp hp]; exact (.head _)) ["quota"] rfl (by decide +kernel) (.inl rfl) (by decide +kernel) ⟨.inl (F.kind rfl), trivial⟩ (evit_list hB.handled (ev_name S₄.sc (.tail _ (.head _)) G.kind (by decide) (by decide))) (by rw [hts]; decide) fun cenv mu' t s₆ H₆ ht C up S₆ => ev_call (W₄.mono up) (C.g G) (C.other rfl) rfl rfl rfl (evl_cons (ev_bin (ev_bin ev_int (ev_name S₆.sc (.head _) C.kind (by decide) (by decide)) (o_add _ _)) (ev_name S₆.sc (.tail _ (.head _)) C.kind (by decide) (by decide)) (o_sub _ _)) evl_nil) (fn_ISNONTERMINAL (hB.less (by decide)) _)))) (new_name (ns := ["quota", "totals", "weights", "script"]) rfl (by decide +kernel)) (swaps_cell (F.kind rfl)) fun s₅ H₅ S₅ g₅ => ?_
  have W₅ := W₄.mono g₅.sub
  have hfl : (flagInts (weightsL sc)).map D.int = ((List.range 32).filter fun m => totOf (weightsL sc) m - (potOf (weightsL sc) : Int) == 0).map fun m : Nat => D.int ((2 : Int) ^ m) := by unfold flagInts; rw [List.map_map]; rfl
  have hb2 : Builtin.Int.intBits 2 = 2 := by decide +kernel
  have hfq : ∀ p ∈ ([("quota", .int (potOf (weightsL sc))), ("totals", dints (totalsL (weightsL sc)))] : List (Str × D)), p ∈ ([("wins", .list ((winsB (weightsL sc)).map D.bool)), ("quota", .int (potOf (weightsL sc))), ("totals", dints (totalsL (weightsL sc))), ("weights", dints (weightsL sc)), ("script", .ptr a)] : List (Str × D)) := fun p hp => by
    rcases List.mem_cons.mp hp with q | q
    · rw [q]; exact (.tail _ (.head _))
    · rw [List.mem_singleton.mp q]; exact (.tail _ (.tail _ (.head _)))
  refine x_setc (d := dints ((justOf (weightsL sc)).map fun m : Nat => (m : Int))) (ρ' := [("just", dints ((justOf (weightsL sc)).map fun m : Nat => (m : Int))), ("wins", .list ((winsB (weightsL sc)).map D.bool)), ("quota", .int (potOf (weightsL sc))), ("totals", dints (totalsL (weightsL sc))), ("weights", dints (weightsL sc)), ("script", .ptr a)]) S₅ G.kind (F.kind rfl) hjc hjm hja (ev_call W₅ G (F.kind rfl) rfl rfl rfl (evl_cons (by rw [← GW.flags]; exact (ev_builtin W₅ G (F.kind rfl) rfl boot_sum (by decide) (evl_cons (ev_of_evc (out := (flagInts (weightsL sc)).map D.int) (by rw [hfl]; exact (evc_filter (c := fun i : Nat => D.int i) (xs := List.range 32) [("quota", .int (potOf (weightsL sc))), ("totals", dints (totalsL (weightsL sc)))] (fun m => totOf (weightsL sc) m - (potOf (weightsL sc) : Int) == 0) (fun m : Nat => D.int ((2 : Int) ^ m)) S₅ hfq ["quota", "totals"] rfl (by decide +kernel) (.inl rfl) (by decide +kernel) ⟨.inl (F.kind rfl), .inl (F.kind rfl), trivial⟩ (evit_range1 (n := 32) hB.handled W₅ G (F.kind rfl) rfl ev_int (by decide)) (by decide) fun cenv mu' m s₆ H₆ hm C up S₆ => ⟨evts_one (evt_bool (ev_call (W₅.mono up) (C.g G) (C.other rfl) rfl rfl rfl (evl_cons (ev_bin (ev_item (ev_name S₆.sc (.tail _ (.tail _ (.head _))) C.kind (by decide) (by decide)) (ev_name S₆.sc (.head _) C.kind (by decide) (by decide)) (at_ints (k := m) (by rw [hts]; exact List.mem_range.mp hm)) (Nat.lt_trans (List.mem_range.mp hm) (by decide))) (ev_name S₆.sc (.tail _ (.head _)) C.kind (by decide) (by decide)) (o_sub _ _)) evl_nil) (fn_ISEOF (hB.less (by decide)) _))), fun _ => ev_bin ev_int (ev_name S₆.sc (.head _) C.kind (by decide) (by decide)) (o_pow 2 m (by omega) (by rw [hb2]; have := List.mem_range.mp hm; omega))⟩))) evl_nil) (c_sum _ hB.handled))) evl_nil) (fn_told (hB.less (by decide)) (flagsOf (weightsL sc)) GW.told)) (new_name (ns := ["wins", "quota", "totals", "weights", "script"]) rfl (by decide +kernel)) rfl fun s₆ H₆ S₆ g₆ => ?_
  have W₆ := W₅.mono g₆.sub
  have hAB : (justOf (weightsL sc)).map (fun m : Nat => (m : Int)) = ((List.range 32).filter fun m => totOf (weightsL sc) m == (potOf (weightsL sc) : Int)).map (fun m : Nat => (m : Int)) := congrArg _ GW.just
  have hfq' : ∀ p ∈ ([("quota", .int (potOf (weightsL sc))), ("totals", dints (totalsL (weightsL sc)))] : List (Str × D)), p ∈ ([("just", dints ((justOf (weightsL sc)).map fun m : Nat => (m : Int))), ("wins", .list ((winsB (weightsL sc)).map D.bool)), ("quota", .int (potOf (weightsL sc))), ("totals", dints (totalsL (weightsL sc))), ("weights", dints (weightsL sc)), ("script", .ptr a)] : List (Str × D)) := fun p hp => by
    rcases List.mem_cons.mp hp with q | q
    · rw [q]; exact (.tail _ (.tail _ (.head _)))
    · rw [List.mem_singleton.mp q]; exact (.tail _ (.tail _ (.tail _ (.head _))))
  refine x_if (b := !decide ((justOf (weightsL sc)).map (fun m : Nat => (m : Int)) = ((List.range 32).filter fun m => totOf (weightsL sc) m == (potOf (weightsL sc) : Int)).map (fun m : Nat => (m : Int)))) S₆.now (evt_cmp (ev_name S₆.sc (.head _) G.kind (by decide) (by decide)) (ev_of_evc (out := (((List.range 32).filter fun m => totOf (weightsL sc) m == (potOf (weightsL sc) : Int)).map (fun m : Nat => (m : Int))).map D.int) ?_) (o_neli _ _ (by have := hB.units; unfold cLine; omega))) (fun h => ?_) fun _ s₇ H₇ g₇ => x_nil ?_
  · rw [List.map_map]
    refine evc_filter (c := fun i : Nat => D.int i) (xs := List.range 32) [("quota", .int (potOf (weightsL sc))), ("totals", dints (totalsL (weightsL sc)))] (fun m => totOf (weightsL sc) m == (potOf (weightsL sc) : Int)) (fun m : Nat => D.int (m : Int)) S₆ hfq' ["quota", "totals"] rfl (by decide +kernel) (.inl rfl) (by decide +kernel) ⟨.inl (F.kind rfl), .inl (F.kind rfl), trivial⟩ (evit_range1 (n := 32) hB.handled W₆ G (F.kind rfl) rfl ev_int (by decide)) (by decide) fun cenv mu' m s₇ H₇ hm C up S₇ => ⟨evts_one (evt_cmp (ev_item (ev_name S₇.sc (.tail _ (.tail _ (.head _))) C.kind (by decide) (by decide)) (ev_name S₇.sc (.head _) C.kind (by decide) (by decide)) (at_ints (k := m) (by rw [hts]; exact List.mem_range.mp hm)) (Nat.lt_trans (List.mem_range.mp hm) (by decide))) (ev_name S₇.sc (.tail _ (.head _)) C.kind (by decide) (by decide)) (o_eq _ _)), fun _ => ev_name S₇.sc (.head _) C.kind (by decide) (by decide)⟩
  · rw [hAB] at h; simp at h
  have S₇ := S₆.grow g₇
  have W₇ := W₆.mono g₇.sub
  have hjl : dints ((justOf (weightsL sc)).map fun m : Nat => (m : Int)) = .list ((justOf (weightsL sc)).map fun m : Nat => D.int (m : Int)) := by rw [dints, List.map_map]; rfl
  have hjz : (justOf (weightsL sc)).length ≤ 32 := bits_len _ _
  have hkept : (keptOf (weightsL sc)).map tupI = (justOf (weightsL sc)).map fun m => tupI (keptAt (weightsL sc) m) := by unfold keptOf; rw [List.map_map]; rfl
  refine x_setl (out := (keptOf (weightsL sc)).map tupI) (ρ' := [("kept", .list ((keptOf (weightsL sc)).map tupI)), ("just", dints ((justOf (weightsL sc)).map fun m : Nat => (m : Int))), ("wins", .list ((winsB (weightsL sc)).map D.bool)), ("quota", .int (potOf (weightsL sc))), ("totals", dints (totalsL (weightsL sc))), ("weights", dints (weightsL sc)), ("script", .ptr a)]) S₇ G.kind (F.kind rfl) ?_ (new_name (ns := ["just", "wins", "quota", "totals", "weights", "script"]) rfl (by decide +kernel)) (swaps_loc G.kind (F.kind rfl) rfl (by decide +kernel)) fun s₈ H₈ S₈ g₈ => ?_
  · rw [hkept]
    refine evc_map (c := fun m : Nat => D.int (m : Int)) (xs := justOf (weightsL sc)) [("weights", dints (weightsL sc))] (fun m => tupI (keptAt (weightsL sc) m)) S₇ (fun p hp => by rw [List.mem_singleton.mp hp]; exact (.tail _ (.tail _ (.tail _ (.tail _ (.head _)))))) ["weights"] rfl (by decide +kernel) (.inr rfl) (by decide +kernel) ⟨.inl (F.kind rfl), trivial⟩ (evit_list hB.handled (by rw [← hjl]; exact (ev_name S₇.sc (.head _) G.kind (by decide) (by decide)))) (Nat.le_trans hjz (by decide)) fun cenv mu' m s₉ H₉ hm C up S₉ => ?_
    refine ev_tupleof (l := (keptAt (weightsL sc) m).map D.int) (W₇.mono up) (C.g G) (C.other rfl) rfl ?_ (by unfold keptAt; rw [List.length_map, List.length_map]; decide)
    have hat : (keptAt (weightsL sc) m).map D.int = (List.range 5).map fun k => D.int (if bitP m k then (weightsL sc).getD k 0 else 0) := by unfold keptAt; rw [List.map_map]; rfl
    rw [hat]
    refine evc_map (c := fun i : Nat => D.int i) (xs := List.range 5) [("m", .int (m : Int)), ("weights", dints (weightsL sc))] (fun k => D.int (if bitP m k then (weightsL sc).getD k 0 else 0)) S₉ (fun p hp => hp) ["m", "weights"] rfl (by decide +kernel) (.inl rfl) (by decide +kernel) ⟨.inl (C.other rfl), C.free rfl, trivial⟩ (evit_range1 (n := 5) hB.handled (W₇.mono up) (C.g G) (C.other rfl) rfl ev_int (by decide)) (by decide) fun cenv' mu'' kk s₁₀ H₁₀ hk C' up' S₁₀ => ?_
    refine ev_ife (b := bitP m kk) (evt_int (ev_bin (ev_bin (ev_name S₁₀.sc (.tail _ (.head _)) C'.kind (by decide) (by decide)) (ev_name S₁₀.sc (.head _) C'.kind (by decide) (by decide)) (o_shr _ _ (by omega))) ev_int (o_and _ _))) (fun hb => ?_) fun hb => ?_
    · rw [if_pos hb]
      exact ev_item (ev_name S₁₀.sc (.tail _ (.tail _ (.head _))) C'.kind (by decide) (by decide)) (ev_name S₁₀.sc (.head _) C'.kind (by decide) (by decide)) (at_ints (k := kk) (by rw [GW.len]; exact List.mem_range.mp hk)) (Nat.lt_trans (List.mem_range.mp hk) (by decide))
    · rw [if_neg (by rw [hb]; decide)]
      exact ev_int
  have W₈ := W₇.mono g₈.sub
  have hbt : (beatenB (weightsL sc)).map D.bool = (List.range 32).map fun low => D.bool (!decide (beatsL (weightsL sc) low = [])) := by unfold beatenB; rw [List.map_map]; rfl
  have hwl : (winsB (weightsL sc)).length = 32 := by unfold winsB; rw [List.length_map, hts]
  have hbl : (beatenB (weightsL sc)).length = 32 := by unfold beatenB; rw [List.length_map, List.length_range]
  have hfb : ∀ p ∈ ([("just", dints ((justOf (weightsL sc)).map fun m : Nat => (m : Int))), ("wins", .list ((winsB (weightsL sc)).map D.bool))] : List (Str × D)), p ∈ ([("kept", .list ((keptOf (weightsL sc)).map tupI)), ("just", dints ((justOf (weightsL sc)).map fun m : Nat => (m : Int))), ("wins", .list ((winsB (weightsL sc)).map D.bool)), ("quota", .int (potOf (weightsL sc))), ("totals", dints (totalsL (weightsL sc))), ("weights", dints (weightsL sc)), ("script", .ptr a)] : List (Str × D)) := fun p hp => by
    rcases List.mem_cons.mp hp with q | q
    · rw [q]; exact (.tail _ (.head _))
    · rw [List.mem_singleton.mp q]; exact (.tail _ (.tail _ (.head _)))
  refine x_setc (d := .list ((beatenB (weightsL sc)).map D.bool)) (ρ' := [("beaten", .list ((beatenB (weightsL sc)).map D.bool)), ("kept", .list ((keptOf (weightsL sc)).map tupI)), ("just", dints ((justOf (weightsL sc)).map fun m : Nat => (m : Int))), ("wins", .list ((winsB (weightsL sc)).map D.bool)), ("quota", .int (potOf (weightsL sc))), ("totals", dints (totalsL (weightsL sc))), ("weights", dints (weightsL sc)), ("script", .ptr a)]) S₈ G.kind (F.kind rfl) hbc hbm hba (ev_of_evc ?_) (new_name (ns := ["kept", "just", "wins", "quota", "totals", "weights", "script"]) rfl (by decide +kernel)) (swaps_cell (F.kind rfl)) fun s₉ H₉ S₉ g₉ => ?_
  · rw [hbt]
    refine evc_map (c := fun i : Nat => D.int i) (xs := List.range 32) [("just", dints ((justOf (weightsL sc)).map fun m : Nat => (m : Int))), ("wins", .list ((winsB (weightsL sc)).map D.bool))] (fun low => D.bool (!decide (beatsL (weightsL sc) low = []))) S₈ hfb ["just", "wins"] rfl (by decide +kernel) (.inr rfl) (by decide +kernel) ⟨.inl (F.kind rfl), .inl (F.kind rfl), trivial⟩ (evit_range1 (n := 32) hB.handled W₈ G (F.kind rfl) rfl ev_int (by decide)) (by decide) fun cenv mu' low s₁₀ H₁₀ hl C up S₁₀ => ?_
    refine ev_cmp (ev_of_evc (out := (beatsL (weightsL sc) low).map D.int) ?_) (ev_list evl_nil (show 0 ≤ sizeLine by decide)) (o_neli _ [] (by have := hB.units; unfold cLine; omega))
    unfold beatsL
    rw [List.map_map]
    refine evc_filter (c := fun m : Nat => D.int (m : Int)) (xs := justOf (weightsL sc)) [("low", .int (low : Int)), ("wins", .list ((winsB (weightsL sc)).map D.bool))] (fun m => (winsB (weightsL sc)).getD (m &&& low) false) (fun m : Nat => D.int (m : Int)) S₁₀ (fun p hp => ?_) ["low", "wins"] rfl (by decide +kernel) (.inl rfl) (by decide +kernel) ⟨.inl (C.other rfl), C.free rfl, trivial⟩ (evit_list hB.handled (by rw [← hjl]; exact ev_name S₁₀.sc (.tail _ (.head _)) C.kind (by decide) (by decide))) (Nat.le_trans hjz (by decide)) fun cenv' mu'' m s₁₁ H₁₁ hm C' up' S₁₁ => ⟨?_, fun _ => ev_name S₁₁.sc (.head _) C'.kind (by decide) (by decide)⟩
    · rcases List.mem_cons.mp hp with q | q
      · rw [q]; exact .head _
      · rw [List.mem_singleton.mp q]; exact .tail _ (.tail _ (.head _))
    · have hm' : m < 32 := bits_lt _ _ m hm
      have e : Builtin.bitAnd (m : Int) (low : Int) = ((m &&& low : Nat) : Int) := by
        rw [bitAnd_pp (Int.natCast_nonneg _) (Int.natCast_nonneg _), Int.toNat_natCast, Int.toNat_natCast]
      have hml : m &&& low < 32 := Nat.lt_of_le_of_lt Nat.and_le_left hm'
      exact evts_one (evt_bool (ev_item (i := m &&& low) (ev_name S₁₁.sc (.tail _ (.tail _ (.head _))) C'.kind (by decide) (by decide)) (by rw [← e]; exact ev_bin (ev_name S₁₁.sc (.head _) C'.kind (by decide) (by decide)) (ev_name S₁₁.sc (.tail _ (.head _)) C'.kind (by decide) (by decide)) (o_and _ _)) (at_bools (by rw [hwl]; exact hml)) (Nat.lt_trans hml (by decide))))
  have W₉ := W₈.mono g₉.sub
  refine x_set (d := .list ((shL (potOf (weightsL sc))).map fun t => .tup [.bool ((keptOf (weightsL sc)).contains t), .int (lowOf (weightsL sc) t)])) (ρ' := [("views", .list ((shL (potOf (weightsL sc))).map fun t => .tup [.bool ((keptOf (weightsL sc)).contains t), .int (lowOf (weightsL sc) t)])), ("beaten", .list ((beatenB (weightsL sc)).map D.bool)), ("kept", .list ((keptOf (weightsL sc)).map tupI)), ("just", dints ((justOf (weightsL sc)).map fun m : Nat => (m : Int))), ("wins", .list ((winsB (weightsL sc)).map D.bool)), ("quota", .int (potOf (weightsL sc))), ("totals", dints (totalsL (weightsL sc))), ("weights", dints (weightsL sc)), ("script", .ptr a)]) S₉ G.kind (F.kind rfl) (ev_call W₉ G (F.kind rfl) rfl rfl rfl (evl_cons (ev_name S₉.sc (.tail _ (.tail _ (.tail _ (.tail _ (.tail _ (.tail _ (.head _))))))) G.kind (by decide) (by decide)) (evl_cons (ev_name S₉.sc (.tail _ (.tail _ (.tail _ (.tail _ (.head _))))) G.kind (by decide) (by decide)) (evl_cons (ev_name S₉.sc (.tail _ (.head _)) G.kind (by decide) (by decide)) evl_nil))) (fn_views (hB.less (by decide)) (weightsL sc) (potOf (weightsL sc)) (keptOf (weightsL sc)) GW.len GW.small)) (new_name (ns := ["beaten", "kept", "just", "wins", "quota", "totals", "weights", "script"]) rfl (by decide +kernel)) rfl fun s₁₀ H₁₀ S₁₀ g₁₀ => ?_
  have W₁₀ := W₉.mono g₁₀.sub
  have hsz : (shL (potOf (weightsL sc))).length ≤ sizeLine := Nat.le_trans (shL_len _ GW.small) (by decide)
  refine x_if (b := !decide (badOf (weightsL sc) (winsB (weightsL sc)) = [])) S₁₀.now (evt_cmp (ev_of_evc (out := (badOf (weightsL sc) (winsB (weightsL sc))).map D.int) (evc_views hB.handled S₁₀ G.kind (.tail _ (.tail _ (.tail _ (.tail _ (.head _))))) (.head _) GW.low hwl hsz (by decide +kernel) rfl rfl ⟨.inl (F.kind rfl), trivial⟩ (by decide +kernel) (by decide +kernel) (by decide) (by decide))) (ev_list evl_nil (show 0 ≤ sizeLine by decide)) (o_neli _ [] (by have := hB.units; unfold cLine; omega))) (fun h => ?_) fun _ s₁₁ H₁₁ g₁₁ => x_nil ?_
  · rw [GW.one] at h; exact absurd h (by decide)
  have S₁₁ := S₁₀.grow g₁₁
  have W₁₁ := W₁₀.mono g₁₁.sub
  refine x_set (d := .bool (decide (badOf (weightsL sc) (beatenB (weightsL sc)) = []))) (ρ' := [("solved", .bool (decide (badOf (weightsL sc) (beatenB (weightsL sc)) = []))), ("views", .list ((shL (potOf (weightsL sc))).map fun t => .tup [.bool ((keptOf (weightsL sc)).contains t), .int (lowOf (weightsL sc) t)])), ("beaten", .list ((beatenB (weightsL sc)).map D.bool)), ("kept", .list ((keptOf (weightsL sc)).map tupI)), ("just", dints ((justOf (weightsL sc)).map fun m : Nat => (m : Int))), ("wins", .list ((winsB (weightsL sc)).map D.bool)), ("quota", .int (potOf (weightsL sc))), ("totals", dints (totalsL (weightsL sc))), ("weights", dints (weightsL sc)), ("script", .ptr a)]) S₁₁ G.kind (F.kind rfl) (ev_cmp (ev_of_evc (out := (badOf (weightsL sc) (beatenB (weightsL sc))).map D.int) (evc_views hB.handled S₁₁ G.kind (.tail _ (.head _)) (.head _) GW.low hbl hsz (by decide +kernel) rfl rfl ⟨.inl (F.kind rfl), trivial⟩ (by decide +kernel) (by decide +kernel) (by decide) (by decide))) (ev_list evl_nil (show 0 ≤ sizeLine by decide)) (o_eqli _ [] (by have := hB.units; unfold cLine; omega))) (new_name (ns := ["views", "beaten", "kept", "just", "wins", "quota", "totals", "weights", "script"]) rfl (by decide +kernel)) rfl fun s₁₂ H₁₂ S₁₂ g₁₂ => ?_
  have W₁₂ := W₁₁.mono g₁₂.sub
  have gall := g₂.trans (g₃.trans (g₄.trans (g₅.trans (g₆.trans ((Step.of g₇).trans (g₈.trans (g₉.trans (g₁₀.trans ((Step.of g₁₁).trans g₁₂)))))))))
  refine x_ret S₁₂.now (ev_cmp (ev_name S₁₂.sc (.head _) G.kind (by decide) (by decide)) (ev_call W₁₂ G (F.kind rfl) rfl rfl rfl (evl_cons (ev_name S₁₂.sc (.tail _ (.tail _ (.tail _ (.tail _ (.tail _ (.tail _ (.tail _ (.tail _ (.head _))))))))) G.kind (by decide) (by decide)) (evl_cons (ev_name S₁₂.sc (.tail _ (.tail _ (.tail _ (.tail _ (.tail _ (.tail _ (.tail _ (.head _)))))))) G.kind (by decide) (by decide)) (evl_cons (ev_name S₁₂.sc (.tail _ (.tail _ (.tail _ (.tail _ (.tail _ (.tail _ (.head _))))))) G.kind (by decide) (by decide)) evl_nil))) (fn_noheavy (hB.less (by decide)) (weightsL sc) (totalsL (weightsL sc)) (potOf (weightsL sc)) GW.len hts)) (o_eqb _ _)) fun v s' H' g' r => k v s' H' (gall.trans (.of g')) ?_
  have := GW.fin
  rw [this] at r
  exact r
end
end Mine

namespace Mine

theorem cells_are {cm : Str → Option Value} {h : Heap} : ∀ {cs : List (Str × Addr)} {cells : List (Addr × Obj)}, CellsAre cm cs cells → (∀ p ∈ cells, h.get? p.1 = some p.2) → ∀ p ∈ cs, ∃ v, h.IsCell p.2 v
  | _, _, .nil, _, p, hp => absurd hp List.not_mem_nil
  | _, _, .cons (n := n) (c := c) (o := o) hd x, H, p, hp => by
    rcases List.mem_cons.mp hp with q | q
    · subst q
      exact ⟨_, o, H (c, o) (.head _), hd⟩
    · exact cells_are x (fun z hz => H z (.tail _ hz)) p q

theorem law_join {prog p : Program} {w : World} {loose : List Str} {mean : ExcName → Option Value} {mg mb : Str → Option Value} {s₁ : Shared} {h₁ : Heap} {tk : Tok} {a fa : Addr} {vs : List Value} {ns : List Int} {m cm : Str → Option Value} {cells : List (Addr × Obj)} {name : Str} {cd : Value} {Q : Flow → Shared → Prop} {E : Value → Shared → Prop}
    (KX : (Kf w).In s₁.heap) (T : Top p loose mean mg mb s₁.heap) (hL : s₁.heap.IsList a vs.toArray) (hI : IntsAre vs ns) (hz : ns.length ≤ 63) (G : Good (weightsL ns)) (F : Fr s₁.heap s₁.heap.objs.size h₁ m) (N : News s₁.heap s₁.heap.objs.size h₁ cells)
    (X : CellsAre cm (cellsFrom (s₁.heap.objs.size + 1) (lawS w).names []) cells) (hm : m "script" = some (.ref a))
    (hQ : ∀ (h' : Heap) (tk' : Tok), (∀ b o, s₁.heap.get? b = some o → h'.get? b = some o) → Q (.ret (.bool true)) { s₁ with heap := h', toks := tk' }) :
    wpAny (model prog w) (callerA.deeper (envOfC name (lawS w) s₁.heap.objs.size fa cd)) (execs (lawB w) (envOfC name (lawS w) s₁.heap.objs.size fa cd)) Q E { s₁ with heap := h₁, toks := tk } := by
  have hk : (lawS w).names.lookup ("script" : Str) = some .local := get_body (P := fun _ scope => scope.names.lookup ("script" : Str) = some .local) rfl rfl
  have hkd : (lawS w).kind = .function := get_body (P := fun _ scope => scope.kind = .function) rfl rfl
  let env := envOfC name (lawS w) s₁.heap.objs.size fa cd
  have hcl := cells_are X fun z hz => (N z hz).1
  have hmu : ∀ c ∈ s₁.heap.objs.size :: (cellsFrom (s₁.heap.objs.size + 1) (lawS w).names []).map (·.2), s₁.heap.objs.size ≤ c ∧ h₁.objs.size > c := fun c hc => by
    rcases List.mem_cons.mp hc with q | q
    · rw [q]; exact ⟨Nat.le_refl _, F.ns.lt⟩
    · obtain ⟨z, hz, rfl⟩ := List.mem_map.mp q
      obtain ⟨v, hv⟩ := hcl z hz
      refine ⟨?_, hv.lt⟩
      rcases cf_ge _ _ _ z hz with r | r
      · exact absurd r List.not_mem_nil
      · exact Nat.le_of_succ_le r
  refine law_goes w prog _ a ns { s₁ with heap := h₁, toks := tk } (fun b => s₁.heap.get? b) env (s₁.heap.objs.size :: (cellsFrom (s₁.heap.objs.size + 1) (lawS w).names []).map (·.2)) ⟨rfl, show callerA.depth + 1 + 5 ≤ 600 by decide, show callerA.units + 3 + 40 * 5 ≤ 9000 by decide⟩ (by omega) G ⟨s₁.heap, p, loose, mg, mb, fun _ _ e => e, KX, topRead_of T⟩ ⟨⟨hkd, rfl, rfl⟩, rfl, fun x hx => ?_⟩ ⟨fun b o e => F.keep b o e, fun q hq => ?_, ⟨m, F.ns⟩, fun c hc => ⟨?_, (hmu c hc).2⟩, .head _, hcl⟩ ?_ Q E fun v s' H' st r => ?_
  · obtain ⟨c, e, hc⟩ := cf_own (lawS w).names (s₁.heap.objs.size + 1) [] x hx
    exact ⟨c, e, .tail _ (List.mem_map.mpr ⟨_, mem_of_lookup e, rfl⟩), fun p hp q => cf_apart (lawS w).names (s₁.heap.objs.size + 1) [] (fun _ z => absurd z List.not_mem_nil) p hp _ (mem_of_lookup e) q (by rw [q]; exact hc)⟩
  · rw [List.mem_singleton.mp hq]
    exact ⟨.ref a, .loc hk F.ns hm, .ptr a⟩
  · cases q : s₁.heap.get? c with
    | none => rfl
    | some o => exact absurd (Heap.lt_size q) (Nat.not_lt.mpr (hmu c hc).1)
  · obtain ⟨o, e, hc, n, hd⟩ := hL
    exact ⟨o, vs, n, e, hc, hd, hI⟩
  · cases r
    obtain ⟨h', tk', e⟩ := st.same
    have hs := st.sub
    have hn := st.now
    subst e
    exact hQ h' tk' fun b o q => hn b o (hs b o q)
end Mine

namespace Mine
open PySem.StrLaws Builtin.Str

/-- pieces with a mark between them -/
def joinL (y : List Nat) : List (List Nat) → List Nat
  | [] => []
  | [p] => p
  | p :: q :: r => p ++ (y ++ joinL y (q :: r))
theorem join_cps (y : Str) : ∀ ps : List Str, (Str.join y ps).cps.toList = joinL y.cps.toList (ps.map fun p => p.cps.toList)
  | [] => rfl
  | [p] => rfl
  | p :: q :: r => by
    have ih := join_cps y (q :: r)
    show (p ++ y ++ Str.join y (q :: r)).cps.toList = _
    simp only [Str.cps_append, Array.toList_append, ih, List.map_cons, joinL, List.append_assoc]

theorem cut_eq {c : Nat} : ∀ {p q X Y : List Nat}, c ∉ p → c ∉ q → p ++ c :: X = q ++ c :: Y → p = q ∧ X = Y
  | [], [], X, Y, _, _, h => by simpa using h
  | [], a :: q, X, Y, _, hq, h => by
    have : c = a := (List.cons.inj h).1
    exact absurd (by rw [this]; exact .head _) hq
  | a :: p, [], X, Y, hp, _, h => by
    have : a = c := (List.cons.inj h).1
    exact absurd (by rw [this]; exact .head _) hp
  | a :: p, b :: q, X, Y, hp, hq, h => by
    obtain ⟨h1, h2⟩ := List.cons.inj h
    obtain ⟨e1, e2⟩ := cut_eq (fun m => hp (.tail _ m)) (fun m => hq (.tail _ m)) h2
    exact ⟨by rw [h1, e1], e2⟩

theorem joinL_inj {c : Nat} {y : List Nat} : ∀ (ps qs : List (List Nat)), ps ≠ [] → qs ≠ [] → (∀ p ∈ ps, c ∉ p) → (∀ q ∈ qs, c ∉ q) → joinL (c :: y) ps = joinL (c :: y) qs → ps = qs
  | [], _, h, _, _, _, _ => absurd rfl h
  | _ :: _, [], _, h, _, _, _ => absurd rfl h
  | [p], [q], _, _, _, _, h => by simpa [joinL] using h
  | [p], q :: q' :: r, _, _, hp, _, h => by
    have h : p = q ++ (c :: y ++ joinL (c :: y) (q' :: r)) := h
    exact absurd (by rw [h]; simp) (hp p (.head _))
  | p :: p' :: r, [q], _, _, _, hq, h => by
    have h : p ++ (c :: y ++ joinL (c :: y) (p' :: r)) = q := h
    exact absurd (by rw [← h]; simp) (hq q (.head _))
  | p :: p' :: r, q :: q' :: t, _, _, hp, hq, h => by
    have h : p ++ c :: (y ++ joinL (c :: y) (p' :: r)) = q ++ c :: (y ++ joinL (c :: y) (q' :: t)) := h
    obtain ⟨e1, e2⟩ := cut_eq (hp p (.head _)) (hq q (.head _)) h
    have e3 := List.append_cancel_left e2
    have ih := joinL_inj (p' :: r) (q' :: t) (by simp) (by simp) (fun x hx => hp x (.tail _ hx)) (fun x hx => hq x (.tail _ hx)) e3
    rw [e1, ih]

theorem strs_inj {ps qs : List Str} (h : (ps.map fun p => p.cps.toList) = qs.map fun p => p.cps.toList) : ps = qs := by
  induction ps generalizing qs with
  | nil => cases qs with
    | nil => rfl
    | cons q r => cases h
  | cons p r ih => cases qs with
    | nil => cases h
    | cons q t =>
      obtain ⟨h1, h2⟩ := List.cons.inj h
      rw [ih h2, Str.ext' (Array.toList_inj.mp h1)]
theorem join_inj {y : Str} {c : Nat} {z : List Nat} (hy : y.cps.toList = c :: z) {ps qs : List Str} (h1 : ps ≠ []) (h2 : qs ≠ []) (f1 : ∀ p ∈ ps, c ∉ p.cps.toList) (f2 : ∀ p ∈ qs, c ∉ p.cps.toList) (h : Str.join y ps = Str.join y qs) : ps = qs := by
  have e : joinL (c :: z) (ps.map fun p => p.cps.toList) = joinL (c :: z) (qs.map fun p => p.cps.toList) := by
    rw [← hy, ← join_cps, ← join_cps, h]
  refine strs_inj (joinL_inj _ _ (by simpa using h1) (by simpa using h2) (fun p hp => ?_) (fun p hp => ?_) e)
  · obtain ⟨a, ha, rfl⟩ := List.mem_map.mp hp; exact f1 a ha
  · obtain ⟨a, ha, rfl⟩ := List.mem_map.mp hp; exact f2 a ha

/-- a text split at its marks -/
theorem split_join {c : Nat} {ps : List Str} (h : ps ≠ []) (f : ∀ p ∈ ps, c ∉ p.cps.toList) : Txt.split (Str.join ⟨#[c]⟩ ps) ⟨#[c]⟩ = ps :=
  join_inj (y := ⟨#[c]⟩) (c := c) (z := []) rfl (by have := split_pos (Str.join ⟨#[c]⟩ ps) ⟨#[c]⟩; intro z; rw [z] at this; exact absurd this (by decide)) h (split_free _ _) f (join_split _ _)

/-- where each c is followed by d, the pieces between the «c d» hold no c -/
theorem pair_free {x : Str} {c d : Nat} (hall : ∀ k, x.cps.toList[k]? = some c → At x ⟨#[c, d]⟩ x.length k) {a b : Nat} (hb : b ≤ x.length) (hn : ∀ k, a ≤ k → k < b → ¬ At x ⟨#[c, d]⟩ x.length k) : c ∉ (strSub x a b).cps.toList := by
  intro hm
  rw [strSub_toList] at hm
  obtain ⟨j, hj⟩ := List.getElem?_of_mem hm
  have hlt : j < b - a := by
    have h1 : j < ((x.cps.toList.drop a).take (b - a)).length := (List.getElem?_eq_some_iff.mp hj).1
    simp at h1
    omega
  rw [List.getElem?_take_of_lt hlt, List.getElem?_drop] at hj
  exact hn (a + j) (by omega) (by omega) (hall _ hj)
theorem pairs_free {x : Str} {c d : Nat} (hall : ∀ k, x.cps.toList[k]? = some c → At x ⟨#[c, d]⟩ x.length k) : ∀ (cuts : List Nat) (a f : Nat), ChainG x ⟨#[c, d]⟩ x.length a cuts f → (∀ k, f ≤ k → ¬ At x ⟨#[c, d]⟩ x.length k) → ∀ p ∈ partsFrom x 2 a cuts, c ∉ p.cps.toList
  | [], a, f, h, hn, p, hp => by
    have e : f = a := h
    subst e
    rw [List.mem_singleton.mp hp]
    exact pair_free hall (Nat.le_refl _) fun k h1 _ => hn k h1
  | b :: r, a, f, h, hn, p, hp => by
    rcases List.mem_cons.mp hp with rfl | hp'
    · exact pair_free hall (by have := h.2.1.1; omega) h.2.2.1
    · exact pairs_free hall r _ f h.2.2.2 hn p hp'

/-- in names joined by «c d», each c is followed by d -/
theorem joined_at {c d : Nat} (hdc : d ≠ c) : ∀ (ps : List (List Nat)), (∀ p ∈ ps, c ∉ p) → ∀ k, (joinL [c, d] ps)[k]? = some c → (joinL [c, d] ps)[k + 1]? = some d
  | [], _, k, h => by simp [joinL] at h
  | [p], hp, k, h => absurd (List.mem_of_getElem? h) (hp p (.head _))
  | p :: q :: r, hp, k, h => by
    have e : joinL [c, d] (p :: q :: r) = p ++ (c :: d :: joinL [c, d] (q :: r)) := rfl
    rw [e] at h ⊢
    rcases Nat.lt_or_ge k p.length with hk | hk
    · rw [List.getElem?_append_left hk] at h
      exact absurd (List.mem_of_getElem? h) (hp p (.head _))
    · rw [List.getElem?_append_right hk] at h
      rw [List.getElem?_append_right (by omega)]
      obtain ⟨j, hj⟩ : ∃ j, k - p.length = j := ⟨_, rfl⟩
      rw [show k + 1 - p.length = j + 1 by omega]
      rw [hj] at h
      match j, h with
      | 0, _ => rfl
      | 1, h =>
        have : d = c := by simpa using h
        exact absurd this hdc
      | j + 2, h => exact joined_at hdc (q :: r) (fun x hx => hp x (.tail _ hx)) j h

/-- names joined by «c d», the marks replaced -/
theorem replace_pair {c d : Nat} {z : Str} {ps : List Str} (hdc : d ≠ c) (h : ps ≠ []) (f : ∀ p ∈ ps, c ∉ p.cps.toList) : Txt.replace (Str.join ⟨#[c, d]⟩ ps) ⟨#[c, d]⟩ z = Str.join z ps := by
  obtain ⟨x, hx⟩ : ∃ x, x = Str.join ⟨#[c, d]⟩ ps := ⟨_, rfl⟩
  have hL : x.cps.toList = joinL [c, d] (ps.map fun p => p.cps.toList) := by rw [hx, join_cps]
  have hlen : x.cps.toList.length = x.length := by simp [Str.length]
  have hall : ∀ k, x.cps.toList[k]? = some c → At x ⟨#[c, d]⟩ x.length k := fun k hk => by
    have hk1 : x.cps.toList[k + 1]? = some d := by
      rw [hL] at hk ⊢
      refine joined_at hdc _ (fun p hp => ?_) k hk
      obtain ⟨a, ha, rfl⟩ := List.mem_map.mp hp; exact f a ha
    obtain ⟨l1, e1⟩ := List.getElem?_eq_some_iff.mp hk
    obtain ⟨l2, e2⟩ := List.getElem?_eq_some_iff.mp hk1
    refine ⟨by show k + 2 ≤ x.length; omega, ?_⟩
    rw [subAt_eq]
    have : (x.cps.toList.drop k).take 2 = [c, d] := by
      rw [List.drop_eq_getElem_cons l1, List.drop_eq_getElem_cons l2, e1, e2]; rfl
    exact beq_iff_eq.mpr this
  obtain ⟨g, hG, hn⟩ := occ_tight x ⟨#[c, d]⟩ (by show 1 ≤ 2; decide)
  have hfree := pairs_free hall _ 0 g hG hn
  have hjoin : Str.join ⟨#[c, d]⟩ (partsFrom x 2 0 (occurrences x ⟨#[c, d]⟩ 0 x.length (x.length + 1))) = x := by
    rw [← partsBetween_eq, ← glued_eq_join]; exact glued_between_self x ⟨#[c, d]⟩ _
  have hparts : partsFrom x 2 0 (occurrences x ⟨#[c, d]⟩ 0 x.length (x.length + 1)) = ps := by
    refine join_inj (y := ⟨#[c, d]⟩) (c := c) (z := [d]) rfl ?_ h hfree f (hjoin.trans hx)
    obtain ⟨p, r, e⟩ := partsFrom_ne x 2 0 (occurrences x ⟨#[c, d]⟩ 0 x.length (x.length + 1))
    rw [e]; simp
  rw [← hx]
  unfold Txt.replace
  have h2 : ((⟨#[c, d]⟩ : Str).length == 0) = false := rfl
  rw [h2, Bool.false_and, Bool.or_false]
  cases he : (occurrences x ⟨#[c, d]⟩ 0 x.length (x.length + 1)).isEmpty
  · rw [if_neg Bool.false_ne_true, glued_eq_join, partsBetween_eq]
    show Str.join z (partsFrom x 2 0 _) = _
    rw [hparts]
  · rw [if_pos rfl]
    have e0 : occurrences x ⟨#[c, d]⟩ 0 x.length (x.length + 1) = [] := List.isEmpty_iff.mp he
    rw [e0] at hparts
    have : ps = [x] := by rw [← hparts]; show [strSub x 0 x.length] = [x]; rw [sub_whole]
    rw [this]; rfl

theorem quoted_free {X : List Nat} : ∀ p : List Nat, 34 ∉ p → quoted (p ++ X) = p ++ quoted X
  | [], _ => rfl
  | c :: r, h => by
    show quoted (c :: (r ++ X)) = _
    rw [quoted_other _ _ fun e => h (by rw [e]; exact .head _), quoted_free r fun m => h (.tail _ m)]; rfl
theorem quoted_join {rest : List Nat} (hr : rest.headD 0 ≠ 34) : ∀ ps : List (List Nat), (∀ p ∈ ps, 34 ∉ p) → ps ≠ [] → quoted (joinL [34, 34] ps ++ 34 :: rest) = joinL [34] ps
  | [], _, h => absurd rfl h
  | [p], hp, _ => by
    show quoted (p ++ 34 :: rest) = p
    rw [quoted_free p (hp p (.head _)), quoted_end _ hr, List.append_nil]
  | p :: q :: r, hp, _ => by
    have ih := quoted_join hr (q :: r) (fun x hx => hp x (.tail _ hx)) (by simp)
    show quoted ((p ++ (34 :: 34 :: joinL [34, 34] (q :: r))) ++ 34 :: rest) = p ++ (34 :: joinL [34] (q :: r))
    rw [List.append_assoc, quoted_free p (hp p (.head _))]
    show p ++ quoted (34 :: 34 :: (joinL [34, 34] (q :: r) ++ 34 :: rest)) = _
    rw [quoted_two, ih]

theorem joinL_len (y : List Nat) : ∀ ps : List (List Nat), (joinL y ps).length ≤ (ps.map (·.length)).sum + ps.length * y.length
  | [] => by simp [joinL]
  | [p] => by simp [joinL]
  | p :: q :: r => by
    have ih := joinL_len y (q :: r)
    simp only [joinL, List.length_append, List.map_cons, List.sum_cons, List.length_cons] at ih ⊢
    have : (r.length + 1 + 1) * y.length = (r.length + 1) * y.length + y.length := Nat.succ_mul _ _
    omega
theorem join_len (y : Str) (ps : List Str) : (Str.join y ps).length ≤ (ps.map (·.length)).sum + ps.length * y.length := by
  have e : (Str.join y ps).length = (Str.join y ps).cps.toList.length := by simp [Str.length]
  have e2 : y.cps.toList.length = y.length := by simp [Str.length]
  rw [e, join_cps]
  have h := joinL_len y.cps.toList (ps.map fun p => p.cps.toList)
  have e3 : ((ps.map fun p => p.cps.toList).map (·.length)) = ps.map (·.length) := by
    rw [List.map_map]; congr 1
  rw [e3, List.length_map, e2] at h
  exact h

theorem words_free : ∀ k, k < 32 → 34 ∉ (wordAt k).cps.toList ∧ 44 ∉ (wordAt k).cps.toList := by decide +kernel
theorem zero_free : 34 ∉ (baseText "0x" 16 0).cps.toList ∧ 44 ∉ (baseText "0x" 16 0).cps.toList ∧ (baseText "0x" 16 0).length = 3 := by decide +kernel
theorem bits_none (f : Nat) (hf : f < 2 ^ 32) (h : bitsTo f 32 = []) : f = 0 := by
  apply Nat.eq_of_testBit_eq
  intro i
  rw [Nat.zero_testBit]
  rcases Nat.lt_or_ge i 32 with hi | hi
  · cases hb : f.testBit i with
    | false => rfl
    | true =>
      have : i ∈ bitsTo f 32 := by unfold bitsTo; exact List.mem_filter.mpr ⟨List.mem_range.mpr hi, hb⟩
      rw [h] at this; cases this
  · exact Nat.testBit_lt_two_pow (Nat.lt_of_lt_of_le hf (Nat.pow_le_pow_right (by decide) hi))

theorem told_ok (f : Nat) (hf : f < 2 ^ 32) : ToldOk f := by
  obtain ⟨ns, hns, hne, hfr, hsum, hln⟩ : ∃ ns : List Str, prettyW f = Str.join ⟨#[44, 32]⟩ ns ∧ ns ≠ [] ∧ (∀ p ∈ ns, 34 ∉ p.cps.toList ∧ 44 ∉ p.cps.toList) ∧ (ns.map (·.length)).sum ≤ 576 ∧ ns.length ≤ 32 ∧ (f ≠ 0 → ns = bitNames f 32) := by
    have e : (", " : Str) = ⟨#[44, 32]⟩ := by decide +kernel
    refine ⟨if f = 0 then [baseText "0x" 16 0] else bitNames f 32, ?_, ?_, ?_, ?_, ?_, fun h => if_neg h⟩
    · unfold prettyW; rw [← e]; exact glued_eq_join _ _
    · split
      · simp
      · rename_i h0
        intro z
        have : bitsTo f 32 = [] := by unfold bitNames at z; exact List.map_eq_nil_iff.mp z
        exact h0 (bits_none f hf this)
    · split
      · intro p hp; rw [List.mem_singleton.mp hp]; exact ⟨zero_free.1, zero_free.2.1⟩
      · intro p hp
        unfold bitNames at hp
        obtain ⟨k, hk, rfl⟩ := List.mem_map.mp hp
        exact words_free k (bits_lt f 32 k hk)
    · split
      · simp only [List.map_cons, List.map_nil, List.sum_cons, List.sum_nil, zero_free.2.2]; decide
      · exact (names_len f 32 (Nat.le_refl _)).1
    · split
      · decide
      · exact (names_len f 32 (Nat.le_refl _)).2
  have e1 : (", " : Str) = ⟨#[44, 32]⟩ := by decide +kernel
  have e2 : ("\"\"" : Str) = ⟨#[34, 34]⟩ := by decide +kernel
  have e3 : ("\"" : Str) = ⟨#[34]⟩ := by decide +kernel
  have e4 : ("257 \"" : Str).cps.toList = [50, 53, 55, 32, 34] := by decide +kernel
  obtain ⟨rest, hrest, hhead, hrl⟩ : ∃ rest, ("\" weigh just that" : Str).cps.toList = 34 :: rest ∧ rest.headD 0 ≠ 34 ∧ rest.length ≤ 100 := ⟨("\" weigh just that" : Str).cps.toList.tail, by decide +kernel, by decide +kernel, by decide +kernel⟩
  have hrep : Txt.replace (prettyW f) ", " "\"\"" = Str.join ⟨#[34, 34]⟩ ns := by
    rw [e1, e2, hns]; exact replace_pair (by decide) hne fun p hp => (hfr p hp).2
  have hl2 : (Str.join ⟨#[34, 34]⟩ ns).length ≤ 640 := Nat.le_trans (join_len _ _) (by show _ + ns.length * 2 ≤ _; omega)
  have hcp : (hailed f).cps.toList = [50, 53, 55, 32, 34] ++ ((Str.join ⟨#[34, 34]⟩ ns).cps.toList ++ 34 :: rest) := by
    unfold hailed
    rw [hrep]
    simp only [Str.cps_append, Array.toList_append, e4, hrest, List.append_assoc]
  have hlen : (hailed f).length = (hailed f).cps.toList.length := by simp [Str.length]
  have hjl : (Str.join ⟨#[34, 34]⟩ ns).cps.toList.length ≤ 640 := by
    have : (Str.join ⟨#[34, 34]⟩ ns).length = (Str.join ⟨#[34, 34]⟩ ns).cps.toList.length := by simp [Str.length]
    rw [← this]; exact hl2
  have hlen2 : (hailed f).length = 5 + ((Str.join ⟨#[34, 34]⟩ ns).cps.toList.length + (1 + rest.length)) := by
    rw [hlen, hcp]; simp only [List.length_append, List.length_cons, List.length_nil]; omega
  have hparse : parseW (hailed f) = Str.join ⟨#[34]⟩ ns := by
    apply Str.ext'
    apply Array.toList_inj.mp
    unfold parseW
    rw [hcp, join_cps, join_cps]
    show (quoted (joinL [34, 34] _ ++ 34 :: rest)).toArray.toList = joinL [34] _
    rw [List.toList_toArray]
    exact quoted_join hhead _ (fun p hp => by obtain ⟨a, ha, rfl⟩ := List.mem_map.mp hp; exact (hfr a ha).1) (by simpa using hne)
  have hheard : heardW f = ns := by
    unfold heardW; rw [hparse, e3]; exact split_join hne fun p hp => (hfr p hp).1
  refine ⟨hf, ?_, ?_, ?_, ?_, ?_, ?_, ?_, ?_, fun h0 => hheard.trans (hln.2 h0)⟩
  · rw [hns]; exact Nat.le_trans (join_len _ _) (by show _ + ns.length * 2 ≤ _; omega)
  · rw [hrep]; omega
  · omega
  · omega
  · have h := slice_closes_to (x := hailed f) (j := 3) ⟨by decide, by rw [← hlen]; omega⟩
    rw [beq_iff_eq.mp h, hcp]
    show (⟨[50, 53, 55].toArray⟩ : Str) = "257"
    decide +kernel
  · have h := slice_closes (x := hailed f) (i := 3) (j := 5) ⟨by decide, by decide, by rw [← hlen]; omega⟩
    rw [beq_iff_eq.mp h, hcp]
    show (⟨[32, 34].toArray⟩ : Str) = " \""
    decide +kernel
  · rw [hparse]; exact Nat.le_trans (join_len _ _) (by show _ + ns.length * 1 ≤ _; omega)
  · rw [hheard]; omega
end Mine

namespace Mine

/-- a group by its five members -/
def codeB (s0 s1 s2 s3 s4 : Bool) : Nat := (if s0 then 1 else 0) + (if s1 then 2 else 0) + (if s2 then 4 else 0) + (if s3 then 8 else 0) + (if s4 then 16 else 0)
def addB (s : Bool) (x y : Int) : Int := if s then x + y else x
theorem code_lt (s0 s1 s2 s3 s4 : Bool) : codeB s0 s1 s2 s3 s4 < 32 := by
  cases s0 <;> cases s1 <;> cases s2 <;> cases s3 <;> cases s4 <;> decide
theorem code_bits : ∀ m, m < 32 → m = codeB (bitP m 0) (bitP m 1) (bitP m 2) (bitP m 3) (bitP m 4) := by decide +kernel
theorem bits_code (s0 s1 s2 s3 s4 : Bool) : bitP (codeB s0 s1 s2 s3 s4) 0 = s0 ∧ bitP (codeB s0 s1 s2 s3 s4) 1 = s1 ∧ bitP (codeB s0 s1 s2 s3 s4) 2 = s2 ∧ bitP (codeB s0 s1 s2 s3 s4) 3 = s3 ∧ bitP (codeB s0 s1 s2 s3 s4) 4 = s4 := by
  cases s0 <;> cases s1 <;> cases s2 <;> cases s3 <;> cases s4 <;> decide +kernel
theorem tot_add (a b c d e : Int) (s0 s1 s2 s3 s4 : Bool) : totOf [a, b, c, d, e] (codeB s0 s1 s2 s3 s4) = addB s4 (addB s3 (addB s2 (addB s1 (addB s0 0 a) b) c) d) e := by
  cases s0 <;> cases s1 <;> cases s2 <;> cases s3 <;> cases s4 <;> rfl
theorem add_if (s : Bool) (x y : Int) : addB s x y = x + if s then y else 0 := by cases s <;> simp [addB]
theorem tot_code (a b c d e : Int) (s0 s1 s2 s3 s4 : Bool) : totOf [a, b, c, d, e] (codeB s0 s1 s2 s3 s4) = (if s0 then a else 0) + (if s1 then b else 0) + (if s2 then c else 0) + (if s3 then d else 0) + (if s4 then e else 0) := by
  rw [tot_add, add_if, add_if, add_if, add_if, add_if, Int.zero_add]

theorem short_if (ws : List Int) (k : Nat) (x : Int) (hx : 0 ≤ x) : shortAt ws k x.toNat = if decide (x < ws.getD k 0) then 2 ^ k else 0 := by
  unfold shortAt
  rw [Int.toNat_of_nonneg hx]
  by_cases h : x < ws.getD k 0
  · rw [if_pos (decide_eq_true (by omega)), if_pos (decide_eq_true h)]
  · rw [if_neg (by rw [decide_eq_true_eq]; omega), if_neg (by rw [decide_eq_true_eq]; exact h)]
theorem low_code (a b c d e x0 x1 x2 x3 x4 : Int) (h0 : 0 ≤ x0) (h1 : 0 ≤ x1) (h2 : 0 ≤ x2) (h3 : 0 ≤ x3) (h4 : 0 ≤ x4) :
    lowOf [a, b, c, d, e] [x0, x1, x2, x3, x4] = (codeB (decide (x0 < a)) (decide (x1 < b)) (decide (x2 < c)) (decide (x3 < d)) (decide (x4 < e)) : Nat) := by
  unfold lowOf
  rw [show List.range 5 = [0, 1, 2, 3, 4] from rfl]
  simp only [List.map_cons, List.map_nil, List.sum_cons, List.sum_nil]
  rw [show ([x0, x1, x2, x3, x4] : List Int).getD 0 0 = x0 from rfl, show ([x0, x1, x2, x3, x4] : List Int).getD 1 0 = x1 from rfl, show ([x0, x1, x2, x3, x4] : List Int).getD 2 0 = x2 from rfl, show ([x0, x1, x2, x3, x4] : List Int).getD 3 0 = x3 from rfl, show ([x0, x1, x2, x3, x4] : List Int).getD 4 0 = x4 from rfl]
  rw [short_if _ _ _ h0, short_if _ _ _ h1, short_if _ _ _ h2, short_if _ _ _ h3, short_if _ _ _ h4]
  rw [show ([a, b, c, d, e] : List Int).getD 0 0 = a from rfl, show ([a, b, c, d, e] : List Int).getD 1 0 = b from rfl, show ([a, b, c, d, e] : List Int).getD 2 0 = c from rfl, show ([a, b, c, d, e] : List Int).getD 3 0 = d from rfl, show ([a, b, c, d, e] : List Int).getD 4 0 = e from rfl]
  generalize decide (x0 < a) = s0
  generalize decide (x1 < b) = s1
  generalize decide (x2 < c) = s2
  generalize decide (x3 < d) = s3
  generalize decide (x4 < e) = s4
  cases s0 <;> cases s1 <;> cases s2 <;> cases s3 <;> cases s4 <;> rfl

theorem sh_mem {pot : Nat} {t : List Int} (h : t ∈ shL pot) : ∃ x0 x1 x2 x3 x4 : Int, t = [x0, x1, x2, x3, x4] ∧ 0 ≤ x0 ∧ 0 ≤ x1 ∧ 0 ≤ x2 ∧ 0 ≤ x3 ∧ 0 ≤ x4 ∧ x0 + x1 + x2 + x3 + x4 = pot := by
  unfold shL at h
  simp only [List.mem_flatMap, List.mem_range, List.mem_singleton] at h
  obtain ⟨a, ha, b, hb, c, hc, d, hd, e⟩ := h
  exact ⟨_, _, _, _, _, e, by omega, by omega, by omega, by omega, by omega, by omega⟩

theorem kept_code (a b c d e : Int) (s0 s1 s2 s3 s4 : Bool) : keptAt [a, b, c, d, e] (codeB s0 s1 s2 s3 s4) = [if s0 then a else 0, if s1 then b else 0, if s2 then c else 0, if s3 then d else 0, if s4 then e else 0] := by
  obtain ⟨h0, h1, h2, h3, h4⟩ := bits_code s0 s1 s2 s3 s4
  unfold keptAt
  rw [show List.range 5 = [0, 1, 2, 3, 4] from rfl]
  simp only [List.map_cons, List.map_nil, h0, h1, h2, h3, h4]
  rfl

/-- kept is who does not leave a winning group short -/
theorem kept_iff {a b c d e : Int} {q : Nat} (ha : 0 ≤ a) (hb : 0 ≤ b) (hc : 0 ≤ c) (hd : 0 ≤ d) (he : 0 ≤ e) (hq : a + b + c + d + e = 2 * (q : Int) - 1) (hp : potOf [a, b, c, d, e] = q)
    (hj : justOf [a, b, c, d, e] = (List.range 32).filter fun m => totOf [a, b, c, d, e] m == (potOf [a, b, c, d, e] : Int)) {t : List Int} (ht : t ∈ shL q) :
    (keptOf [a, b, c, d, e]).contains t = !(winsB [a, b, c, d, e]).getD (lowOf [a, b, c, d, e] t).toNat false := by
  obtain ⟨x0, x1, x2, x3, x4, rfl, h0, h1, h2, h3, h4, hs⟩ := sh_mem ht
  rw [low_code _ _ _ _ _ _ _ _ _ _ h0 h1 h2 h3 h4, Int.toNat_natCast]
  have hw : (winsB [a, b, c, d, e]).getD (codeB (decide (x0 < a)) (decide (x1 < b)) (decide (x2 < c)) (decide (x3 < d)) (decide (x4 < e))) false = decide ((q : Int) ≤ totOf [a, b, c, d, e] (codeB (decide (x0 < a)) (decide (x1 < b)) (decide (x2 < c)) (decide (x3 < d)) (decide (x4 < e)))) := by
    have hlt := code_lt (decide (x0 < a)) (decide (x1 < b)) (decide (x2 < c)) (decide (x3 < d)) (decide (x4 < e))
    generalize codeB (decide (x0 < a)) (decide (x1 < b)) (decide (x2 < c)) (decide (x3 < d)) (decide (x4 < e)) = m at hlt
    have hl : m < (totalsL [a, b, c, d, e]).length := by rw [totals32 rfl]; exact hlt
    unfold winsB totOf
    rw [hp, List.getD_eq_getElem?_getD, List.getElem?_map, List.getD_eq_getElem?_getD, List.getElem?_eq_getElem hl]
    simp only [Option.map_some, Option.getD_some]
    congr 1
    apply propext
    constructor <;> intro h <;> omega
  rw [hw, tot_code]
  have hu : ∀ x w : Int, (if decide (x < w) then w else 0) = if x < w then w else 0 := fun x w => by
    by_cases h : x < w
    · rw [if_pos (decide_eq_true h), if_pos h]
    · rw [if_neg (by rw [decide_eq_true_eq]; exact h), if_neg h]
  rw [hu, hu, hu, hu, hu]
  by_cases hk : (q : Int) ≤ (if x0 < a then a else 0) + (if x1 < b then b else 0) + (if x2 < c then c else 0) + (if x3 < d then d else 0) + (if x4 < e then e else 0)
  · rw [decide_eq_true hk, Bool.not_true, Bool.eq_false_iff]
    intro hcon
    rw [List.contains_iff_mem] at hcon
    unfold keptOf at hcon
    obtain ⟨m, hm, e1⟩ := List.mem_map.mp hcon
    rw [hj] at hm
    obtain ⟨hm1, hm2⟩ := List.mem_filter.mp hm
    rw [hp] at hm2
    have hm2 := beq_iff_eq.mp hm2
    have hmc := code_bits m (List.mem_range.mp hm1)
    generalize bitP m 0 = s0 at hmc
    generalize bitP m 1 = s1 at hmc
    generalize bitP m 2 = s2 at hmc
    generalize bitP m 3 = s3 at hmc
    generalize bitP m 4 = s4 at hmc
    subst hmc
    rw [tot_code] at hm2
    rw [kept_code] at e1
    obtain ⟨e0, e1⟩ := List.cons.inj e1
    obtain ⟨e1', e2⟩ := List.cons.inj e1
    obtain ⟨e2', e3⟩ := List.cons.inj e2
    obtain ⟨e3', e4⟩ := List.cons.inj e3
    obtain ⟨e4', _⟩ := List.cons.inj e4
    have hv : ∀ (s : Bool) (x w : Int), 0 ≤ w → (if s then w else 0) = x → (if x < w then w else 0) = w - (if s then w else 0) := fun s x w hw h => by
      subst h
      cases s
      · simp only [Bool.false_eq_true, if_false]; split <;> omega
      · simp
    rw [hv s0 x0 a ha e0, hv s1 x1 b hb e1', hv s2 x2 c hc e2', hv s3 x3 d hd e3', hv s4 x4 e he e4'] at hk
    omega
  · rw [decide_eq_false hk, Bool.not_false, List.contains_iff_mem]
    have hv : ∀ x w : Int, 0 ≤ x → 0 ≤ w → (if x < w then w else 0) = w - (if (!decide (x < w)) = true then w else 0) := fun x w hx hw => by
      by_cases h : x < w
      · simp [h]
      · simp [h]
    have hz : ∀ x w : Int, 0 ≤ x → (if (!decide (x < w)) = true then w else 0) ≤ x := fun x w hx => by
      by_cases h : x < w
      · simp [h]; exact hx
      · simp [h]; omega
    rw [hv x0 a h0 ha, hv x1 b h1 hb, hv x2 c h2 hc, hv x3 d h3 hd, hv x4 e h4 he] at hk
    have z0 := hz x0 a h0
    have z1 := hz x1 b h1
    have z2 := hz x2 c h2
    have z3 := hz x3 d h3
    have z4 := hz x4 e h4
    have htot := tot_code a b c d e (!decide (x0 < a)) (!decide (x1 < b)) (!decide (x2 < c)) (!decide (x3 < d)) (!decide (x4 < e))
    have hkc := kept_code a b c d e (!decide (x0 < a)) (!decide (x1 < b)) (!decide (x2 < c)) (!decide (x3 < d)) (!decide (x4 < e))
    generalize (if (!decide (x0 < a)) = true then a else 0) = v0 at *
    generalize (if (!decide (x1 < b)) = true then b else 0) = v1 at *
    generalize (if (!decide (x2 < c)) = true then c else 0) = v2 at *
    generalize (if (!decide (x3 < d)) = true then d else 0) = v3 at *
    generalize (if (!decide (x4 < e)) = true then e else 0) = v4 at *
    have hm : codeB (!decide (x0 < a)) (!decide (x1 < b)) (!decide (x2 < c)) (!decide (x3 < d)) (!decide (x4 < e)) ∈ justOf [a, b, c, d, e] := by
      rw [hj, hp]
      refine List.mem_filter.mpr ⟨List.mem_range.mpr (code_lt _ _ _ _ _), beq_iff_eq.mpr ?_⟩
      rw [htot]; omega
    unfold keptOf
    refine List.mem_map.mpr ⟨_, hm, ?_⟩
    rw [hkc, show v0 = x0 by omega, show v1 = x1 by omega, show v2 = x2 by omega, show v3 = x3 by omega, show v4 = x4 by omega]
end Mine

namespace Mine

/-- the sharings, written out -/
noncomputable def shT : Nat → List (List Int)
  | 0 => [[.ofNat 0, .ofNat 0, .ofNat 0, .ofNat 0, .ofNat 0]]
  | 1 => [[.ofNat 0, .ofNat 0, .ofNat 0, .ofNat 0, .ofNat 1], [.ofNat 0, .ofNat 0, .ofNat 0, .ofNat 1, .ofNat 0], [.ofNat 0, .ofNat 0, .ofNat 1, .ofNat 0, .ofNat 0], [.ofNat 0, .ofNat 1, .ofNat 0, .ofNat 0, .ofNat 0], [.ofNat 1, .ofNat 0, .ofNat 0, .ofNat 0, .ofNat 0]]
  | 2 => [[.ofNat 0, .ofNat 0, .ofNat 0, .ofNat 0, .ofNat 2], [.ofNat 0, .ofNat 0, .ofNat 0, .ofNat 1, .ofNat 1], [.ofNat 0, .ofNat 0, .ofNat 0, .ofNat 2, .ofNat 0], [.ofNat 0, .ofNat 0, .ofNat 1, .ofNat 0, .ofNat 1], [.ofNat 0, .ofNat 0, .ofNat 1, .ofNat 1, .ofNat 0], [.ofNat 0, .ofNat 0, .ofNat 2, .ofNat 0, .ofNat 0], [.ofNat 0, .ofNat 1, .ofNat 0, .ofNat 0, .ofNat 1], [.ofNat 0, .ofNat 1, .ofNat 0, .ofNat 1, .ofNat 0], [.ofNat 0, .ofNat 1, .ofNat 1, .ofNat 0, .ofNat 0], [.ofNat 0, .ofNat 2, .ofNat 0, .ofNat 0, .ofNat 0], [.ofNat 1, .ofNat 0, .ofNat 0, .ofNat 0, .ofNat 1], [.ofNat 1, .ofNat 0, .ofNat 0, .ofNat 1, .ofNat 0], [.ofNat 1, .ofNat 0, .ofNat 1, .ofNat 0, .ofNat 0], [.ofNat 1, .ofNat 1, .ofNat 0, .ofNat 0, .ofNat 0], [.ofNat 2, .ofNat 0, .ofNat 0, .ofNat 0, .ofNat 0]]
  | 3 => [[.ofNat 0, .ofNat 0, .ofNat 0, .ofNat 0, .ofNat 3], [.ofNat 0, .ofNat 0, .ofNat 0, .ofNat 1, .ofNat 2], [.ofNat 0, .ofNat 0, .ofNat 0, .ofNat 2, .ofNat 1], [.ofNat 0, .ofNat 0, .ofNat 0, .ofNat 3, .ofNat 0], [.ofNat 0, .ofNat 0, .ofNat 1, .ofNat 0, .ofNat 2], [.ofNat 0, .ofNat 0, .ofNat 1, .ofNat 1, .ofNat 1], [.ofNat 0, .ofNat 0, .ofNat 1, .ofNat 2, .ofNat 0], [.ofNat 0, .ofNat 0, .ofNat 2, .ofNat 0, .ofNat 1], [.ofNat 0, .ofNat 0, .ofNat 2, .ofNat 1, .ofNat 0], [.ofNat 0, .ofNat 0, .ofNat 3, .ofNat 0, .ofNat 0], [.ofNat 0, .ofNat 1, .ofNat 0, .ofNat 0, .ofNat 2], [.ofNat 0, .ofNat 1, .ofNat 0, .ofNat 1, .ofNat 1], [.ofNat 0, .ofNat 1, .ofNat 0, .ofNat 2, .ofNat 0], [.ofNat 0, .ofNat 1, .ofNat 1, .ofNat 0, .ofNat 1], [.ofNat 0, .ofNat 1, .ofNat 1, .ofNat 1, .ofNat 0], [.ofNat 0, .ofNat 1, .ofNat 2, .ofNat 0, .ofNat 0], [.ofNat 0, .ofNat 2, .ofNat 0, .ofNat 0, .ofNat 1], [.ofNat 0, .ofNat 2, .ofNat 0, .ofNat 1, .ofNat 0], [.ofNat 0, .ofNat 2, .ofNat 1, .ofNat 0, .ofNat 0], [.ofNat 0, .ofNat 3, .ofNat 0, .ofNat 0, .ofNat 0], [.ofNat 1, .ofNat 0, .ofNat 0, .ofNat 0, .ofNat 2], [.ofNat 1, .ofNat 0, .ofNat 0, .ofNat 1, .ofNat 1], [.ofNat 1, .ofNat 0, .ofNat 0, .ofNat 2, .ofNat 0], [.ofNat 1, .ofNat 0, .ofNat 1, .ofNat 0, .ofNat 1], [.ofNat 1, .ofNat 0, .ofNat 1, .ofNat 1, .ofNat 0], [.ofNat 1, .ofNat 0, .ofNat 2, .ofNat 0, .ofNat 0], [.ofNat 1, .ofNat 1, .ofNat 0, .ofNat 0, .ofNat 1], [.ofNat 1, .ofNat 1, .ofNat 0, .ofNat 1, .ofNat 0], [.ofNat 1, .ofNat 1, .ofNat 1, .ofNat 0, .ofNat 0], [.ofNat 1, .ofNat 2, .ofNat 0, .ofNat 0, .ofNat 0], [.ofNat 2, .ofNat 0, .ofNat 0, .ofNat 0, .ofNat 1], [.ofNat 2, .ofNat 0, .ofNat 0, .ofNat 1, .ofNat 0], [.ofNat 2, .ofNat 0, .ofNat 1, .ofNat 0, .ofNat 0], [.ofNat 2, .ofNat 1, .ofNat 0, .ofNat 0, .ofNat 0], [.ofNat 3, .ofNat 0, .ofNat 0, .ofNat 0, .ofNat 0]]
  | 4 => [[.ofNat 0, .ofNat 0, .ofNat 0, .ofNat 0, .ofNat 4], [.ofNat 0, .ofNat 0, .ofNat 0, .ofNat 1, .ofNat 3], [.ofNat 0, .ofNat 0, .ofNat 0, .ofNat 2, .ofNat 2], [.ofNat 0, .ofNat 0, .ofNat 0, .ofNat 3, .ofNat 1], [.ofNat 0, .ofNat 0, .ofNat 0, .ofNat 4, .ofNat 0], [.ofNat 0, .ofNat 0, .ofNat 1, .ofNat 0, .ofNat 3], [.ofNat 0, .ofNat 0, .ofNat 1, .ofNat 1, .ofNat 2], [.ofNat 0, .ofNat 0, .ofNat 1, .ofNat 2, .ofNat 1], [.ofNat 0, .ofNat 0, .ofNat 1, .ofNat 3, .ofNat 0], [.ofNat 0, .ofNat 0, .ofNat 2, .ofNat 0, .ofNat 2], [.ofNat 0, .ofNat 0, .ofNat 2, .ofNat 1, .ofNat 1], [.ofNat 0, .ofNat 0, .ofNat 2, .ofNat 2, .ofNat 0], [.ofNat 0, .ofNat 0, .ofNat 3, .ofNat 0, .ofNat 1], [.ofNat 0, .ofNat 0, .ofNat 3, .ofNat 1, .ofNat 0], [.ofNat 0, .ofNat 0, .ofNat 4, .ofNat 0, .ofNat 0], [.ofNat 0, .ofNat 1, .ofNat 0, .ofNat 0, .ofNat 3], [.ofNat 0, .ofNat 1, .ofNat 0, .ofNat 1, .ofNat 2], [.ofNat 0, .ofNat 1, .ofNat 0, .ofNat 2, .ofNat 1], [.ofNat 0, .ofNat 1, .ofNat 0, .ofNat 3, .ofNat 0], [.ofNat 0, .ofNat 1, .ofNat 1, .ofNat 0, .ofNat 2], [.ofNat 0, .ofNat 1, .ofNat 1, .ofNat 1, .ofNat 1], [.ofNat 0, .ofNat 1, .ofNat 1, .ofNat 2, .ofNat 0], [.ofNat 0, .ofNat 1, .ofNat 2, .ofNat 0, .ofNat 1], [.ofNat 0, .ofNat 1, .ofNat 2, .ofNat 1, .ofNat 0], [.ofNat 0, .ofNat 1, .ofNat 3, .ofNat 0, .ofNat 0], [.ofNat 0, .ofNat 2, .ofNat 0, .ofNat 0, .ofNat 2], [.ofNat 0, .ofNat 2, .ofNat 0, .ofNat 1, .ofNat 1], [.ofNat 0, .ofNat 2, .ofNat 0, .ofNat 2, .ofNat 0], [.ofNat 0, .ofNat 2, .ofNat 1, .ofNat 0, .ofNat 1], [.ofNat 0, .ofNat 2, .ofNat 1, .ofNat 1, .ofNat 0], [.ofNat 0, .ofNat 2, .ofNat 2, .ofNat 0, .ofNat 0], [.ofNat 0, .ofNat 3, .ofNat 0, .ofNat 0, .ofNat 1], [.ofNat 0, .ofNat 3, .ofNat 0, .ofNat 1, .ofNat 0], [.ofNat 0, .ofNat 3, .ofNat 1, .ofNat 0, .ofNat 0], [.ofNat 0, .ofNat 4, .ofNat 0, .ofNat 0, .ofNat 0], [.ofNat 1, .ofNat 0, .ofNat 0, .ofNat 0, .ofNat 3], [.ofNat 1, .ofNat 0, .ofNat 0, .ofNat 1, .ofNat 2], [.ofNat 1, .ofNat 0, .ofNat 0, .ofNat 2, .ofNat 1], [.ofNat 1, .ofNat 0, .ofNat 0, .ofNat 3, .ofNat 0], [.ofNat 1, .ofNat 0, .ofNat 1, .ofNat 0, .ofNat 2], [.ofNat 1, .ofNat 0, .ofNat 1, .ofNat 1, .ofNat 1], [.ofNat 1, .ofNat 0, .ofNat 1, .ofNat 2, .ofNat 0], [.ofNat 1, .ofNat 0, .ofNat 2, .ofNat 0, .ofNat 1], [.ofNat 1, .ofNat 0, .ofNat 2, .ofNat 1, .ofNat 0], [.ofNat 1, .ofNat 0, .ofNat 3, .ofNat 0, .ofNat 0], [.ofNat 1, .ofNat 1, .ofNat 0, .ofNat 0, .ofNat 2], [.ofNat 1, .ofNat 1, .ofNat 0, .ofNat 1, .ofNat 1], [.ofNat 1, .ofNat 1, .ofNat 0, .ofNat 2, .ofNat 0], [.ofNat 1, .ofNat 1, .ofNat 1, .ofNat 0, .ofNat 1], [.ofNat 1, .ofNat 1, .ofNat 1, .ofNat 1, .ofNat 0], [.ofNat 1, .ofNat 1, .ofNat 2, .ofNat 0, .ofNat 0], [.ofNat 1, .ofNat 2, .ofNat 0, .ofNat 0, .ofNat 1], [.ofNat 1, .ofNat 2, .ofNat 0, .ofNat 1, .ofNat 0], [.ofNat 1, .ofNat 2, .ofNat 1, .ofNat 0, .ofNat 0], [.ofNat 1, .ofNat 3, .ofNat 0, .ofNat 0, .ofNat 0], [.ofNat 2, .ofNat 0, .ofNat 0, .ofNat 0, .ofNat 2], [.ofNat 2, .ofNat 0, .ofNat 0, .ofNat 1, .ofNat 1], [.ofNat 2, .ofNat 0, .ofNat 0, .ofNat 2, .ofNat 0], [.ofNat 2, .ofNat 0, .ofNat 1, .ofNat 0, .ofNat 1], [.ofNat 2, .ofNat 0, .ofNat 1, .ofNat 1, .ofNat 0], [.ofNat 2, .ofNat 0, .ofNat 2, .ofNat 0, .ofNat 0], [.ofNat 2, .ofNat 1, .ofNat 0, .ofNat 0, .ofNat 1], [.ofNat 2, .ofNat 1, .ofNat 0, .ofNat 1, .ofNat 0], [.ofNat 2, .ofNat 1, .ofNat 1, .ofNat 0, .ofNat 0], [.ofNat 2, .ofNat 2, .ofNat 0, .ofNat 0, .ofNat 0], [.ofNat 3, .ofNat 0, .ofNat 0, .ofNat 0, .ofNat 1], [.ofNat 3, .ofNat 0, .ofNat 0, .ofNat 1, .ofNat 0], [.ofNat 3, .ofNat 0, .ofNat 1, .ofNat 0, .ofNat 0], [.ofNat 3, .ofNat 1, .ofNat 0, .ofNat 0, .ofNat 0], [.ofNat 4, .ofNat 0, .ofNat 0, .ofNat 0, .ofNat 0]]
  | 5 => [[.ofNat 0, .ofNat 0, .ofNat 0, .ofNat 0, .ofNat 5], [.ofNat 0, .ofNat 0, .ofNat 0, .ofNat 1, .ofNat 4], [.ofNat 0, .ofNat 0, .ofNat 0, .ofNat 2, .ofNat 3], [.ofNat 0, .ofNat 0, .ofNat 0, .ofNat 3, .ofNat 2], [.ofNat 0, .ofNat 0, .ofNat 0, .ofNat 4, .ofNat 1], [.ofNat 0, .ofNat 0, .ofNat 0, .ofNat 5, .ofNat 0], [.ofNat 0, .ofNat 0, .ofNat 1, .ofNat 0, .ofNat 4], [.ofNat 0, .ofNat 0, .ofNat 1, .ofNat 1, .ofNat 3], [.ofNat 0, .ofNat 0, .ofNat 1, .ofNat 2, .ofNat 2], [.ofNat 0, .ofNat 0, .ofNat 1, .ofNat 3, .ofNat 1], [.ofNat 0, .ofNat 0, .ofNat 1, .ofNat 4, .ofNat 0], [.ofNat 0, .ofNat 0, .ofNat 2, .ofNat 0, .ofNat 3], [.ofNat 0, .ofNat 0, .ofNat 2, .ofNat 1, .ofNat 2], [.ofNat 0, .ofNat 0, .ofNat 2, .ofNat 2, .ofNat 1], [.ofNat 0, .ofNat 0, .ofNat 2, .ofNat 3, .ofNat 0], [.ofNat 0, .ofNat 0, .ofNat 3, .ofNat 0, .ofNat 2], [.ofNat 0, .ofNat 0, .ofNat 3, .ofNat 1, .ofNat 1], [.ofNat 0, .ofNat 0, .ofNat 3, .ofNat 2, .ofNat 0], [.ofNat 0, .ofNat 0, .ofNat 4, .ofNat 0, .ofNat 1], [.ofNat 0, .ofNat 0, .ofNat 4, .ofNat 1, .ofNat 0], [.ofNat 0, .ofNat 0, .ofNat 5, .ofNat 0, .ofNat 0], [.ofNat 0, .ofNat 1, .ofNat 0, .ofNat 0, .ofNat 4], [.ofNat 0, .ofNat 1, .ofNat 0, .ofNat 1, .ofNat 3], [.ofNat 0, .ofNat 1, .ofNat 0, .ofNat 2, .ofNat 2], [.ofNat 0, .ofNat 1, .ofNat 0, .ofNat 3, .ofNat 1], [.ofNat 0, .ofNat 1, .ofNat 0, .ofNat 4, .ofNat 0], [.ofNat 0, .ofNat 1, .ofNat 1, .ofNat 0, .ofNat 3], [.ofNat 0, .ofNat 1, .ofNat 1, .ofNat 1, .ofNat 2], [.ofNat 0, .ofNat 1, .ofNat 1, .ofNat 2, .ofNat 1], [.ofNat 0, .ofNat 1, .ofNat 1, .ofNat 3, .ofNat 0], [.ofNat 0, .ofNat 1, .ofNat 2, .ofNat 0, .ofNat 2], [.ofNat 0, .ofNat 1, .ofNat 2, .ofNat 1, .ofNat 1], [.ofNat 0, .ofNat 1, .ofNat 2, .ofNat 2, .ofNat 0], [.ofNat 0, .ofNat 1, .ofNat 3, .ofNat 0, .ofNat 1], [.ofNat 0, .ofNat 1, .ofNat 3, .ofNat 1, .ofNat 0], [.ofNat 0, .ofNat 1, .ofNat 4, .ofNat 0, .ofNat 0], [.ofNat 0, .ofNat 2, .ofNat 0, .ofNat 0, .ofNat 3], [.ofNat 0, .ofNat 2, .ofNat 0, .ofNat 1, .ofNat 2], [.ofNat 0, .ofNat 2, .ofNat 0, .ofNat 2, .ofNat 1], [.ofNat 0, .ofNat 2, .ofNat 0, .ofNat 3, .ofNat 0], [.ofNat 0, .ofNat 2, .ofNat 1, .ofNat 0, .ofNat 2], [.ofNat 0, .ofNat 2, .ofNat 1, .ofNat 1, .ofNat 1], [.ofNat 0, .ofNat 2, .ofNat 1, .ofNat 2, .ofNat 0], [.ofNat 0, .ofNat 2, .ofNat 2, .ofNat 0, .ofNat 1], [.ofNat 0, .ofNat 2, .ofNat 2, .ofNat 1, .ofNat 0], [.ofNat 0, .ofNat 2, .ofNat 3, .ofNat 0, .ofNat 0], [.ofNat 0, .ofNat 3, .ofNat 0, .ofNat 0, .ofNat 2], [.ofNat 0, .ofNat 3, .ofNat 0, .ofNat 1, .ofNat 1], [.ofNat 0, .ofNat 3, .ofNat 0, .ofNat 2, .ofNat 0], [.ofNat 0, .ofNat 3, .ofNat 1, .ofNat 0, .ofNat 1], [.ofNat 0, .ofNat 3, .ofNat 1, .ofNat 1, .ofNat 0], [.ofNat 0, .ofNat 3, .ofNat 2, .ofNat 0, .ofNat 0], [.ofNat 0, .ofNat 4, .ofNat 0, .ofNat 0, .ofNat 1], [.ofNat 0, .ofNat 4, .ofNat 0, .ofNat 1, .ofNat 0], [.ofNat 0, .ofNat 4, .ofNat 1, .ofNat 0, .ofNat 0], [.ofNat 0, .ofNat 5, .ofNat 0, .ofNat 0, .ofNat 0], [.ofNat 1, .ofNat 0, .ofNat 0, .ofNat 0, .ofNat 4], [.ofNat 1, .ofNat 0, .ofNat 0, .ofNat 1, .ofNat 3], [.ofNat 1, .ofNat 0, .ofNat 0, .ofNat 2, .ofNat 2], [.ofNat 1, .ofNat 0, .ofNat 0, .ofNat 3, .ofNat 1], [.ofNat 1, .ofNat 0, .ofNat 0, .ofNat 4, .ofNat 0], [.ofNat 1, .ofNat 0, .ofNat 1, .ofNat 0, .ofNat 3], [.ofNat 1, .ofNat 0, .ofNat 1, .ofNat 1, .ofNat 2], [.ofNat 1, .ofNat 0, .ofNat 1, .ofNat 2, .ofNat 1], [.ofNat 1, .ofNat 0, .ofNat 1, .ofNat 3, .ofNat 0], [.ofNat 1, .ofNat 0, .ofNat 2, .ofNat 0, .ofNat 2], [.ofNat 1, .ofNat 0, .ofNat 2, .ofNat 1, .ofNat 1], [.ofNat 1, .ofNat 0, .ofNat 2, .ofNat 2, .ofNat 0], [.ofNat 1, .ofNat 0, .ofNat 3, .ofNat 0, .ofNat 1], [.ofNat 1, .ofNat 0, .ofNat 3, .ofNat 1, .ofNat 0], [.ofNat 1, .ofNat 0, .ofNat 4, .ofNat 0, .ofNat 0], [.ofNat 1, .ofNat 1, .ofNat 0, .ofNat 0, .ofNat 3], [.ofNat 1, .ofNat 1, .ofNat 0, .ofNat 1, .ofNat 2], [.ofNat 1, .ofNat 1, .ofNat 0, .ofNat 2, .ofNat 1], [.ofNat 1, .ofNat 1, .ofNat 0, .ofNat 3, .ofNat 0], [.ofNat 1, .ofNat 1, .ofNat 1, .ofNat 0, .ofNat 2], [.ofNat 1, .ofNat 1, .ofNat 1, .ofNat 1, .ofNat 1], [.ofNat 1, .ofNat 1, .ofNat 1, .ofNat 2, .ofNat 0], [.ofNat 1, .ofNat 1, .ofNat 2, .ofNat 0, .ofNat 1], [.ofNat 1, .ofNat 1, .ofNat 2, .ofNat 1, .ofNat 0], [.ofNat 1, .ofNat 1, .ofNat 3, .ofNat 0, .ofNat 0], [.ofNat 1, .ofNat 2, .ofNat 0, .ofNat 0, .ofNat 2], [.ofNat 1, .ofNat 2, .ofNat 0, .ofNat 1, .ofNat 1], [.ofNat 1, .ofNat 2, .ofNat 0, .ofNat 2, .ofNat 0], [.ofNat 1, .ofNat 2, .ofNat 1, .ofNat 0, .ofNat 1], [.ofNat 1, .ofNat 2, .ofNat 1, .ofNat 1, .ofNat 0], [.ofNat 1, .ofNat 2, .ofNat 2, .ofNat 0, .ofNat 0], [.ofNat 1, .ofNat 3, .ofNat 0, .ofNat 0, .ofNat 1], [.ofNat 1, .ofNat 3, .ofNat 0, .ofNat 1, .ofNat 0], [.ofNat 1, .ofNat 3, .ofNat 1, .ofNat 0, .ofNat 0], [.ofNat 1, .ofNat 4, .ofNat 0, .ofNat 0, .ofNat 0], [.ofNat 2, .ofNat 0, .ofNat 0, .ofNat 0, .ofNat 3], [.ofNat 2, .ofNat 0, .ofNat 0, .ofNat 1, .ofNat 2], [.ofNat 2, .ofNat 0, .ofNat 0, .ofNat 2, .ofNat 1], [.ofNat 2, .ofNat 0, .ofNat 0, .ofNat 3, .ofNat 0], [.ofNat 2, .ofNat 0, .ofNat 1, .ofNat 0, .ofNat 2], [.ofNat 2, .ofNat 0, .ofNat 1, .ofNat 1, .ofNat 1], [.ofNat 2, .ofNat 0, .ofNat 1, .ofNat 2, .ofNat 0], [.ofNat 2, .ofNat 0, .ofNat 2, .ofNat 0, .ofNat 1], [.ofNat 2, .ofNat 0, .ofNat 2, .ofNat 1, .ofNat 0], [.ofNat 2, .ofNat 0, .ofNat 3, .ofNat 0, .ofNat 0], [.ofNat 2, .ofNat 1, .ofNat 0, .ofNat 0, .ofNat 2], [.ofNat 2, .ofNat 1, .ofNat 0, .ofNat 1, .ofNat 1], [.ofNat 2, .ofNat 1, .ofNat 0, .ofNat 2, .ofNat 0], [.ofNat 2, .ofNat 1, .ofNat 1, .ofNat 0, .ofNat 1], [.ofNat 2, .ofNat 1, .ofNat 1, .ofNat 1, .ofNat 0], [.ofNat 2, .ofNat 1, .ofNat 2, .ofNat 0, .ofNat 0], [.ofNat 2, .ofNat 2, .ofNat 0, .ofNat 0, .ofNat 1], [.ofNat 2, .ofNat 2, .ofNat 0, .ofNat 1, .ofNat 0], [.ofNat 2, .ofNat 2, .ofNat 1, .ofNat 0, .ofNat 0], [.ofNat 2, .ofNat 3, .ofNat 0, .ofNat 0, .ofNat 0], [.ofNat 3, .ofNat 0, .ofNat 0, .ofNat 0, .ofNat 2], [.ofNat 3, .ofNat 0, .ofNat 0, .ofNat 1, .ofNat 1], [.ofNat 3, .ofNat 0, .ofNat 0, .ofNat 2, .ofNat 0], [.ofNat 3, .ofNat 0, .ofNat 1, .ofNat 0, .ofNat 1], [.ofNat 3, .ofNat 0, .ofNat 1, .ofNat 1, .ofNat 0], [.ofNat 3, .ofNat 0, .ofNat 2, .ofNat 0, .ofNat 0], [.ofNat 3, .ofNat 1, .ofNat 0, .ofNat 0, .ofNat 1], [.ofNat 3, .ofNat 1, .ofNat 0, .ofNat 1, .ofNat 0], [.ofNat 3, .ofNat 1, .ofNat 1, .ofNat 0, .ofNat 0], [.ofNat 3, .ofNat 2, .ofNat 0, .ofNat 0, .ofNat 0], [.ofNat 4, .ofNat 0, .ofNat 0, .ofNat 0, .ofNat 1], [.ofNat 4, .ofNat 0, .ofNat 0, .ofNat 1, .ofNat 0], [.ofNat 4, .ofNat 0, .ofNat 1, .ofNat 0, .ofNat 0], [.ofNat 4, .ofNat 1, .ofNat 0, .ofNat 0, .ofNat 0], [.ofNat 5, .ofNat 0, .ofNat 0, .ofNat 0, .ofNat 0]]
  | 6 => [[.ofNat 0, .ofNat 0, .ofNat 0, .ofNat 0, .ofNat 6], [.ofNat 0, .ofNat 0, .ofNat 0, .ofNat 1, .ofNat 5], [.ofNat 0, .ofNat 0, .ofNat 0, .ofNat 2, .ofNat 4], [.ofNat 0, .ofNat 0, .ofNat 0, .ofNat 3, .ofNat 3], [.ofNat 0, .ofNat 0, .ofNat 0, .ofNat 4, .ofNat 2], [.ofNat 0, .ofNat 0, .ofNat 0, .ofNat 5, .ofNat 1], [.ofNat 0, .ofNat 0, .ofNat 0, .ofNat 6, .ofNat 0], [.ofNat 0, .ofNat 0, .ofNat 1, .ofNat 0, .ofNat 5], [.ofNat 0, .ofNat 0, .ofNat 1, .ofNat 1, .ofNat 4], [.ofNat 0, .ofNat 0, .ofNat 1, .ofNat 2, .ofNat 3], [.ofNat 0, .ofNat 0, .ofNat 1, .ofNat 3, .ofNat 2], [.ofNat 0, .ofNat 0, .ofNat 1, .ofNat 4, .ofNat 1], [.ofNat 0, .ofNat 0, .ofNat 1, .ofNat 5, .ofNat 0], [.ofNat 0, .ofNat 0, .ofNat 2, .ofNat 0, .ofNat 4], [.ofNat 0, .ofNat 0, .ofNat 2, .ofNat 1, .ofNat 3], [.ofNat 0, .ofNat 0, .ofNat 2, .ofNat 2, .ofNat 2], [.ofNat 0, .ofNat 0, .ofNat 2, .ofNat 3, .ofNat 1], [.ofNat 0, .ofNat 0, .ofNat 2, .ofNat 4, .ofNat 0], [.ofNat 0, .ofNat 0, .ofNat 3, .ofNat 0, .ofNat 3], [.ofNat 0, .ofNat 0, .ofNat 3, .ofNat 1, .ofNat 2], [.ofNat 0, .ofNat 0, .ofNat 3, .ofNat 2, .ofNat 1], [.ofNat 0, .ofNat 0, .ofNat 3, .ofNat 3, .ofNat 0], [.ofNat 0, .ofNat 0, .ofNat 4, .ofNat 0, .ofNat 2], [.ofNat 0, .ofNat 0, .ofNat 4, .ofNat 1, .ofNat 1], [.ofNat 0, .ofNat 0, .ofNat 4, .ofNat 2, .ofNat 0], [.ofNat 0, .ofNat 0, .ofNat 5, .ofNat 0, .ofNat 1], [.ofNat 0, .ofNat 0, .ofNat 5, .ofNat 1, .ofNat 0], [.ofNat 0, .ofNat 0, .ofNat 6, .ofNat 0, .ofNat 0], [.ofNat 0, .ofNat 1, .ofNat 0, .ofNat 0, .ofNat 5], [.ofNat 0, .ofNat 1, .ofNat 0, .ofNat 1, .ofNat 4], [.ofNat 0, .ofNat 1, .ofNat 0, .ofNat 2, .ofNat 3], [.ofNat 0, .ofNat 1, .ofNat 0, .ofNat 3, .ofNat 2], [.ofNat 0, .ofNat 1, .ofNat 0, .ofNat 4, .ofNat 1], [.ofNat 0, .ofNat 1, .ofNat 0, .ofNat 5, .ofNat 0], [.ofNat 0, .ofNat 1, .ofNat 1, .ofNat 0, .ofNat 4], [.ofNat 0, .ofNat 1, .ofNat 1, .ofNat 1, .ofNat 3], [.ofNat 0, .ofNat 1, .ofNat 1, .ofNat 2, .ofNat 2], [.ofNat 0, .ofNat 1, .ofNat 1, .ofNat 3, .ofNat 1], [.ofNat 0, .ofNat 1, .ofNat 1, .ofNat 4, .ofNat 0], [.ofNat 0, .ofNat 1, .ofNat 2, .ofNat 0, .ofNat 3], [.ofNat 0, .ofNat 1, .ofNat 2, .ofNat 1, .ofNat 2], [.ofNat 0, .ofNat 1, .ofNat 2, .ofNat 2, .ofNat 1], [.ofNat 0, .ofNat 1, .ofNat 2, .ofNat 3, .ofNat 0], [.ofNat 0, .ofNat 1, .ofNat 3, .ofNat 0, .ofNat 2], [.ofNat 0, .ofNat 1, .ofNat 3, .ofNat 1, .ofNat 1], [.ofNat 0, .ofNat 1, .ofNat 3, .ofNat 2, .ofNat 0], [.ofNat 0, .ofNat 1, .ofNat 4, .ofNat 0, .ofNat 1], [.ofNat 0, .ofNat 1, .ofNat 4, .ofNat 1, .ofNat 0], [.ofNat 0, .ofNat 1, .ofNat 5, .ofNat 0, .ofNat 0], [.ofNat 0, .ofNat 2, .ofNat 0, .ofNat 0, .ofNat 4], [.ofNat 0, .ofNat 2, .ofNat 0, .ofNat 1, .ofNat 3], [.ofNat 0, .ofNat 2, .ofNat 0, .ofNat 2, .ofNat 2], [.ofNat 0, .ofNat 2, .ofNat 0, .ofNat 3, .ofNat 1], [.ofNat 0, .ofNat 2, .ofNat 0, .ofNat 4, .ofNat 0], [.ofNat 0, .ofNat 2, .ofNat 1, .ofNat 0, .ofNat 3], [.ofNat 0, .ofNat 2, .ofNat 1, .ofNat 1, .ofNat 2], [.ofNat 0, .ofNat 2, .ofNat 1, .ofNat 2, .ofNat 1], [.ofNat 0, .ofNat 2, .ofNat 1, .ofNat 3, .ofNat 0], [.ofNat 0, .ofNat 2, .ofNat 2, .ofNat 0, .ofNat 2], [.ofNat 0, .ofNat 2, .ofNat 2, .ofNat 1, .ofNat 1], [.ofNat 0, .ofNat 2, .ofNat 2, .ofNat 2, .ofNat 0], [.ofNat 0, .ofNat 2, .ofNat 3, .ofNat 0, .ofNat 1], [.ofNat 0, .ofNat 2, .ofNat 3, .ofNat 1, .ofNat 0], [.ofNat 0, .ofNat 2, .ofNat 4, .ofNat 0, .ofNat 0], [.ofNat 0, .ofNat 3, .ofNat 0, .ofNat 0, .ofNat 3], [.ofNat 0, .ofNat 3, .ofNat 0, .ofNat 1, .ofNat 2], [.ofNat 0, .ofNat 3, .ofNat 0, .ofNat 2, .ofNat 1], [.ofNat 0, .ofNat 3, .ofNat 0, .ofNat 3, .ofNat 0], [.ofNat 0, .ofNat 3, .ofNat 1, .ofNat 0, .ofNat 2], [.ofNat 0, .ofNat 3, .ofNat 1, .ofNat 1, .ofNat 1], [.ofNat 0, .ofNat 3, .ofNat 1, .ofNat 2, .ofNat 0], [.ofNat 0, .ofNat 3, .ofNat 2, .ofNat 0, .ofNat 1], [.ofNat 0, .ofNat 3, .ofNat 2, .ofNat 1, .ofNat 0], [.ofNat 0, .ofNat 3, .ofNat 3, .ofNat 0, .ofNat 0], [.ofNat 0, .ofNat 4, .ofNat 0, .ofNat 0, .ofNat 2], [.ofNat 0, .ofNat 4, .ofNat 0, .ofNat 1, .ofNat 1], [.ofNat 0, .ofNat 4, .ofNat 0, .ofNat 2, .ofNat 0], [.ofNat 0, .ofNat 4, .ofNat 1, .ofNat 0, .ofNat 1], [.ofNat 0, .ofNat 4, .ofNat 1, .ofNat 1, .ofNat 0], [.ofNat 0, .ofNat 4, .ofNat 2, .ofNat 0, .ofNat 0], [.ofNat 0, .ofNat 5, .ofNat 0, .ofNat 0, .ofNat 1], [.ofNat 0, .ofNat 5, .ofNat 0, .ofNat 1, .ofNat 0], [.ofNat 0, .ofNat 5, .ofNat 1, .ofNat 0, .ofNat 0], [.ofNat 0, .ofNat 6, .ofNat 0, .ofNat 0, .ofNat 0], [.ofNat 1, .ofNat 0, .ofNat 0, .ofNat 0, .ofNat 5], [.ofNat 1, .ofNat 0, .ofNat 0, .ofNat 1, .ofNat 4], [.ofNat 1, .ofNat 0, .ofNat 0, .ofNat 2, .ofNat 3], [.ofNat 1, .ofNat 0, .ofNat 0, .ofNat 3, .ofNat 2], [.ofNat 1, .ofNat 0, .ofNat 0, .ofNat 4, .ofNat 1], [.ofNat 1, .ofNat 0, .ofNat 0, .ofNat 5, .ofNat 0], [.ofNat 1, .ofNat 0, .ofNat 1, .ofNat 0, .ofNat 4], [.ofNat 1, .ofNat 0, .ofNat 1, .ofNat 1, .ofNat 3], [.ofNat 1, .ofNat 0, .ofNat 1, .ofNat 2, .ofNat 2], [.ofNat 1, .ofNat 0, .ofNat 1, .ofNat 3, .ofNat 1], [.ofNat 1, .ofNat 0, .ofNat 1, .ofNat 4, .ofNat 0], [.ofNat 1, .ofNat 0, .ofNat 2, .ofNat 0, .ofNat 3], [.ofNat 1, .ofNat 0, .ofNat 2, .ofNat 1, .ofNat 2], [.ofNat 1, .ofNat 0, .ofNat 2, .ofNat 2, .ofNat 1], [.ofNat 1, .ofNat 0, .ofNat 2, .ofNat 3, .ofNat 0], [.ofNat 1, .ofNat 0, .ofNat 3, .ofNat 0, .ofNat 2], [.ofNat 1, .ofNat 0, .ofNat 3, .ofNat 1, .ofNat 1], [.ofNat 1, .ofNat 0, .ofNat 3, .ofNat 2, .ofNat 0], [.ofNat 1, .ofNat 0, .ofNat 4, .ofNat 0, .ofNat 1], [.ofNat 1, .ofNat 0, .ofNat 4, .ofNat 1, .ofNat 0], [.ofNat 1, .ofNat 0, .ofNat 5, .ofNat 0, .ofNat 0], [.ofNat 1, .ofNat 1, .ofNat 0, .ofNat 0, .ofNat 4], [.ofNat 1, .ofNat 1, .ofNat 0, .ofNat 1, .ofNat 3], [.ofNat 1, .ofNat 1, .ofNat 0, .ofNat 2, .ofNat 2], [.ofNat 1, .ofNat 1, .ofNat 0, .ofNat 3, .ofNat 1], [.ofNat 1, .ofNat 1, .ofNat 0, .ofNat 4, .ofNat 0], [.ofNat 1, .ofNat 1, .ofNat 1, .ofNat 0, .ofNat 3], [.ofNat 1, .ofNat 1, .ofNat 1, .ofNat 1, .ofNat 2], [.ofNat 1, .ofNat 1, .ofNat 1, .ofNat 2, .ofNat 1], [.ofNat 1, .ofNat 1, .ofNat 1, .ofNat 3, .ofNat 0], [.ofNat 1, .ofNat 1, .ofNat 2, .ofNat 0, .ofNat 2], [.ofNat 1, .ofNat 1, .ofNat 2, .ofNat 1, .ofNat 1], [.ofNat 1, .ofNat 1, .ofNat 2, .ofNat 2, .ofNat 0], [.ofNat 1, .ofNat 1, .ofNat 3, .ofNat 0, .ofNat 1], [.ofNat 1, .ofNat 1, .ofNat 3, .ofNat 1, .ofNat 0], [.ofNat 1, .ofNat 1, .ofNat 4, .ofNat 0, .ofNat 0], [.ofNat 1, .ofNat 2, .ofNat 0, .ofNat 0, .ofNat 3], [.ofNat 1, .ofNat 2, .ofNat 0, .ofNat 1, .ofNat 2], [.ofNat 1, .ofNat 2, .ofNat 0, .ofNat 2, .ofNat 1], [.ofNat 1, .ofNat 2, .ofNat 0, .ofNat 3, .ofNat 0], [.ofNat 1, .ofNat 2, .ofNat 1, .ofNat 0, .ofNat 2], [.ofNat 1, .ofNat 2, .ofNat 1, .ofNat 1, .ofNat 1], [.ofNat 1, .ofNat 2, .ofNat 1, .ofNat 2, .ofNat 0], [.ofNat 1, .ofNat 2, .ofNat 2, .ofNat 0, .ofNat 1], [.ofNat 1, .ofNat 2, .ofNat 2, .ofNat 1, .ofNat 0], [.ofNat 1, .ofNat 2, .ofNat 3, .ofNat 0, .ofNat 0], [.ofNat 1, .ofNat 3, .ofNat 0, .ofNat 0, .ofNat 2], [.ofNat 1, .ofNat 3, .ofNat 0, .ofNat 1, .ofNat 1], [.ofNat 1, .ofNat 3, .ofNat 0, .ofNat 2, .ofNat 0], [.ofNat 1, .ofNat 3, .ofNat 1, .ofNat 0, .ofNat 1], [.ofNat 1, .ofNat 3, .ofNat 1, .ofNat 1, .ofNat 0], [.ofNat 1, .ofNat 3, .ofNat 2, .ofNat 0, .ofNat 0], [.ofNat 1, .ofNat 4, .ofNat 0, .ofNat 0, .ofNat 1], [.ofNat 1, .ofNat 4, .ofNat 0, .ofNat 1, .ofNat 0], [.ofNat 1, .ofNat 4, .ofNat 1, .ofNat 0, .ofNat 0], [.ofNat 1, .ofNat 5, .ofNat 0, .ofNat 0, .ofNat 0], [.ofNat 2, .ofNat 0, .ofNat 0, .ofNat 0, .ofNat 4], [.ofNat 2, .ofNat 0, .ofNat 0, .ofNat 1, .ofNat 3], [.ofNat 2, .ofNat 0, .ofNat 0, .ofNat 2, .ofNat 2], [.ofNat 2, .ofNat 0, .ofNat 0, .ofNat 3, .ofNat 1], [.ofNat 2, .ofNat 0, .ofNat 0, .ofNat 4, .ofNat 0], [.ofNat 2, .ofNat 0, .ofNat 1, .ofNat 0, .ofNat 3], [.ofNat 2, .ofNat 0, .ofNat 1, .ofNat 1, .ofNat 2], [.ofNat 2, .ofNat 0, .ofNat 1, .ofNat 2, .ofNat 1], [.ofNat 2, .ofNat 0, .ofNat 1, .ofNat 3, .ofNat 0], [.ofNat 2, .ofNat 0, .ofNat 2, .ofNat 0, .ofNat 2], [.ofNat 2, .ofNat 0, .ofNat 2, .ofNat 1, .ofNat 1], [.ofNat 2, .ofNat 0, .ofNat 2, .ofNat 2, .ofNat 0], [.ofNat 2, .ofNat 0, .ofNat 3, .ofNat 0, .ofNat 1], [.ofNat 2, .ofNat 0, .ofNat 3, .ofNat 1, .ofNat 0], [.ofNat 2, .ofNat 0, .ofNat 4, .ofNat 0, .ofNat 0], [.ofNat 2, .ofNat 1, .ofNat 0, .ofNat 0, .ofNat 3], [.ofNat 2, .ofNat 1, .ofNat 0, .ofNat 1, .ofNat 2], [.ofNat 2, .ofNat 1, .ofNat 0, .ofNat 2, .ofNat 1], [.ofNat 2, .ofNat 1, .ofNat 0, .ofNat 3, .ofNat 0], [.ofNat 2, .ofNat 1, .ofNat 1, .ofNat 0, .ofNat 2], [.ofNat 2, .ofNat 1, .ofNat 1, .ofNat 1, .ofNat 1], [.ofNat 2, .ofNat 1, .ofNat 1, .ofNat 2, .ofNat 0], [.ofNat 2, .ofNat 1, .ofNat 2, .ofNat 0, .ofNat 1], [.ofNat 2, .ofNat 1, .ofNat 2, .ofNat 1, .ofNat 0], [.ofNat 2, .ofNat 1, .ofNat 3, .ofNat 0, .ofNat 0], [.ofNat 2, .ofNat 2, .ofNat 0, .ofNat 0, .ofNat 2], [.ofNat 2, .ofNat 2, .ofNat 0, .ofNat 1, .ofNat 1], [.ofNat 2, .ofNat 2, .ofNat 0, .ofNat 2, .ofNat 0], [.ofNat 2, .ofNat 2, .ofNat 1, .ofNat 0, .ofNat 1], [.ofNat 2, .ofNat 2, .ofNat 1, .ofNat 1, .ofNat 0], [.ofNat 2, .ofNat 2, .ofNat 2, .ofNat 0, .ofNat 0], [.ofNat 2, .ofNat 3, .ofNat 0, .ofNat 0, .ofNat 1], [.ofNat 2, .ofNat 3, .ofNat 0, .ofNat 1, .ofNat 0], [.ofNat 2, .ofNat 3, .ofNat 1, .ofNat 0, .ofNat 0], [.ofNat 2, .ofNat 4, .ofNat 0, .ofNat 0, .ofNat 0], [.ofNat 3, .ofNat 0, .ofNat 0, .ofNat 0, .ofNat 3], [.ofNat 3, .ofNat 0, .ofNat 0, .ofNat 1, .ofNat 2], [.ofNat 3, .ofNat 0, .ofNat 0, .ofNat 2, .ofNat 1], [.ofNat 3, .ofNat 0, .ofNat 0, .ofNat 3, .ofNat 0], [.ofNat 3, .ofNat 0, .ofNat 1, .ofNat 0, .ofNat 2], [.ofNat 3, .ofNat 0, .ofNat 1, .ofNat 1, .ofNat 1], [.ofNat 3, .ofNat 0, .ofNat 1, .ofNat 2, .ofNat 0], [.ofNat 3, .ofNat 0, .ofNat 2, .ofNat 0, .ofNat 1], [.ofNat 3, .ofNat 0, .ofNat 2, .ofNat 1, .ofNat 0], [.ofNat 3, .ofNat 0, .ofNat 3, .ofNat 0, .ofNat 0], [.ofNat 3, .ofNat 1, .ofNat 0, .ofNat 0, .ofNat 2], [.ofNat 3, .ofNat 1, .ofNat 0, .ofNat 1, .ofNat 1], [.ofNat 3, .ofNat 1, .ofNat 0, .ofNat 2, .ofNat 0], [.ofNat 3, .ofNat 1, .ofNat 1, .ofNat 0, .ofNat 1], [.ofNat 3, .ofNat 1, .ofNat 1, .ofNat 1, .ofNat 0], [.ofNat 3, .ofNat 1, .ofNat 2, .ofNat 0, .ofNat 0], [.ofNat 3, .ofNat 2, .ofNat 0, .ofNat 0, .ofNat 1], [.ofNat 3, .ofNat 2, .ofNat 0, .ofNat 1, .ofNat 0], [.ofNat 3, .ofNat 2, .ofNat 1, .ofNat 0, .ofNat 0], [.ofNat 3, .ofNat 3, .ofNat 0, .ofNat 0, .ofNat 0], [.ofNat 4, .ofNat 0, .ofNat 0, .ofNat 0, .ofNat 2], [.ofNat 4, .ofNat 0, .ofNat 0, .ofNat 1, .ofNat 1], [.ofNat 4, .ofNat 0, .ofNat 0, .ofNat 2, .ofNat 0], [.ofNat 4, .ofNat 0, .ofNat 1, .ofNat 0, .ofNat 1], [.ofNat 4, .ofNat 0, .ofNat 1, .ofNat 1, .ofNat 0], [.ofNat 4, .ofNat 0, .ofNat 2, .ofNat 0, .ofNat 0], [.ofNat 4, .ofNat 1, .ofNat 0, .ofNat 0, .ofNat 1], [.ofNat 4, .ofNat 1, .ofNat 0, .ofNat 1, .ofNat 0], [.ofNat 4, .ofNat 1, .ofNat 1, .ofNat 0, .ofNat 0], [.ofNat 4, .ofNat 2, .ofNat 0, .ofNat 0, .ofNat 0], [.ofNat 5, .ofNat 0, .ofNat 0, .ofNat 0, .ofNat 1], [.ofNat 5, .ofNat 0, .ofNat 0, .ofNat 1, .ofNat 0], [.ofNat 5, .ofNat 0, .ofNat 1, .ofNat 0, .ofNat 0], [.ofNat 5, .ofNat 1, .ofNat 0, .ofNat 0, .ofNat 0], [.ofNat 6, .ofNat 0, .ofNat 0, .ofNat 0, .ofNat 0]]
  | _ => []
theorem shT_0 : shL 0 = shT 0 := by decide +kernel
theorem shT_1 : shL 1 = shT 1 := by decide +kernel
theorem shT_2 : shL 2 = shT 2 := by decide +kernel
theorem shT_3 : shL 3 = shT 3 := by decide +kernel
theorem shT_4 : shL 4 = shT 4 := by decide +kernel
theorem shT_5 : shL 5 = shT 5 := by decide +kernel
theorem shT_6 : shL 6 = shT 6 := by decide +kernel
theorem shT_all : ∀ p, p < 7 → shL p = shT p := fun p hp => by
  match p, hp with
  | 0, _ => exact shT_0
  | 1, _ => exact shT_1
  | 2, _ => exact shT_2
  | 3, _ => exact shT_3
  | 4, _ => exact shT_4
  | 5, _ => exact shT_5
  | 6, _ => exact shT_6
noncomputable def badF (ws : List Int) : Bool := (shT (potOf ws)).any fun t => (!(winsB ws).getD (lowOf ws t).toNat false) == (beatenB ws).getD (lowOf ws t).toNat false
noncomputable def goodF (ws : List Int) : Bool := (!badF ws) == noHeavy ws (totalsL ws) (potOf ws)
noncomputable def goodP (a b : Nat) : Bool := (List.range 3).all fun c => (List.range 3).all fun d => (List.range 3).all fun e => ((a + b + c + d + e) % 2 == 0) || goodF [(a : Int), (b : Int), (c : Int), (d : Int), (e : Int)]
theorem gp_0_0 : goodP 0 0 = true := by decide +kernel
theorem gp_0_1 : goodP 0 1 = true := by decide +kernel
theorem gp_0_2 : goodP 0 2 = true := by decide +kernel
theorem gp_1_0 : goodP 1 0 = true := by decide +kernel
theorem gp_1_1 : goodP 1 1 = true := by decide +kernel
theorem gp_1_2 : goodP 1 2 = true := by decide +kernel
theorem gp_2_0 : goodP 2 0 = true := by decide +kernel
theorem gp_2_1 : goodP 2 1 = true := by decide +kernel
theorem gp_2_2 : goodP 2 2 = true := by decide +kernel
theorem gp_3_0 : goodP 3 0 = true := by decide +kernel
theorem gp_3_1 : goodP 3 1 = true := by decide +kernel
theorem gp_3_2 : goodP 3 2 = true := by decide +kernel
theorem gp_all : ∀ a, a < 4 → ∀ b, b < 3 → goodP a b = true := fun a ha b hb => by
  match a, ha, b, hb with
  | 0, _, 0, _ => exact gp_0_0
  | 0, _, 1, _ => exact gp_0_1
  | 0, _, 2, _ => exact gp_0_2
  | 1, _, 0, _ => exact gp_1_0
  | 1, _, 1, _ => exact gp_1_1
  | 1, _, 2, _ => exact gp_1_2
  | 2, _, 0, _ => exact gp_2_0
  | 2, _, 1, _ => exact gp_2_1
  | 2, _, 2, _ => exact gp_2_2
  | 3, _, 0, _ => exact gp_3_0
  | 3, _, 1, _ => exact gp_3_1
  | 3, _, 2, _ => exact gp_3_2

/-- flags made of the places where p holds -/
def sumP (p : Nat → Bool) : Nat → Nat
  | 0 => 0
  | n + 1 => (if p n then 2 ^ n else 0) + sumP p n
theorem sumP_lt (p : Nat → Bool) : ∀ n, sumP p n < 2 ^ n
  | 0 => Nat.one_pos
  | n + 1 => by
    have := sumP_lt p n
    show (if p n then 2 ^ n else 0) + sumP p n < 2 ^ (n + 1)
    rw [Nat.pow_succ]
    split <;> omega
theorem sumP_bit (p : Nat → Bool) : ∀ n i, i < n → (sumP p n).testBit i = p i
  | 0, i, h => absurd h (Nat.not_lt_zero _)
  | n + 1, i, h => by
    show ((if p n then 2 ^ n else 0) + sumP p n).testBit i = p i
    cases hp : p n
    · rw [if_neg Bool.false_ne_true, Nat.zero_add]
      rcases Nat.lt_succ_iff_lt_or_eq.mp h with q | q
      · exact sumP_bit p n i q
      · rw [q, hp]; exact Nat.testBit_lt_two_pow (sumP_lt p n)
    · rw [if_pos rfl]
      rcases Nat.lt_succ_iff_lt_or_eq.mp h with q | q
      · rw [Nat.testBit_two_pow_add_gt q]; exact sumP_bit p n i q
      · rw [q, hp, Nat.testBit_two_pow_add_eq, Nat.testBit_lt_two_pow (sumP_lt p n)]; rfl
theorem sumP_eq (p : Nat → Bool) : ∀ n, (((List.range n).filter p).map fun m : Nat => (2 : Int) ^ m).sum = (sumP p n : Nat)
  | 0 => rfl
  | n + 1 => by
    have ih := sumP_eq p n
    rw [List.range_succ, List.filter_append, List.map_append, List.sum_append, ih]
    show _ = (((if p n then 2 ^ n else 0) + sumP p n : Nat) : Int)
    cases hp : p n
    · simp [hp]
    · simp only [List.filter_cons, hp, if_true, List.filter_nil, List.map_cons, List.map_nil, List.sum_cons, List.sum_nil]
      rw [pow_cast]; omega
theorem sumP_bits (p : Nat → Bool) (n : Nat) : bitsTo (sumP p n) n = (List.range n).filter p := by
  unfold bitsTo
  refine List.filter_congr fun i hi => ?_
  exact sumP_bit p n i (List.mem_range.mp hi)

theorem short_le (ws : List Int) (k x : Nat) : 0 ≤ shortAt ws k x ∧ shortAt ws k x ≤ 2 ^ k := by
  have : (0 : Int) < 2 ^ k := Int.pow_pos (by decide)
  unfold shortAt
  split <;> omega
theorem low_range (ws t : List Int) : 0 ≤ lowOf ws t ∧ lowOf ws t < 32 := by
  unfold lowOf
  rw [show List.range 5 = [0, 1, 2, 3, 4] from rfl]
  simp only [List.map_cons, List.map_nil, List.sum_cons, List.sum_nil]
  have h0 := short_le ws 0 (t.getD 0 0).toNat
  have h1 := short_le ws 1 (t.getD 1 0).toNat
  have h2 := short_le ws 2 (t.getD 2 0).toNat
  have h3 := short_le ws 3 (t.getD 3 0).toNat
  have h4 := short_le ws 4 (t.getD 4 0).toNat
  have e0 : (2 : Int) ^ 0 = 1 := rfl
  have e1 : (2 : Int) ^ 1 = 2 := rfl
  have e2 : (2 : Int) ^ 2 = 4 := rfl
  have e3 : (2 : Int) ^ 3 = 8 := rfl
  have e4 : (2 : Int) ^ 4 = 16 := rfl
  rw [e0] at h0; rw [e1] at h1; rw [e2] at h2; rw [e3] at h3; rw [e4] at h4
  omega

theorem bad_nil {ws : List Int} {tab : List Bool} : badOf ws tab = [] ↔ ∀ t ∈ shL (potOf ws), ((keptOf ws).contains t == tab.getD (lowOf ws t).toNat false) = false := by
  unfold badOf
  rw [List.map_eq_nil_iff, List.filter_eq_nil_iff]
  constructor
  · intro h t ht; have := h t ht; simpa using this
  · intro h t ht; rw [h t ht]; decide

theorem good_five {a b c d e : Int} {q : Nat} (ha : 0 ≤ a) (hb : 0 ≤ b) (hc : 0 ≤ c) (hd : 0 ≤ d) (he : 0 ≤ e) (hq : a + b + c + d + e = 2 * (q : Int) - 1) (h7 : q < 7) (hF : goodF [a, b, c, d, e] = true) : Good [a, b, c, d, e] := by
  have hsum : ([a, b, c, d, e] : List Int).sum = 2 * (q : Int) - 1 := by
    simp only [List.sum_cons, List.sum_nil]; omega
  have hfd : (([a, b, c, d, e] : List Int).sum + 1).fdiv 2 = (q : Int) := by
    rw [hsum, Int.fdiv_eq_ediv_of_nonneg _ (by decide)]; omega
  have hp : potOf [a, b, c, d, e] = q := by unfold potOf; rw [hfd]; rfl
  have hfi : (flagInts [a, b, c, d, e]).sum = (sumP (fun m => totOf [a, b, c, d, e] m - (potOf [a, b, c, d, e] : Int) == 0) 32 : Nat) := by
    unfold flagInts; exact sumP_eq _ 32
  have hff : flagsOf [a, b, c, d, e] = sumP (fun m => totOf [a, b, c, d, e] m - (potOf [a, b, c, d, e] : Int) == 0) 32 := by
    unfold flagsOf; rw [hfi]; rfl
  have hj : justOf [a, b, c, d, e] = (List.range 32).filter fun m => totOf [a, b, c, d, e] m == (potOf [a, b, c, d, e] : Int) := by
    unfold justOf
    rw [hff, sumP_bits]
    refine List.filter_congr fun m _ => ?_
    rw [Bool.eq_iff_iff, beq_iff_eq, beq_iff_eq]
    omega
  have hk := fun t (ht : t ∈ shL q) => kept_iff ha hb hc hd he hq hp hj ht
  have hE : decide (badOf [a, b, c, d, e] (beatenB [a, b, c, d, e]) = []) = !badF [a, b, c, d, e] := by
    have h1 : badOf [a, b, c, d, e] (beatenB [a, b, c, d, e]) = [] ↔ badF [a, b, c, d, e] = false := by
      rw [bad_nil]
      unfold badF
      rw [hp, ← shT_all q h7]
      constructor
      · intro h
        rw [Bool.eq_false_iff]
        intro q'
        obtain ⟨t, ht, e⟩ := List.any_eq_true.mp q'
        have := h t ht
        rw [hk t ht, e] at this
        cases this
      · intro h t ht
        rw [hk t ht]
        cases hb : ((!(winsB [a, b, c, d, e]).getD (lowOf [a, b, c, d, e] t).toNat false) == (beatenB [a, b, c, d, e]).getD (lowOf [a, b, c, d, e] t).toNat false) with
        | false => rfl
        | true =>
          have : badF [a, b, c, d, e] = true := by unfold badF; rw [hp, ← shT_all q h7]; exact List.any_eq_true.mpr ⟨t, ht, hb⟩
          unfold badF at this
          rw [hp, ← shT_all q h7] at this
          rw [this] at h; cases h
    cases hbf : badF [a, b, c, d, e] with
    | false => rw [decide_eq_true (h1.mpr hbf)]; rfl
    | true => rw [decide_eq_false fun z => by rw [h1.mp z] at hbf; cases hbf]; rfl
  refine ⟨rfl, by rw [hfd, hp], by rw [hp]; exact h7, by rw [hfi, hff], told_ok _ (by rw [hff]; exact sumP_lt _ 32), hj, fun t _ => low_range _ t, ?_, ?_⟩
  · rw [bad_nil, hp]
    intro t ht
    rw [hk t ht]
    cases (winsB [a, b, c, d, e]).getD (lowOf [a, b, c, d, e] t).toNat false <;> rfl
  · rw [hE]; exact hF

theorem good_at {a b c d e : Nat} (ha : a < 4) (hb : b < 3) (hc : c < 3) (hd : d < 3) (he : e < 3) (ho : (a + b + c + d + e) % 2 ≠ 0) : Good [(a : Int), (b : Int), (c : Int), (d : Int), (e : Int)] := by
  refine good_five (q := (a + b + c + d + e + 1) / 2) (by omega) (by omega) (by omega) (by omega) (by omega) (by omega) (by omega) ?_
  have h := gp_all a ha b hb
  unfold goodP at h
  have h := List.all_eq_true.mp h c (List.mem_range.mpr hc)
  have h := List.all_eq_true.mp h d (List.mem_range.mpr hd)
  have h := List.all_eq_true.mp h e (List.mem_range.mpr he)
  rcases Bool.or_eq_true_iff.mp h with q | q
  · exact absurd (beq_iff_eq.mp q) ho
  · exact q

theorem five {l : List Int} (h : l.length = 5) : ∃ a b c d e, l = [a, b, c, d, e] := by
  match l, h with
  | [a, b, c, d, e], _ => exact ⟨a, b, c, d, e, rfl⟩
theorem fmod3 (x : Int) : ∃ n : Nat, n < 3 ∧ x.fmod 3 = (n : Int) := by
  rw [Int.fmod_eq_emod_of_nonneg _ (by decide)]
  exact ⟨(x % 3).toNat, by omega, by omega⟩

theorem good_all (sc : List Int) : Good (weightsL sc) := by
  obtain ⟨a, b, c, d, e, hd⟩ := five (drawn_len sc (min sc.length 20))
  obtain ⟨a', ha, ea⟩ := fmod3 a
  obtain ⟨b', hb, eb⟩ := fmod3 b
  obtain ⟨c', hc, ec⟩ := fmod3 c
  obtain ⟨d', hd', ed⟩ := fmod3 d
  obtain ⟨e', he, ee⟩ := fmod3 e
  have hm : modsL sc = [(a' : Int), (b' : Int), (c' : Int), (d' : Int), (e' : Int)] := by
    unfold modsL
    rw [hd]
    simp only [List.map_cons, List.map_nil, ea, eb, ec, ed, ee]
  have hs : (modsL sc).sum = ((a' + b' + c' + d' + e' : Nat) : Int) := by
    rw [hm]; simp only [List.sum_cons, List.sum_nil]; omega
  unfold weightsL
  rw [hs, Int.fmod_eq_emod_of_nonneg _ (by decide)]
  split
  · rename_i h
    rw [hm]
    have e1 : ([(a' : Int), (b' : Int), (c' : Int), (d' : Int), (e' : Int)].set 0 ([(a' : Int), (b' : Int), (c' : Int), (d' : Int), (e' : Int)].getD 0 0 + 1)) = [((a' + 1 : Nat) : Int), (b' : Int), (c' : Int), (d' : Int), (e' : Int)] := rfl
    rw [e1]
    exact good_at (by omega) hb hc hd' he (by omega)
  · rename_i h
    rw [hm]
    exact good_at (by omega) hb hc hd' he (by omega)
end Mine

set_option maxRecDepth 100000 in
set_option maxHeartbeats 8000000 in
theorem PySem.Challenge.cw_wj0011_01_holds : PySem.Challenge.rw_wj0011_01.Holds := by
  exact Mine.hd (by
    k_go0
    refine Mine.law_join (by assumption) (by assumption) (by assumption) (by assumption) (by omega) (Mine.good_all _) (by assumption) (by assumption) (by assumption) rfl ?_
    intro h' tk' hk
    refine ⟨.inl ⟨_, .bool true, [], rfl, raisesW_false ?_, .bool true, ?_, unshared_nil⟩, hk, rfl, by assumption⟩
    · wrow_none_raised
    · wrow_post)
