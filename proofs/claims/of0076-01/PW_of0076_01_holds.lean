import PyProof.Rows.All
import Wide.All
import OpenK.AllK
import Wide.FinOn
import KE.KSortTup
import PySem.Challenge.RW_of0076_01
set_option Elab.async false
set_option linter.all false
namespace Mine
section
open PySem PySem.Calls PyProof.Rows
/-- from every state whose heap is h the tree ends normally; the heap and the toks alone may turn -/
def Rn {α : Type} (prog : Program) (w : World) (A : Around) (h : Heap) (t : Sem α) (P : α → Heap → Prop) : Prop :=
  ∀ (g : Array GenState) (d : Drawn) (tk : Nat) (os : OsState),
    wpAny (model prog w) A t (fun a s' => ∃ h' tk', s' = ⟨h', g, d, tk', os⟩ ∧ P a h') (fun _ _ => False) ⟨h, g, d, tk, os⟩
/-- the same, and the heap stays as it is -/
def Pv {α : Type} (prog : Program) (w : World) (A : Around) (h : Heap) (t : Sem α) (P : α → Prop) : Prop :=
  Rn prog w A h t (fun a h' => h' = h ∧ P a)
/-- room for k more levels -/
def Ok (k : Nat) (A : Around) : Prop := A.handled = none ∧ A.depth + k ≤ 900 ∧ A.units + 10 * k ≤ 9000
theorem Ok.le {j k : Nat} {A : Around} (H : Ok k A) (hj : j ≤ k) : Ok j A := ⟨H.1, by have := H.2.1; omega, by have := H.2.2; omega⟩
theorem Ok.in1 {k : Nat} {A : Around} (H : Ok (k + 1) A) : Ok k A.in1 := ⟨H.1, by have := H.2.1; show A.depth + k ≤ 900; omega, by have := H.2.2; show A.units + 1 + 10 * k ≤ 9000; omega⟩
theorem Ok.deeper {k : Nat} {A : Around} {env : Env} (H : Ok (k + 1) A) : Ok k (A.deeper env) := ⟨H.1, by have := H.2.1; show A.depth + 1 + k ≤ 900; omega, by have := H.2.2; show A.units + 3 + 10 * k ≤ 9000; omega⟩
theorem Ok.room {k : Nat} {A : Around} (H : Ok k A) : A.depth < recursionLimit := by have := H.2.1; show A.depth < 1000; omega
theorem Ok.croom {k : Nat} {A : Around} (H : Ok k A) : A.units < cLine := by have := H.2.2; show A.units < 9900; omega
section
variable {α β : Type} {prog : Program} {w : World} {A : Around} {h : Heap}
theorem Rn.of {t : Sem α} {P : α → Heap → Prop}
    (H : ∀ (s : Shared) (Q : α → Shared → Prop) (E : Value → Shared → Prop), s.heap = h → (∀ a h' tk', P a h' → Q a { s with heap := h', toks := tk' }) → wpAny (model prog w) A t Q E s) :
    Rn prog w A h t P := fun g d tk os => H ⟨h, g, d, tk, os⟩ _ _ rfl (fun _ h' tk' hp => ⟨h', tk', rfl, hp⟩)
theorem Rn.use {t : Sem α} {P : α → Heap → Prop} {s : Shared} {Q : α → Shared → Prop} {E : Value → Shared → Prop} (R : Rn prog w A s.heap t P)
    (k : ∀ a h' tk', P a h' → Q a { s with heap := h', toks := tk' }) : wpAny (model prog w) A t Q E s := by
  refine wpAny_mono (R s.gens s.drawn s.toks s.os) (fun a s' hs => ?_) (fun _ _ f => f.elim)
  obtain ⟨h', tk', rfl, hp⟩ := hs
  exact k a h' tk' hp
theorem Rn.mono {t : Sem α} {P Q : α → Heap → Prop} (R : Rn prog w A h t P) (k : ∀ a h', P a h' → Q a h') : Rn prog w A h t Q :=
  fun g d tk os => wpAny_mono (R g d tk os) (fun a _ hs => let ⟨h', tk', e, hp⟩ := hs; ⟨h', tk', e, k a h' hp⟩) (fun _ _ f => f)
theorem Rn.opq {t : Sem α} {Q : α → Heap → Prop} (H : ∀ P : α → Heap → Prop, (∀ v h', Q v h' → P v h') → Rn prog w A h t P) : Rn prog w A h t Q := H Q fun _ _ q => q
theorem Rn.pure {a : α} {P : α → Heap → Prop} (H : P a h) : Rn prog w A h (pure a) P := fun _ _ tk _ => wpAny_pure ⟨h, tk, rfl, H⟩
theorem Rn.bind {t : Sem α} {f : α → Sem β} {P : β → Heap → Prop} (R : Rn prog w A h t (fun a h' => Rn prog w A h' (f a) P)) : Rn prog w A h (t >>= f) P :=
  fun g d tk os => wpAny_bind (wpAny_mono (R g d tk os) (fun a _ hs => let ⟨_, tk', e, hp⟩ := hs; e ▸ hp g d tk' os) (fun _ _ f => f))
theorem Rn.holding {vs : List Value} {t : Sem α} {P : α → Heap → Prop} (R : Rn prog w A h t P) : Rn prog w A h (holding vs t) P := fun g d tk os => wpAny_holding (R g d tk os)
theorem Rn.keep {vs : List Value} {t : Sem α} {P : α → Heap → Prop} (R : Rn prog w A h t P) : Rn prog w A h (t.keep vs) P := fun g d tk os => Calls.wpAny_keep (R g d tk os)
theorem Rn.standAt {p : Pos} {P : Unit → Heap → Prop} (H : P () h) : Rn prog w A h (standAt p) P := fun _ _ tk _ => wpAny_standAt ⟨h, tk, rfl, H⟩
theorem Rn.point {P : Unit → Heap → Prop} (H : P () h) : Rn prog w A h point P := fun _ _ tk _ => wpAny_point ⟨h, tk, rfl, H⟩
theorem Rn.rule {x : String} {P : Unit → Heap → Prop} (H : P () h) : Rn prog w A h (rule x) P := fun _ _ tk _ => wpAny_rule ⟨h, tk, rfl, H⟩
theorem Rn.onRaise {t : Sem α} {k : Value → Sem Unit} {P : α → Heap → Prop} (R : Rn prog w A h t P) : Rn prog w A h (t.onRaise k) P :=
  fun g d tk os => wpAny_onRaise (wpAny_mono (R g d tk os) (fun _ _ q => q) (fun _ _ f => f.elim))
theorem Rn.attempt {t : Sem α} {P : Except Value α → Heap → Prop} (R : Rn prog w A h t (fun a h' => P (.ok a) h')) : Rn prog w A h t.attempt P :=
  fun g d tk os => wpAny_attempt (wpAny_mono (R g d tk os) (fun _ _ q => q) (fun _ _ f => f.elim))
theorem Rn.tryCatch {t : Sem α} {k : Value → Sem α} {P : α → Heap → Prop} (R : Rn prog w A h t P) : Rn prog w A h (MonadExcept.tryCatch t k) P :=
  fun g d tk os => wpAny_tryCatch (wpAny_mono (R g d tk os) (fun _ _ q => q) (fun _ _ f => f.elim))
theorem Rn.load {a : Addr} {o : Obj} {P : Obj → Heap → Prop} (ho : h.get? a = some o) (H : P o h) : Rn prog w A h (load a) P := fun _ _ tk _ => wpAny_load ho ⟨h, tk, rfl, H⟩
theorem Rn.eq {t t' : Sem α} {P : α → Heap → Prop} (e : t = t') (R : Rn prog w A h t' P) : Rn prog w A h t P := e ▸ R
theorem Rn.ite {c : Prop} [Decidable c] {a b : Sem α} {P : α → Heap → Prop} (ht : c → Rn prog w A h a P) (hf : ¬ c → Rn prog w A h b P) : Rn prog w A h (if c then a else b) P := by
  split
  · exact ht ‹_›
  · exact hf ‹_›
theorem Pv.then {t : Sem α} {P : α → Prop} {Q : α → Heap → Prop} (R : Pv prog w A h t P) (k : ∀ a, P a → Q a h) : Rn prog w A h t Q := R.mono fun a _ ⟨e, p⟩ => e ▸ k a p
theorem Pv.val {t : Sem α} {v : α} {Q : α → Heap → Prop} (R : Pv prog w A h t (· = v)) (k : Q v h) : Rn prog w A h t Q := R.mono fun a _ ⟨e, p⟩ => by subst e; subst p; exact k
theorem Pv.mono {t : Sem α} {P Q : α → Prop} (R : Pv prog w A h t P) (k : ∀ a, P a → Q a) : Pv prog w A h t Q := Rn.mono R fun a _ ⟨e, p⟩ => ⟨e, k a p⟩
theorem Pv.bind {t : Sem α} {f : α → Sem β} {P : α → Prop} {Q : β → Heap → Prop} (R : Pv prog w A h t P) (k : ∀ a, P a → Rn prog w A h (f a) Q) : Rn prog w A h (t >>= f) Q := Rn.bind (R.then k)
theorem Pv.pure {a : α} {P : α → Prop} (H : P a) : Pv prog w A h (pure a) P := Rn.pure ⟨rfl, H⟩
end
/-- an int, whatever its token -/
def IsI (i : Int) (v : Value) : Prop := ∃ t, v = .int i t
def IsS (x : Str) (v : Value) : Prop := ∃ t, v = .str x t
section
variable {prog : Program} {w : World} {A : Around} {h : Heap}
theorem Pv.thenI {t : Sem Value} {i : Int} {Q : Value → Heap → Prop} (R : Pv prog w A h t (IsI i)) (k : ∀ u, Q (.int i u) h) : Rn prog w A h t Q := R.then fun a ⟨u, e⟩ => by rw [e]; exact k u
theorem Pv.thenS {t : Sem Value} {x : Str} {Q : Value → Heap → Prop} (R : Pv prog w A h t (IsS x)) (k : ∀ u, Q (.str x u) h) : Rn prog w A h t Q := R.then fun a ⟨u, e⟩ => by rw [e]; exact k u
end
/-- what is known of the names of a frame -/
def Loc (h : Heap) (L : Addr) (l : List (Str × Value)) : Prop := ∃ m, h.Ns L m ∧ ∀ x v, l.lookup x = some v → m x = some v
theorem lookup_mem {x : Str} {v : Value} : ∀ {l : List (Str × Value)}, l.lookup x = some v → (x, v) ∈ l
  | [], e => by cases e
  | (y, u) :: r, e => by
    rw [List.lookup_cons] at e
    cases hq : x == y with
    | true => rw [hq] at e; cases e; rw [eq_of_beq hq]; exact .head _
    | false => rw [hq] at e; exact .tail _ (lookup_mem e)
theorem Loc.sub {h : Heap} {L : Addr} {l l' : List (Str × Value)} (H : Loc h L l) (hs : ∀ p ∈ l', l.lookup p.1 = some p.2) : Loc h L l' :=
  let ⟨m, hn, hm⟩ := H
  ⟨m, hn, fun x v e => hm x v (hs (x, v) (lookup_mem e))⟩
theorem Loc.lt {h : Heap} {L : Addr} {l : List (Str × Value)} (H : Loc h L l) : L < h.objs.size := let ⟨_, hn, _⟩ := H; hn.lt
theorem Loc.extBut {h h' : Heap} {L b : Addr} {l : List (Str × Value)} (H : Loc h L l) (hs : Heap.ExtBut b h h') (hb : L ≠ b) : Loc h' L l :=
  let ⟨m, hn, hm⟩ := H; ⟨m, hn.extBut hs hb, hm⟩
theorem Loc.keeps {h h' : Heap} {L : Addr} {l : List (Str × Value)} (H : Loc h L l) (hs : ∀ b o, h.get? b = some o → h'.get? b = some o) : Loc h' L l :=
  let ⟨m, hn, hm⟩ := H; ⟨m, hn.keeps hs, hm⟩
section
variable {prog : Program} {w : World} {A : Around} {h : Heap} {env : Env}
theorem Pv.name {x : Str} {pos : Pos} {v : Value} {l : List (Str × Value)} (H : Loc h env.locals l) (hv : l.lookup x = some v)
    (hk : env.scope.kind = .function := by rfl) (hl : env.kindOf x = some .local := by rfl) (hd : (x == ("__debug__" : Str)) = false := by decide) :
    Pv prog w A h (eval (.Name x pos) env) (· = v) := by
  obtain ⟨m, hn, hm⟩ := H
  exact Rn.of fun s Q E e k => wpAny_Name (wpAny_loadName_local hk hl (by rw [e]; exact hn) (hm x v hv) (by have := k v h s.toks ⟨rfl, rfl⟩; rw [← e] at this; exact this)) hd
theorem Rn.storeName {x : Str} {v : Value} {l : List (Str × Value)} {P : Unit → Heap → Prop} (H : Loc h env.locals l)
    (k : ∀ h', Loc h' env.locals ((x, v) :: l) → Heap.SameBut env.locals h h' → P () h')
    (hl : env.kindOf x = some .local := by rfl) (hk : env.scope.kind = .function := by rfl) : Rn prog w A h (storeName env x v) P := by
  obtain ⟨m, hn, hm⟩ := H
  have hp : (env.scope.kind == .class || (env.scope.kind == .module && env.locals != env.globals)) = false := by rw [hk]; rfl
  refine Rn.of fun s Q E e kk => wpAny_storeName_local hl (by rw [e]; exact hn) (fun h' hn' hs => kk () h' _ (k h' ⟨_, hn', fun y u hy => ?_⟩ (by rw [← e]; exact hs))) hp
  rw [List.lookup_cons] at hy
  by_cases q : y = x
  · subst q
    simp only [beq_self_eq_true] at hy
    simp only [if_true]; exact hy
  · have : (y == x) = false := by simpa using q
    rw [this] at hy
    simp only [q, if_false]; exact hm y u hy
theorem Rn.bindName {x : Str} {v : Value} {P : Unit → Heap → Prop} (R : Rn prog w A h (PySem.storeName env x v) P) : Rn prog w A h (bindName env x v) P :=
  fun g d tk os => wpAny_bindName (R g d tk os)
theorem Pv.int {i : Int} {k : Nat} {pos : Pos} : Pv prog w A h (eval (.Constant (.int i) k pos) env) (IsI i) :=
  Rn.of fun s _ _ e kk => wpAny_Constant_int (by have := kk (.int i s.toks) h (s.toks + 1) ⟨rfl, _, rfl⟩; rw [← e] at this; exact this)
theorem Pv.strC {x : Str} {k : Nat} {pos : Pos} : Pv prog w A h (eval (.Constant (.str x) k pos) env) (IsS x) :=
  Rn.of fun s _ _ e kk => wpAny_Constant_str (by have := kk (.str x s.toks) h (s.toks + 1) ⟨rfl, _, rfl⟩; rw [← e] at this; exact this)
theorem Pv.none {k : Nat} {pos : Pos} : Pv prog w A h (eval (.Constant .none k pos) env) (· = .none) :=
  Rn.of fun s _ _ e kk => wpAny_Constant_none (by have := kk .none h s.toks ⟨rfl, rfl⟩; rw [← e] at this; exact this)
theorem Pv.boolC {b : Bool} {k : Nat} {pos : Pos} : Pv prog w A h (eval (.Constant (.bool b) k pos) env) (· = .bool b) :=
  Rn.of fun s _ _ e kk => wpAny_Constant_bool (by have := kk (.bool b) h s.toks ⟨rfl, rfl⟩; rw [← e] at this; exact this)
theorem Rn.nil {P : Flow → Heap → Prop} (H : P .next h) : Rn prog w A h (execs [] env) P := Rn.pure H
theorem Rn.cons {st : Stmt} {rest : List Stmt} {P : Flow → Heap → Prop}
    (R : Rn prog w A h (exec st env) (fun f h' => match f with | .next => Rn prog w A h' (execs rest env) P | f => P f h')) : Rn prog w A h (execs (st :: rest) env) P := by
  refine Rn.eq (execs_cons env st rest) (Rn.bind (R.mono fun f h' q => ?_))
  cases f <;> first | exact q | exact Rn.pure q
/-- a statement that goes on to the next one -/
theorem Rn.seq {st : Stmt} {rest : List Stmt} {P : Flow → Heap → Prop} {I : Heap → Prop}
    (R : Rn prog w A h (exec st env) (fun f h' => f = .next ∧ I h')) (k : ∀ h', I h' → Rn prog w A h' (execs rest env) P) : Rn prog w A h (execs (st :: rest) env) P :=
  Rn.cons (R.mono fun f h' ⟨e, q⟩ => by subst e; exact k h' q)
theorem Rn.binOp {l r : Expr} {op : Operator} {pos : Pos} {P : Value → Heap → Prop}
    (R : Rn prog w A h (eval l env) (fun a h₁ => Rn prog w A h₁ (eval r env) (fun b h₂ => Rn prog w A h₂ (binaryOp op a b) P))) : Rn prog w A h (eval (.BinOp l op r pos) env) P := by
  refine Rn.of fun s Q E e kk => wpAny_BinOp ?_
  subst e
  exact R.use fun a h₁ tk₁ q₁ => Rn.use (s := { s with heap := h₁, toks := tk₁ }) q₁ fun b h₂ tk₂ q₂ => Rn.use (s := { s with heap := h₂, toks := tk₂ }) q₂ fun v h₃ tk₃ q₃ => kk v h₃ tk₃ q₃
theorem Rn.compare {l r : Expr} {op : CmpOp} {pos : Pos} {P : Value → Heap → Prop}
    (R : Rn prog w A h (eval l env) (fun a h₁ => Rn prog w A h₁ (eval r env) (fun b h₂ => Rn prog w A h₂ (compareOp op a b) P)))
    (hm : behindInMarks op r = false := by with_unfolding_all rfl) : Rn prog w A h (eval (.Compare l [op] [r] pos) env) P := by
  refine Rn.of fun s Q E e kk => wpAny_Compare1 ?_ hm
  subst e
  exact R.use fun a h₁ tk₁ q₁ => Rn.use (s := { s with heap := h₁, toks := tk₁ }) q₁ fun b h₂ tk₂ q₂ => Rn.use (s := { s with heap := h₂, toks := tk₂ }) q₂ fun v h₃ tk₃ q₃ => kk v h₃ tk₃ q₃
theorem Rn.testCmp {l r : Expr} {op : CmpOp} {pos : Pos} {whole : Sem Value} {P : Bool → Heap → Prop}
    (R : Rn prog w A h (eval l env) (fun a h₁ => Rn prog w A h₁ (eval r env) (fun b h₂ => Rn prog w A h₂ (compareOp op a b) (fun c h₃ => Rn prog w A h₃ (truthy c) P))))
    (hm : behindInMarks op r = false := by with_unfolding_all rfl) : Rn prog w A h (isTrue (.Compare l [op] [r] pos) env whole) P := by
  refine Rn.of fun s Q E e kk => wpAny_isTrue_Compare1 ?_ hm
  subst e
  exact R.use fun a h₁ tk₁ q₁ => Rn.use (s := { s with heap := h₁, toks := tk₁ }) q₁ fun b h₂ tk₂ q₂ => Rn.use (s := { s with heap := h₂, toks := tk₂ }) q₂ fun v h₃ tk₃ q₃ => Rn.use (s := { s with heap := h₃, toks := tk₃ }) q₃ fun c h₄ tk₄ q₄ => kk c h₄ tk₄ q₄
theorem Rn.truthyB {b : Bool} {P : Bool → Heap → Prop} (H : P b h) : Rn prog w A h (truthy (.bool b)) P := fun _ _ tk _ => wpAny_truthy_bool ⟨h, tk, rfl, H⟩
theorem Rn.ifS {test : Expr} {body orelse : List Stmt} {pos : Pos} {P : Flow → Heap → Prop}
    (R : Rn prog w A h (isTrue test env (eval test env)) (fun b h₁ => if b = true then Rn prog w A h₁ (execs body env) P else Rn prog w A h₁ (execs orelse env) P)) : Rn prog w A h (exec (.If test body orelse pos) env) P := by
  refine Rn.of fun s Q E e kk => wpAny_If ?_
  subst e
  refine R.use fun b h₁ tk₁ q₁ => ?_
  cases b
  · exact Rn.use (s := { s with heap := h₁, toks := tk₁ }) (by simpa using q₁) fun v h₃ tk₃ q₃ => kk v h₃ tk₃ q₃
  · exact Rn.use (s := { s with heap := h₁, toks := tk₁ }) (by simpa using q₁) fun v h₃ tk₃ q₃ => kk v h₃ tk₃ q₃
theorem Rn.assignName {x : Str} {p pos : Pos} {value : Expr} {P : Flow → Heap → Prop}
    (R : Rn prog w A h (eval value env) (fun v h₁ => Rn prog w A h₁ (PySem.storeName env x v) (fun _ h₂ => P .next h₂)))
    (hs : swapsWith value (some (.Name x p)) pos.line env = Pure.pure false := by rfl) : Rn prog w A h (exec (.Assign [.Name x p] value pos) env) P := by
  refine Rn.of fun s Q E e kk => wpAny_Assign_Name ?_ hs
  subst e
  exact R.use fun v h₁ tk₁ q₁ => Rn.use (s := { s with heap := h₁, toks := tk₁ }) q₁ fun u h₃ tk₃ q₃ => kk _ h₃ tk₃ q₃
theorem Rn.assignSub {o i : Expr} {p pos : Pos} {value : Expr} {P : Flow → Heap → Prop}
    (R : Rn prog w A h (eval value env) (fun v h₁ => Rn prog w A h₁ (eval o env) (fun ov h₂ => Rn prog w A h₂ (eval i env) (fun iv h₃ => Rn prog w A h₃ (setItem ov iv v) (fun _ h₄ => P .next h₄)))))
    (hs : swapsWith value (some (.Subscript o i p)) pos.line env = Pure.pure false := by rfl) : Rn prog w A h (exec (.Assign [.Subscript o i p] value pos) env) P := by
  refine Rn.of fun s Q E e kk => wpAny_Assign_Subscript ?_ hs
  subst e
  exact R.use fun v h₁ tk₁ q₁ => Rn.use (s := { s with heap := h₁, toks := tk₁ }) q₁ fun ov h₂ tk₂ q₂ => Rn.use (s := { s with heap := h₂, toks := tk₂ }) q₂ fun iv h₃ tk₃ q₃ => Rn.use (s := { s with heap := h₃, toks := tk₃ }) q₃ fun u h₄ tk₄ q₄ => kk _ h₄ tk₄ q₄
theorem Rn.augName {x : Str} {p pos : Pos} {op : Operator} {value : Expr} {P : Flow → Heap → Prop}
    (R : Rn prog w A h (loadName env x) (fun old h₁ => Rn prog w A h₁ (eval value env) (fun v h₂ => Rn prog w A h₂ (inplaceOp op old v) (fun r h₃ => Rn prog w A h₃ (PySem.storeName env x r) (fun _ h₄ => P .next h₄))))) :
    Rn prog w A h (exec (.AugAssign (.Name x p) op value pos) env) P := by
  refine Rn.of fun s Q E e kk => wpAny_AugAssign_Name ?_
  subst e
  exact R.use fun v h₁ tk₁ q₁ => Rn.use (s := { s with heap := h₁, toks := tk₁ }) q₁ fun ov h₂ tk₂ q₂ => Rn.use (s := { s with heap := h₂, toks := tk₂ }) q₂ fun iv h₃ tk₃ q₃ => Rn.use (s := { s with heap := h₃, toks := tk₃ }) q₃ fun u h₄ tk₄ q₄ => kk _ h₄ tk₄ q₄
theorem Rn.ret {e : Expr} {pos : Pos} {P : Flow → Heap → Prop} (R : Rn prog w A h (eval e env) (fun v h₁ => P (.ret v) h₁)) : Rn prog w A h (exec (.Return (some e) pos) env) P := by
  refine Rn.of fun s Q E e kk => wpAny_Return_some ?_
  subst e
  exact R.use fun v h₁ tk₁ q₁ => kk _ h₁ tk₁ q₁
theorem Rn.brk {pos : Pos} {P : Flow → Heap → Prop} (H : P .brk h) : Rn prog w A h (exec (.Break pos) env) P := fun _ _ tk _ => wpAny_Break ⟨h, tk, rfl, H⟩
theorem Rn.cont {pos : Pos} {P : Flow → Heap → Prop} (H : P .cont h) : Rn prog w A h (exec (.Continue pos) env) P := fun _ _ tk _ => wpAny_Continue ⟨h, tk, rfl, H⟩
theorem Rn.pass {pos : Pos} {P : Flow → Heap → Prop} (H : P .next h) : Rn prog w A h (exec (.Pass pos) env) P := fun _ _ tk _ => wpAny_Pass ⟨h, tk, rfl, H⟩
end
end
section
open PySem PySem.Calls PySem.W PyProof.Rows
set_option maxRecDepth 100000
/-- the parameters, the body and the scope of the n-th statement of the text, a def -/
def dAt (n : Nat) : Arguments × List Stmt × Scope := match PySem.Challenge.pw_of0076_01.main.body[n]? with
  | some (.FunctionDef _ a b _ _ _ sc _ _ _) => (a, b, sc)
  | _ => (⟨[], [], none, [], [], none, []⟩, [], { kind := .function, names := [], isGenerator := false, isCoroutine := false })
def pA (n : Nat) : Arguments := (dAt n).1
def bA (n : Nat) : List Stmt := (dAt n).2.1
def sA (n : Nat) : Scope := (dAt n).2.2
/-- the def of the text's n-th statement lies at a -/
def FnAt (h : Heap) (a : Addr) (n : Nat) (dV : Value) : Prop :=
  ∃ o name qual doc pm an cdv ct, h.get? a = some o ∧ o.data = .func (fnX name qual (pA n) (bA n) (sA n) [] dV .none doc pm an cdv ct) ∧ h.CodeRec cdv qual
def Kp (h h' : Heap) : Prop := ∀ b o, h.get? b = some o → h'.get? b = some o
theorem Kp.refl (h : Heap) : Kp h h := fun _ _ e => e
theorem Kp.trans {a b c : Heap} (x : Kp a b) (y : Kp b c) : Kp a c := fun _ _ e => y _ _ (x _ _ e)
theorem Kp.size {h h' : Heap} (k : Kp h h') : True := trivial
theorem FnAt.keeps {h h' : Heap} {a : Addr} {n : Nat} {dV : Value} (F : FnAt h a n dV) (k : Kp h h') : FnAt h' a n dV :=
  let ⟨o, name, qual, doc, pm, an, cdv, ct, ho, hd, hc⟩ := F
  ⟨o, name, qual, doc, pm, an, cdv, ct, k _ _ ho, hd, hc.keeps k⟩
/-- a list of the heap, bare -/
def Lst (h : Heap) (l : Addr) (vs : List Value) : Prop := ∃ n, h.get? l = some ⟨.type "list", none, .seq vs.toArray n, #[]⟩
theorem Lst.isList {h : Heap} {l : Addr} {vs : List Value} (H : Lst h l vs) : h.IsList l vs.toArray := let ⟨n, e⟩ := H; ⟨_, e, rfl, n, rfl⟩
theorem Lst.lt {h : Heap} {l : Addr} {vs : List Value} (H : Lst h l vs) : l < h.objs.size := let ⟨_, e⟩ := H; Heap.lt_size e
theorem Lst.keeps {h h' : Heap} {l : Addr} {vs : List Value} (H : Lst h l vs) (k : Kp h h') : Lst h' l vs := let ⟨n, e⟩ := H; ⟨n, k _ _ e⟩
theorem Lst.ext {h h' : Heap} {l b : Addr} {vs : List Value} (H : Lst h l vs) (k : Heap.ExtBut b h h') (hb : l ≠ b) : Lst h' l vs := let ⟨n, e⟩ := H; ⟨n, k _ _ hb e⟩
theorem Lst.inj {h : Heap} {l : Addr} {vs us : List Value} (H : Lst h l vs) (H' : Lst h l us) : vs = us := by
  obtain ⟨n, e⟩ := H
  obtain ⟨m, e'⟩ := H'
  rw [e] at e'
  injection e' with e'
  injection e' with _ _ e' _
  injection e' with e' _
  exact List.toArray_inj e'
/-- a tuple of the heap -/
def Tup (h : Heap) (a : Addr) (vs : List Value) : Prop := IsTup h a vs.toArray
theorem Tup.keeps {h h' : Heap} {l : Addr} {vs : List Value} (H : Tup h l vs) (k : Kp h h') : Tup h' l vs := let ⟨o, e, r⟩ := H; ⟨o, k _ _ e, r⟩
theorem Tup.ext {h h' : Heap} {l b : Addr} {vs us : List Value} (H : Tup h l vs) (k : Heap.ExtBut b h h') (hb : Lst h b us) : Tup h' l vs := by
  obtain ⟨o, e, hc, r⟩ := H
  obtain ⟨n, e'⟩ := hb
  refine ⟨o, k _ _ (fun q => ?_) e, hc, r⟩
  subst q
  rw [e'] at e
  injection e with e
  subst e
  injection hc with hc
  exact absurd hc (by decide)
/-- a frame's state: its names at L; what stood at the entry stands, but for X -/
structure St (h₀ : Heap) (X : Addr → Prop) (L : Addr) (h : Heap) (ls : List (Str × Value)) : Prop where
  loc : Loc h L ls
  ext : ∀ b o, ¬ X b → h₀.get? b = some o → h.get? b = some o
  new : h₀.objs.size ≤ L
theorem St.sub {h₀ : Heap} {X : Addr → Prop} {L : Addr} {h : Heap} {l l' : List (Str × Value)} (H : St h₀ X L h l) (hs : ∀ p ∈ l', l.lookup p.1 = some p.2) : St h₀ X L h l' := ⟨H.loc.sub hs, H.ext, H.new⟩
theorem St.weak {h₀ : Heap} {X Y : Addr → Prop} {L : Addr} {h : Heap} {l : List (Str × Value)} (H : St h₀ X L h l) (hs : ∀ b, X b → Y b) : St h₀ Y L h l := ⟨H.loc, fun b o hb e => H.ext b o (fun q => hb (hs b q)) e, H.new⟩
theorem St.ne {h₀ : Heap} {X : Addr → Prop} {L : Addr} {h : Heap} {l : List (Str × Value)} (H : St h₀ X L h l) {b : Addr} {o : Obj} (e : h₀.get? b = some o) : b ≠ L := Nat.ne_of_lt (Nat.lt_of_lt_of_le (Heap.lt_size e) H.new)
/-- an object other than the frame turns -/
theorem St.other {h₀ : Heap} {X : Addr → Prop} {L b : Addr} {h h' : Heap} {l : List (Str × Value)} (H : St h₀ X L h l) (hs : Heap.ExtBut b h h') (hb : L ≠ b) (hX : X b ∨ h₀.get? b = none) : St h₀ X L h' l :=
  ⟨H.loc.extBut hs hb, fun c o hc e => hs c o (fun q => by subst q; rcases hX with q | q; exact hc q; rw [q] at e; cases e) (H.ext c o hc e), H.new⟩
theorem St.keeps {h₀ : Heap} {X : Addr → Prop} {L : Addr} {h h' : Heap} {l : List (Str × Value)} (H : St h₀ X L h l) (hs : Kp h h') : St h₀ X L h' l :=
  ⟨H.loc.keeps hs, fun c o hc e => hs c o (H.ext c o hc e), H.new⟩
theorem St.kp {h₀ : Heap} {L : Addr} {h : Heap} {l : List (Str × Value)} (H : St h₀ (fun _ => False) L h l) : Kp h₀ h := fun b o e => H.ext b o id e
section
variable {prog : Program} {w : World} {A : Around} {h : Heap} {env : Env}
theorem Pv.nameS {x : Str} {pos : Pos} {v : Value} {h₀ : Heap} {X : Addr → Prop} {l : List (Str × Value)} (H : St h₀ X env.locals h l) (hv : l.lookup x = some v)
    (hk : env.scope.kind = .function := by rfl) (hl : env.kindOf x = some .local := by rfl) (hd : (x == ("__debug__" : Str)) = false := by decide) :
    Pv prog w A h (eval (.Name x pos) env) (· = v) := Pv.name H.loc hv hk hl hd
theorem Rn.storeS {x : Str} {v : Value} {h₀ : Heap} {X : Addr → Prop} {l : List (Str × Value)} {P : Unit → Heap → Prop} (H : St h₀ X env.locals h l)
    (k : ∀ h', St h₀ X env.locals h' ((x, v) :: l) → Heap.SameBut env.locals h h' → P () h')
    (hl : env.kindOf x = some .local := by rfl) (hk : env.scope.kind = .function := by rfl) : Rn prog w A h (PySem.storeName env x v) P :=
  Rn.storeName (env := env) H.loc (fun h' hL hs => k h' ⟨hL, fun b o hb e => (hs.2 b (H.ne e)).trans (H.ext b o hb e), H.new⟩ hs) hl hk
end
section
variable {prog : Program} {w : World} {A : Around} {h : Heap} {env : Env}
theorem Rn.callDef {k : Nat} {a : Addr} {n : Nat} {dV : Value} {vals : List Value} {kw : List (Str × Value)} {binds : List (Str × Value)} {P : Value → Heap → Prop}
    (hA : Ok (k + 1) A) (F : FnAt h a n dV) (hlim : h.NoLimit)
    (hb : ∀ (s : Shared) (name qual : Str) (doc pm : Value) (an : Option Addr) (cdv ct : Value), s.heap = h → BindsTo s (fnX name qual (pA n) (bA n) (sA n) [] dV .none doc pm an cdv ct) ⟨vals, kw⟩ binds)
    (body : ∀ (qual : Str) (cdv : Value) (L : Addr) (h₁ : Heap), St h (fun _ => False) L h₁ binds.reverse → Ok k (A.deeper (envX qual (sA n) L a cdv [])) →
      Rn prog w (A.deeper (envX qual (sA n) L a cdv [])) h₁ (execs (bA n) (envX qual (sA n) L a cdv [])) (fun fl h' => P (match fl with | .ret v => v | _ => .none) h'))
    (hcell : ∀ x ∈ (sA n).names, x.2 ≠ .cell := by decide) (hloc : ∀ x ∈ binds, (sA n).names.lookup x.1 = some .local := by intro x hx; simp only [List.mem_cons, List.not_mem_nil, or_false] at hx; rcases hx with rfl | rfl | rfl | rfl <;> rfl)
    (hco : (sA n).isCoroutine = false := by rfl) (hgen : (sA n).isGenerator = false := by rfl) (hk : (sA n).kind = .function := by rfl) :
    Rn prog w A h (call (.ref a) vals kw) P := by
  obtain ⟨o, name, qual, doc, pm, an, cdv, ct, ho, hd, hc⟩ := F
  refine Rn.of fun s Q E e kk => wpAny_call ?_
  subst e
  refine codeAny_call_def hA.room ho hd hlim hc rfl (hb s _ _ _ _ _ _ _ rfl) hcell hloc (fun h₁ hns hk₁ => ?_) hco hgen hk
  exact Rn.use (s := { s with heap := h₁, toks := s.toks + binds.length }) (body qual cdv _ h₁ ⟨⟨_, hns, fun x v e => e⟩, fun b o _ e => hk₁ b o e, Nat.le_refl _⟩ hA.deeper) fun fl h' tk' q => kk _ h' tk' q
theorem Rn.whileS {test : Expr} {body : List Stmt} {pos : Pos} {P : Flow → Heap → Prop} (I : Nat → Heap → Prop)
    (turn : ∀ n h, I n h → Rn prog w A h (isTrue test env (eval test env)) (fun b h₂ => if b = true then Rn prog w A h₂ (execs body env) (fun f h₃ => match f with
      | .next | .cont => ∃ m, m < n ∧ I m h₃
      | .brk => P .next h₃
      | .ret v => P (.ret v) h₃) else P .next h₂)) (n : Nat) (H : I n h) : Rn prog w A h (exec (.While test body [] pos) env) P := by
  intro g d tk os
  refine wpAny_While ?_
  refine codeAny_whileLoop (fun n s => ∃ h' tk', s = ⟨h', g, d, tk', os⟩ ∧ I n h') ?_ n ⟨h, tk, rfl, H⟩
  rintro n s ⟨h', tk', rfl, hI⟩
  refine wpAny_mono ((turn n h' hI) g d tk' os) (fun b s₂ q => ?_) (fun _ _ f => f.elim)
  obtain ⟨h₂, tk₂, rfl, q⟩ := q
  cases b with
  | false => exact wpAny_execs_nil ⟨h₂, tk₂, rfl, q⟩
  | true =>
    refine wpAny_mono (q g d tk₂ os) (fun f s₃ r => ?_) (fun _ _ f => f.elim)
    obtain ⟨h₃, tk₃, rfl, r⟩ := r
    cases f with
    | next => obtain ⟨m, hm, hI⟩ := r; exact ⟨m, hm, h₃, tk₃, rfl, hI⟩
    | cont => obtain ⟨m, hm, hI⟩ := r; exact ⟨m, hm, h₃, tk₃, rfl, hI⟩
    | brk => exact ⟨h₃, tk₃, rfl, r⟩
    | ret v => exact ⟨h₃, tk₃, rfl, r⟩
theorem Rn.forLoop {target : Expr} {it : Value} {body orelse : List Stmt} {P : Flow → Heap → Prop} (I : Nat → Heap → Prop)
    (turn : ∀ n h, I n h → Rn prog w A h (pyNext it) (fun r h₁ => match r with
      | none => Rn prog w A h₁ (execs orelse env) P
      | some v => Rn prog w A h₁ (assign target env v) (fun _ h₂ => Rn prog w A h₂ (execs body env) (fun f h₃ => match f with
        | .next | .cont => ∃ m, m < n ∧ I m h₃
        | .brk => P .next h₃
        | .ret v => P (.ret v) h₃)))) (n : Nat) (H : I n h) (ht : ∀ v, letOwnedTupleGo target it v = Pure.pure ()) :
    Rn prog w A h (runOwn (.forLoop target it body orelse env) env) P := by
  intro g d tk os
  refine wpAny_runOwn ?_
  refine codeAny_forLoop (fun n s => ∃ h' tk', s = ⟨h', g, d, tk', os⟩ ∧ I n h') ?_ n ⟨h, tk, rfl, H⟩ ht
  rintro n s ⟨h', tk', rfl, hI⟩
  refine wpAny_mono ((turn n h' hI) g d tk' os) (fun r s₁ q => ?_) (fun _ _ f => f.elim)
  obtain ⟨h₁, tk₁, rfl, q⟩ := q
  cases r with
  | none =>
    refine wpAny_mono (q g d tk₁ os) (fun f s₃ r => ?_) (fun _ _ f => f.elim)
    obtain ⟨h₃, tk₃, rfl, r⟩ := r
    exact ⟨h₃, tk₃, rfl, r⟩
  | some v =>
    refine wpAny_mono (q g d tk₁ os) (fun _ s₂ q => ?_) (fun _ _ f => f.elim)
    obtain ⟨h₂, tk₂, rfl, q⟩ := q
    refine wpAny_mono (q g d tk₂ os) (fun f s₃ r => ?_) (fun _ _ f => f.elim)
    obtain ⟨h₃, tk₃, rfl, r⟩ := r
    cases f with
    | next => obtain ⟨m, hm, hI⟩ := r; exact ⟨m, hm, h₃, tk₃, rfl, hI⟩
    | cont => obtain ⟨m, hm, hI⟩ := r; exact ⟨m, hm, h₃, tk₃, rfl, hI⟩
    | brk => exact ⟨h₃, tk₃, rfl, r⟩
    | ret v => exact ⟨h₃, tk₃, rfl, r⟩
theorem Rn.forS {target iter : Expr} {body orelse : List Stmt} {pos : Pos} {P : Flow → Heap → Prop}
    (R : Rn prog w A h (eval iter env) (fun x h₁ => Rn prog w A h₁ (pyIter x) (fun it h₂ => Rn prog w A h₂ (runOwn (.forLoop target it body orelse env) env) P)))
    (hs : ∀ x, foldedSetIterable iter env x = Pure.pure x := by intro _; rfl) : Rn prog w A h (exec (.For target iter body orelse pos) env) P := by
  refine Rn.eq (PySem.exec_For target iter body orelse pos) ?_
  exact Rn.bind (Rn.standAt (Rn.bind (R.mono fun x h₁ q => Rn.bind (Rn.eq (hs x) (Rn.pure (Rn.bind (Rn.standAt (Rn.bind (Rn.holding q)))))))))
theorem Rn.subscript {value slice : Expr} {pos : Pos} {P : Value → Heap → Prop}
    (R : Rn prog w A h (eval value env) (fun o h₁ => Rn prog w A h₁ (eval slice env) (fun i h₂ => Rn prog w A h₂ (subscriptTail value slice o i) P))) : Rn prog w A h (eval (.Subscript value slice pos) env) P := by
  refine Rn.of fun s Q E e kk => Subscript_ ?_
  subst e
  exact R.use fun a h₁ tk₁ q₁ => Rn.use (s := { s with heap := h₁, toks := tk₁ }) q₁ fun b h₂ tk₂ q₂ => Rn.use (s := { s with heap := h₂, toks := tk₂ }) q₂ fun v h₃ tk₃ q₃ => kk v h₃ tk₃ q₃
theorem Pv.itemList {value slice : Expr} {l : Addr} {vs : List Value} {k : Int} {t : Tok} {x : Value} (H : Lst h l vs) (h0 : 0 ≤ k) (hfit : k < 2 ^ 63) (hx : vs[k.toNat]? = some x)
    (hs : subscripted slice false (.ref l) (.int k t) = operate [.ref l, .int k t] (getItem (.ref l) (.int k t)) := by with_unfolding_all rfl) :
    Pv prog w A h (subscriptTail value slice (.ref l) (.int k t)) (· = x) :=
  Rn.of fun s Q E e kk => by
    subst e
    exact tail_any H.isList.typeIs slot_list_getitem.lookup (wpAny_getItem_list H.isList h0 hfit (by simpa using hx) (kk x _ s.toks ⟨rfl, rfl⟩)) hs
theorem Pv.itemTup {value slice : Expr} {l : Addr} {vs : List Value} {k : Int} {t : Tok} {j : Nat} {x : Value} (H : Tup h l vs) (hlo : -(2 ^ 63) ≤ k) (hfit : k < 2 ^ 63) (hj : seqIndex? k vs.length = some j) (hx : vs[j]? = some x)
    (hs : subscripted slice false (.ref l) (.int k t) = operate [.ref l, .int k t] (getItem (.ref l) (.int k t)) := by with_unfolding_all rfl) :
    Pv prog w A h (subscriptTail value slice (.ref l) (.int k t)) (· = x) :=
  Rn.of fun s Q E e kk => by
    subst e
    exact item_tupleT H hlo hfit hj hx (kk x _ s.toks ⟨rfl, rfl⟩) hs
theorem Rn.setList {l : Addr} {vs : List Value} {k : Int} {t : Tok} {v : Value} {P : Unit → Heap → Prop} (H : Lst h l vs) (h0 : 0 ≤ k) (hfit : k < 2 ^ 63) (hn : k < vs.length)
    (kk : ∀ h', Lst h' l (vs.set k.toNat v) → Heap.SameBut l h h' → P () h') : Rn prog w A h (setItem (.ref l) (.int k t) v) P := by
  obtain ⟨n, e⟩ := H
  refine Rn.of fun s Q E es k2 => ?_
  subst es
  refine ki_setAt (n := n) e h0 hfit (by simpa using hn) (k2 () _ s.toks (kk _ ⟨n, ?_⟩ (Heap.SameBut.update ..)))
  have q := PySem.IsL.update (n := n) e (fun x => x.setIfInBounds k.toNat v)
  simpa using q
section
variable {a b : Int} {t u : Tok}
theorem Pv.addI : Pv prog w A h (binaryOp .Add (.int a t) (.int b u)) (IsI (a + b)) := Rn.of fun s _ _ e kk => by subst e; exact P.add_int (kk _ _ _ ⟨rfl, _, rfl⟩)
theorem Pv.subI : Pv prog w A h (binaryOp .Sub (.int a t) (.int b u)) (IsI (a - b)) := Rn.of fun s _ _ e kk => by subst e; exact P.sub_int (kk _ _ _ ⟨rfl, _, rfl⟩)
theorem Pv.mulI (hm : IntMulOk a b) : Pv prog w A h (binaryOp .Mult (.int a t) (.int b u)) (IsI (a * b)) := Rn.of fun s _ _ e kk => by subst e; exact P.mul_int (kk _ _ _ ⟨rfl, _, rfl⟩) hm
theorem Pv.shrI (hn : 0 ≤ b) : Pv prog w A h (binaryOp .RShift (.int a t) (.int b u)) (IsI (a.fdiv (2 ^ b.toNat))) := Rn.of fun s _ _ e kk => by subst e; exact rshift_int hn (kk _ _ _ ⟨rfl, _, rfl⟩)
theorem Pv.divI (hb : b ≠ 0) (hp : Builtin.divisionGoesByPylong a b = false) : Pv prog w A h (binaryOp .FloorDiv (.int a t) (.int b u)) (IsI (a.fdiv b)) := Rn.of fun s _ _ e kk => by subst e; exact floordiv_int hb (kk _ _ _ ⟨rfl, _, rfl⟩) (.inl hp)
theorem Pv.modI (hb : b ≠ 0) : Pv prog w A h (binaryOp .Mod (.int a t) (.int b u)) (IsI (a.fmod b)) := Rn.of fun s _ _ e kk => by subst e; exact mod_int' hb (kk _ _ _ ⟨rfl, _, rfl⟩)
theorem Pv.andI : Pv prog w A h (binaryOp .BitAnd (.int a t) (.int b u)) (IsI (Builtin.bitAnd a b)) := Rn.of fun s _ _ e kk => by subst e; exact and_int (kk _ _ _ ⟨rfl, _, rfl⟩)
theorem Pv.negI : Pv prog w A h (unaryOp .USub (.int a t)) (IsI (-a)) := Rn.of fun s _ _ e kk => by subst e; exact P.neg_int (kk _ _ _ ⟨rfl, _, rfl⟩)
theorem Pv.iaddI : Pv prog w A h (inplaceOp .Add (.int a t) (.int b u)) (IsI (a + b)) := Rn.of fun s _ _ e kk => by subst e; exact P.iadd_int (kk _ _ _ ⟨rfl, _, rfl⟩)
theorem Pv.isubI : Pv prog w A h (inplaceOp .Sub (.int a t) (.int b u)) (IsI (a - b)) := Rn.of fun s _ _ e kk => by subst e; exact P.isub_int (kk _ _ _ ⟨rfl, _, rfl⟩)
theorem Pv.ltI : Pv prog w A h (compareOp .Lt (.int a t) (.int b u)) (· = .bool (decide (a < b))) := Rn.of fun s _ _ e kk => by subst e; exact P.lt_int (kk _ _ s.toks ⟨rfl, rfl⟩)
theorem Pv.gtI : Pv prog w A h (compareOp .Gt (.int a t) (.int b u)) (· = .bool (decide (a > b))) := Rn.of fun s _ _ e kk => by subst e; exact P.gt_int (kk _ _ s.toks ⟨rfl, rfl⟩)
theorem Pv.geI : Pv prog w A h (compareOp .GtE (.int a t) (.int b u)) (· = .bool (decide (a ≥ b))) := Rn.of fun s _ _ e kk => by subst e; exact P.ge_int (kk _ _ s.toks ⟨rfl, rfl⟩)
theorem Pv.eqI : Pv prog w A h (compareOp .Eq (.int a t) (.int b u)) (· = .bool (a == b)) := Rn.of fun s _ _ e kk => by subst e; exact P.eq_int (kk _ _ s.toks ⟨rfl, rfl⟩)
theorem Pv.neI : Pv prog w A h (compareOp .NotEq (.int a t) (.int b u)) (· = .bool (a != b)) := Rn.of fun s _ _ e kk => by subst e; exact P.ne_int (kk _ _ s.toks ⟨rfl, rfl⟩)
end
end
end
section
open PySem PySem.Calls PySem.W PyProof.Rows
set_option maxRecDepth 100000
set_option autoImplicit false
set_option linter.unusedVariables false
def gTab : List (Str × Value) := [("heapreplace", .ref 21), ("heapify", .ref 28), ("_heapreplace_max", .ref 35), ("_heapify_max", .ref 42), ("_siftdown", .ref 49), ("_siftup", .ref 56), ("_siftdown_max", .ref 63), ("_siftup_max", .ref 70),
  ("nsmallest", .ref 76), ("nlargest", .ref 82), ("S_IMODE", .ref 89), ("S_IFMT", .ref 96), ("S_ISDIR", .ref 103), ("S_ISCHR", .ref 110), ("S_ISBLK", .ref 117), ("S_ISREG", .ref 124), ("S_ISFIFO", .ref 131), ("S_ISLNK", .ref 138), ("S_ISSOCK", .ref 145),
  ("_filemode_table", .ref 178), ("filemode", .ref 185), ("_law_text", .ref 192), ("_law_key", .ref 199), ("_law_ahead", .ref 206), ("_law_order", .ref 211), ("_law_passed", .ref 218)]
def iTab : List (Str × Int) := [("S_IFDIR", 16384), ("S_IFCHR", 8192), ("S_IFBLK", 24576), ("S_IFREG", 32768), ("S_IFIFO", 4096), ("S_IFLNK", 40960), ("S_IFSOCK", 49152)]
def bTab : List (Str × Value) := [("len", .builtin "len"), ("range", .type "range"), ("reversed", .type "reversed"), ("iter", .builtin "iter"), ("object", .type "object"), ("min", .builtin "min"), ("max", .builtin "max"), ("sorted", .builtin "sorted"),
  ("zip", .type "zip"), ("enumerate", .type "enumerate"), ("TypeError", .type "TypeError"), ("AttributeError", .type "AttributeError"), ("isinstance", .builtin "isinstance"), ("bool", .type "bool")]
def fTab : List (Addr × Nat × Value) := [(21, 1, .none), (28, 2, .none), (35, 3, .none), (42, 4, .none), (49, 5, .none), (56, 6, .none), (63, 7, .none), (70, 8, .none), (76, 9, .ref 71), (82, 10, .ref 77), (89, 12, .none), (96, 13, .none),
  (103, 21, .none), (110, 22, .none), (117, 23, .none), (124, 24, .none), (131, 25, .none), (138, 26, .none), (145, 27, .none), (185, 41, .none), (192, 43, .none), (199, 44, .none), (206, 45, .none), (211, 46, .none), (218, 47, .none)]
def tTab : List (Addr × List Addr) := [(178, [153, 155, 157, 161, 163, 165, 169, 171, 173, 177]), (153, [146, 147, 148, 149, 150, 151, 152]), (155, [154]), (157, [156]), (161, [158, 159, 160]), (163, [162]), (165, [164]), (169, [166, 167, 168]),
  (171, [170]), (173, [172]), (177, [174, 175, 176])]
def pTab : List (Addr × Int × Str) := [(146, 40960, "l"), (147, 49152, "s"), (148, 32768, "-"), (149, 24576, "b"), (150, 16384, "d"), (151, 8192, "c"), (152, 4096, "p"), (154, 256, "r"), (156, 128, "w"), (158, 2112, "s"), (159, 2048, "S"), (160, 64, "x"),
  (162, 32, "r"), (164, 16, "w"), (166, 1032, "s"), (167, 1024, "S"), (168, 8, "x"), (170, 4, "r"), (172, 2, "w"), (174, 513, "t"), (175, 512, "T"), (176, 1, "x")]
/-- what the heap behind the text's top bears -/
structure Wd (b : Heap) : Prop where
  lim : b.NoLimit
  ns : ∃ mg mb, b.Ns mainGlobals mg ∧ b.Ns builtinsNs mb ∧ (∀ x v, gTab.lookup x = some v → mg x = some v) ∧ (∀ x i, iTab.lookup x = some i → ∃ t, mg x = some (.int i t)) ∧ (∀ x v, bTab.lookup x = some v → mg x = none ∧ mb x = some v)
  fn : ∀ a n v, fTab.lookup a = some (n, v) → FnAt b a n v
  dflt : Tup b 71 [.none] ∧ Tup b 77 [.none]
  tt : ∀ a rs, (a, rs) ∈ tTab → Tup b a (rs.map .ref)
  pt : ∀ a i x, (a, i, x) ∈ pTab → ∃ t u, Tup b a [.int i t, .str x u]
theorem St.base {b h₀ : Heap} {X : Addr → Prop} {L : Addr} {h : Heap} {l : List (Str × Value)} (H : St h₀ X L h l) (K : Kp b h₀) (hX : ∀ a, X a → b.get? a = none) : Kp b h :=
  fun a o e => H.ext a o (fun q => by rw [hX a q] at e; cases e) (K a o e)
theorem Kp.ext {b h h' : Heap} {l : Addr} (K : Kp b h) (x : Heap.ExtBut l h h') (hl : b.get? l = none) : Kp b h' := fun a o e => x a o (fun q => by subst q; rw [hl] at e; cases e) (K a o e)
section
variable {prog : Program} {w : World} {A : Around} {h b : Heap} {env : Env}
theorem Pv.glob {x : Str} {pos : Pos} {v : Value} (W : Wd b) (K : Kp b h) (hv : gTab.lookup x = some v) (hg : env.globals = mainGlobals := by rfl)
    (hk : env.scope.kind = .function := by rfl) (hl : env.kindOf x = some .globalImplicit := by rfl) (hd : (x == ("__debug__" : Str)) = false := by decide) : Pv prog w A h (eval (.Name x pos) env) (· = v) := by
  obtain ⟨mg, mb, h1, h2, h3, _, _⟩ := W.ns
  exact Rn.of fun s Q E e kk => by
    subst e
    exact Name_function_global hk hl (loadGlobal_global (by rw [hg]; exact h1.keeps K) (h3 x v hv) (kk v _ s.toks ⟨rfl, rfl⟩)) hd
theorem Pv.globI {x : Str} {pos : Pos} {i : Int} (W : Wd b) (K : Kp b h) (hv : iTab.lookup x = some i) (hg : env.globals = mainGlobals := by rfl)
    (hk : env.scope.kind = .function := by rfl) (hl : env.kindOf x = some .globalImplicit := by rfl) (hd : (x == ("__debug__" : Str)) = false := by decide) : Pv prog w A h (eval (.Name x pos) env) (IsI i) := by
  obtain ⟨mg, mb, h1, h2, _, h3, _⟩ := W.ns
  obtain ⟨t, ht⟩ := h3 x i hv
  exact Rn.of fun s Q E e kk => by
    subst e
    exact Name_function_global hk hl (loadGlobal_global (by rw [hg]; exact h1.keeps K) ht (kk _ _ s.toks ⟨rfl, t, rfl⟩)) hd
theorem Pv.blt {x : Str} {pos : Pos} {v : Value} (W : Wd b) (K : Kp b h) (hv : bTab.lookup x = some v) (hg : env.globals = mainGlobals := by rfl) (hbn : env.builtins = builtinsNs := by rfl)
    (hk : env.scope.kind = .function := by rfl) (hl : env.kindOf x = some .globalImplicit := by rfl) (hd : (x == ("__debug__" : Str)) = false := by decide) : Pv prog w A h (eval (.Name x pos) env) (· = v) := by
  obtain ⟨mg, mb, h1, h2, _, _, h3⟩ := W.ns
  exact Rn.of fun s Q E e kk => by
    subst e
    exact Name_function_global hk hl (loadGlobal_builtin (by rw [hg]; exact h1.keeps K) (h3 x v hv).1 (by rw [hbn]; exact h2.keeps K) (h3 x v hv).2 (kk v _ s.toks ⟨rfl, rfl⟩)) hd
theorem Rn.callE {func : Expr} {args : List Expr} {pos : Pos} {P : Value → Heap → Prop}
    (R : Rn prog w A h (eval func env) (fun f h₁ => Rn prog w A h₁ (callWith pos f [] (backTo pos (starEach args env)) []) P))
    (he : eval (.Call func args [] pos) env = (do callWith pos (← eval func env) [] (backTo pos (starEach args env)) (backToKw pos (keywordEach [] env))) := by rfl) : Rn prog w A h (eval (.Call func args [] pos) env) P :=
  Rn.eq he (Rn.bind R)
theorem Rn.argsNil {pos : Pos} {P : List Value → Heap → Prop} (H : P [] h) : Rn prog w A h (spliced (backTo pos (starEach [] env))) P := Rn.pure H
theorem Rn.argsCons {e : Expr} {rest : List Expr} {pos : Pos} {P : List Value → Heap → Prop}
    (R : Rn prog w A h (eval e env) (fun v h₁ => Rn prog w A h₁ (spliced (backTo pos (starEach rest env))) (fun vs h₂ => P (v :: vs) h₂)))
    (he : starEach (e :: rest) env = (false, eval e env) :: starEach rest env := by rfl) : Rn prog w A h (spliced (backTo pos (starEach (e :: rest) env))) P := by
  refine Rn.of fun s Q E es kk => args_cons ?_ he
  subst es
  exact R.use fun v h₁ tk₁ q₁ => Rn.use (s := { s with heap := h₁, toks := tk₁ }) q₁ fun vs h₂ tk₂ q₂ => kk _ h₂ tk₂ q₂
theorem Rn.cwDef {f : Addr} {n : Nat} {dV : Value} {pos : Pos} {e : Expr} {rest : List Expr} {P : Value → Heap → Prop} (F : FnAt b f n dV)
    (R : Rn prog w A h (spliced (backTo pos (starEach (e :: rest) env))) (fun vs h₁ => Kp b h₁ ∧ Rn prog w A h₁ (call (.ref f) vs) P))
    (he : starEach (e :: rest) env = (false, eval e env) :: starEach rest env := by rfl) : Rn prog w A h (callWith pos (.ref f) [] (backTo pos (starEach (e :: rest) env)) []) P := by
  obtain ⟨o, name, qual, doc, pm, an, cdv, ct, ho, hd, hc⟩ := F
  refine Rn.of fun s Q E es kk => callWith_def (o := o) hd ?_ he
  subst es
  exact R.use fun vs h₁ tk₁ q₁ => ⟨q₁.1 _ _ ho, Rn.use (s := { s with heap := h₁, toks := tk₁ }) q₁.2 fun v h₂ tk₂ q₂ => kk _ h₂ tk₂ q₂⟩
theorem Rn.cwBlt {id : String} {pos : Pos} {e : Expr} {rest : List Expr} {P : Value → Heap → Prop}
    (R : Rn prog w A h (spliced (backTo pos (starEach (e :: rest) env))) (fun vs h₁ => Rn prog w A h₁ (call (.builtin id) vs) P))
    (he : starEach (e :: rest) env = (false, eval e env) :: starEach rest env := by rfl) (hplain : (backTo pos (starEach rest env)).any (·.1) = false := by rfl) :
    Rn prog w A h (callWith pos (.builtin id) [] (backTo pos (starEach (e :: rest) env)) []) P := by
  refine Rn.of fun s Q E es kk => callWith_builtin1 ?_ he hplain
  subst es
  exact R.use fun vs h₁ tk₁ q₁ => Rn.use (s := { s with heap := h₁, toks := tk₁ }) q₁ fun v h₂ tk₂ q₂ => kk _ h₂ tk₂ q₂
theorem Pv.lenL {l : Addr} {vs : List Value} (H : Lst h l vs) (hsz : vs.length < 1000) : Pv prog w A h (call (.builtin "len") [.ref l]) (IsI vs.length) :=
  Rn.of fun s Q E es kk => by
    subst es
    refine call_len_list H.isList (by simp; omega) ?_
    have := kk (.int vs.length (s.toks + 1)) s.heap (s.toks + 1 + 1) ⟨rfl, _, rfl⟩
    simpa using this
theorem Rn.testNot {x : Expr} {pos : Pos} {whole : Sem Value} {P : Bool → Heap → Prop} (R : Rn prog w A h (isTrue x env (eval x env)) (fun b h₁ => P (!b) h₁)) : Rn prog w A h (isTrue (.UnaryOp .Not x pos) env whole) P := by
  refine Rn.of fun s Q E es kk => wpAny_isTrue_Not ?_
  subst es
  exact R.use fun b h₁ tk₁ q₁ => kk _ h₁ tk₁ q₁
theorem Rn.testBool {op : BoolOp} {values : List Expr} {pos : Pos} {whole : Sem Value} {P : Bool → Heap → Prop} (R : Rn prog w A h (allTrue op values env) P) : Rn prog w A h (isTrue (.BoolOp op values pos) env whole) P :=
  fun g d tk os => wpAny_isTrue_BoolOp (R g d tk os)
theorem Rn.andNil {P : Bool → Heap → Prop} (H : P true h) : Rn prog w A h (allTrue .And [] env) P := Rn.pure H
theorem Rn.orNil {P : Bool → Heap → Prop} (H : P false h) : Rn prog w A h (allTrue .Or [] env) P := Rn.pure H
theorem Rn.andCons {x : Expr} {rest : List Expr} {P : Bool → Heap → Prop} (R : Rn prog w A h (isTrue x env (eval x env)) (fun c h₁ => if c = true then Rn prog w A h₁ (allTrue .And rest env) P else P false h₁)) :
    Rn prog w A h (allTrue .And (x :: rest) env) P := by
  refine Rn.of fun s Q E es kk => wpAny_allTrue_And_cons ?_
  subst es
  refine R.use fun c h₁ tk₁ q₁ => ?_
  cases c
  · exact kk _ h₁ tk₁ (by simpa using q₁)
  · exact Rn.use (s := { s with heap := h₁, toks := tk₁ }) (by simpa using q₁) fun v h₂ tk₂ q₂ => kk _ h₂ tk₂ q₂
theorem Rn.orCons {x : Expr} {rest : List Expr} {P : Bool → Heap → Prop} (R : Rn prog w A h (isTrue x env (eval x env)) (fun c h₁ => if c = true then P true h₁ else Rn prog w A h₁ (allTrue .Or rest env) P)) :
    Rn prog w A h (allTrue .Or (x :: rest) env) P := by
  refine Rn.of fun s Q E es kk => wpAny_allTrue_Or_cons ?_
  subst es
  refine R.use fun c h₁ tk₁ q₁ => ?_
  cases c
  · exact Rn.use (s := { s with heap := h₁, toks := tk₁ }) (by simpa using q₁) fun v h₂ tk₂ q₂ => kk _ h₂ tk₂ q₂
  · exact kk _ h₁ tk₁ (by simpa using q₁)
/-- the value of a test's expression is asked for its truth -/
theorem Rn.testVal {e : Expr} {P : Bool → Heap → Prop} (R : Rn prog w A h (eval e env) (fun v h₁ => Rn prog w A h₁ (truthy v) P))
    (he : isTrue e env (eval e env) = (do let v ← eval e env; PySem.standAt e.pos; PySem.holding [v] (truthy v)) := by rfl) : Rn prog w A h (isTrue e env (eval e env)) P :=
  Rn.eq he (Rn.bind (R.mono fun v h₁ q => Rn.bind (Rn.standAt (Rn.holding q))))
theorem Rn.exprS {e : Expr} {pos : Pos} {P : Flow → Heap → Prop} (R : Rn prog w A h (eval e env) (fun v h₁ => (∀ a, v ≠ .ref a) ∧ P .next h₁))
    (hi : interactive env = false := by rfl) (hs : swapsWith e none pos.line env = Pure.pure false := by rfl) : Rn prog w A h (exec (.Expr e pos) env) P := by
  refine Rn.of fun s Q E es kk => wpAny_Expr ?_ hi hs
  subst es
  refine R.use fun v h₁ tk₁ q₁ => ?_
  cases v with
  | ref a => exact (q₁.1 a rfl).elim
  | _ => exact kk _ h₁ tk₁ q₁.2
end
end
section
open PySem PySem.Calls PySem.W PyProof.Rows
set_option maxRecDepth 100000
set_option maxHeartbeats 8000000
set_option autoImplicit false
set_option linter.unusedVariables false
/-- the statements that the head views: all but the names' and the two defs with defaults and the table -/
def kept : List Nat := [1, 2, 3, 4, 5, 6, 7, 8] ++ (List.range 28).map (· + 12) ++ [41, 42, 43, 44, 45, 46, 47, 48]
def view : Program := { PySem.Challenge.pw_of0076_01 with main := { PySem.Challenge.pw_of0076_01.main with body := kept.filterMap fun i => PySem.Challenge.pw_of0076_01.main.body[i]? } }
def lse : List Str := ["nsmallest", "nlargest", "_filemode_table"]
abbrev Sig := Arguments × FuncBody × Scope × List (Str × Addr) × Value × Value × Addr × Addr
def sigOf (fd : FuncData) : Sig := (fd.params, fd.body, fd.scope, fd.closure, fd.defaults, fd.kwdefaults, fd.globals, fd.builtins)
def sigW (n : Nat) (v : Value) : Option (Sig × Bool) := some ((pA n, .stmts (bA n), sA n, [], v, .none, mainGlobals, builtinsNs), true)
/-- what the heap says of a code, a def, a tuple, a pair, an int's name -/
def codeAt (h : Heap) (cd : Value) (q : Str) : Bool := match cd with
  | .ref c => (match h.get? c with
    | some o => (match o.data with
      | .fields vs => (match (vs[1]? : Option Value) with
        | some (.str n _) => decide (n = q)
        | _ => false)
      | _ => false)
    | none => false)
  | _ => false
def sigAt (h : Heap) (a : Addr) : Option (Sig × Bool) := match h.get? a with
  | some ⟨_, _, .func fd, _⟩ => some (sigOf fd, codeAt h fd.code fd.qualname)
  | _ => none
def tupAt (h : Heap) (a : Addr) : Option (List Value) := match h.get? a with
  | some ⟨.type "tuple", _, .seq vs _, _⟩ => some vs.toList
  | _ => none
def pairAt (h : Heap) (a : Addr) : Option (Int × Str) := match tupAt h a with
  | some [.int i _, .str x _] => some (i, x)
  | _ => none
def intAt (h : Heap) (x : Str) : Option Int := match h.nsMap mainGlobals x with
  | some (.int i _) => some i
  | _ => none
abbrev Obs := (Bool × Bool × Bool × Option Value × Option Value) × List (Option Value) × List (Option Int) × List (Option Value) × List (Option Value) × List (Option (Sig × Bool)) × (Option (List Value) × Option (List Value)) × List (Option (List Value)) × List (Option (Int × Str))
def fTab1 : List (Addr × Nat × Value) := (223, 48, .none) :: fTab
def obs (s : Shared) : Obs := ((s.heap.isNs mainGlobals, s.heap.isNs builtinsNs, s.heap.isNs cStatics, s.heap.nsMap cStatics "sys.recursionlimit", s.heap.nsMap mainGlobals "law"),
  gTab.map (fun p => s.heap.nsMap mainGlobals p.1), iTab.map (fun p => intAt s.heap p.1), bTab.map (fun p => s.heap.nsMap mainGlobals p.1), bTab.map (fun p => s.heap.nsMap builtinsNs p.1),
  fTab1.map (fun p => sigAt s.heap p.1), (tupAt s.heap 71, tupAt s.heap 77), tTab.map (fun p => tupAt s.heap p.1), pTab.map (fun p => pairAt s.heap p.1))
def val (_ : World) : Obs := ((true, true, true, none, some (.ref 223)), gTab.map (fun p => some p.2), iTab.map (fun p => some p.2), bTab.map (fun _ => none), bTab.map (fun p => some p.2),
  fTab1.map (fun p => sigW p.2.1 p.2.2), (some [.none], some [.none]), tTab.map (fun p => some (p.2.map .ref)), pTab.map (fun p => some p.2))
theorem codeRec_at {h : Heap} {cd : Value} {q : Str} (hc : codeAt h cd q = true) : h.CodeRec cd q := by
  unfold codeAt at hc
  cases cd with
  | ref c =>
    dsimp only at hc
    cases ho : h.get? c with
    | none => rw [ho] at hc; cases hc
    | some o =>
      rw [ho] at hc
      dsimp only at hc
      split at hc
      · rename_i vs hd
        split at hc
        · rename_i n t hv
          have e := of_decide_eq_true hc
          subst e
          exact ⟨c, o, vs, t, rfl, ho, hd, hv⟩
        · cases hc
      · cases hc
  | _ => cases hc
theorem fnAt_of {h : Heap} {a : Addr} {n : Nat} {v : Value} (e : sigAt h a = sigW n v) : FnAt h a n v := by
  unfold sigAt sigW at e
  split at e
  · rename_i c dd fd sl ho
    simp only [Option.some.injEq, Prod.mk.injEq] at e
    obtain ⟨e, hc⟩ := e
    obtain ⟨name, qual, params, body, scope, globals, closure, defaults, kwd, doc, pm, an, code, ct, bl⟩ := fd
    simp only [sigOf, Prod.mk.injEq] at e
    obtain ⟨rfl, rfl, rfl, rfl, rfl, rfl, rfl, rfl⟩ := e
    refine ⟨_, name, qual, doc, pm, an, code, ct, ho, rfl, ?_⟩
    exact codeRec_at hc
  · cases e
theorem tup_of {h : Heap} {a : Addr} {vs : List Value} (e : tupAt h a = some vs) : Tup h a vs := by
  unfold tupAt at e
  split at e
  · rename_i d xs n sl ho
    cases e
    exact ⟨_, ho, rfl, n, by simp⟩
  · cases e
theorem pair_of {h : Heap} {a : Addr} {i : Int} {x : Str} (e : pairAt h a = some (i, x)) : ∃ t u, Tup h a [.int i t, .str x u] := by
  unfold pairAt at e
  split at e
  · rename_i i' t x' u ho
    cases e
    exact ⟨t, u, tup_of ho⟩
  · cases e
theorem map_at {α β : Type} {f g : α → β} {l : List α} (e : l.map f = l.map g) {a : α} (ha : a ∈ l) : f a = g a := List.map_inj_left.mp e a ha
theorem lookup_memG {α β : Type} [BEq α] [LawfulBEq α] {x : α} {v : β} : ∀ {l : List (α × β)}, l.lookup x = some v → (x, v) ∈ l
  | [], e => by cases e
  | (y, u) :: r, e => by
    rw [List.lookup_cons] at e
    cases hq : x == y with
    | true => rw [hq] at e; cases e; rw [eq_of_beq hq]; exact .head _
    | false => rw [hq] at e; exact .tail _ (lookup_memG e)
/-- what is seen behind the text's top -/
def Says (h : Heap) : Prop := Wd h ∧ FnAt h 223 48 .none ∧ ∃ mg, h.Ns mainGlobals mg ∧ mg (Str.ofString "law") = some (.ref 223)
theorem Says.keeps {h h' : Heap} (S : Says h) (k : Kp h h') : Says h' := by
  obtain ⟨⟨lim, ⟨mg, mb, n1, n2, r⟩, fn, ⟨d1, d2⟩, tt, pt⟩, F, mg', n, e⟩ := S
  exact ⟨⟨lim.keeps k, ⟨mg, mb, n1.keeps k, n2.keeps k, r⟩, fun a n v e => (fn a n v e).keeps k, ⟨d1.keeps k, d2.keeps k⟩, fun a rs e => (tt a rs e).keeps k, fun a i x e => let ⟨t, u, q⟩ := pt a i x e; ⟨t, u, q.keeps k⟩⟩, F.keeps k, mg', n.keeps k, e⟩
theorem says_of {w : World} {s : Shared} (e : obs s = val w) : Says s.heap := by
  unfold obs val at e
  simp only [Prod.mk.injEq] at e
  obtain ⟨⟨a1, a2, a3, a4, a5⟩, e1, e2, e3, e3', e4, ⟨e5, e6⟩, e7, e8⟩ := e
  have G := Heap.Ns.of_isNs a1
  have fn : ∀ a n v, fTab1.lookup a = some (n, v) → FnAt s.heap a n v := fun a n v e => fnAt_of (map_at e4 (lookup_memG e))
  refine ⟨⟨⟨_, Heap.Ns.of_isNs a3, a4⟩, ⟨_, _, G, Heap.Ns.of_isNs a2, fun x v e => map_at e1 (lookup_memG e), fun x i e => ?_, fun x v e => ⟨map_at e3 (lookup_memG e), map_at e3' (lookup_memG e)⟩⟩, fun a n v e => fnAt_of (map_at e4 (.tail _ (lookup_memG e))), ⟨tup_of e5, tup_of e6⟩,
    fun a rs e => tup_of (map_at e7 e), fun a i x e => pair_of (map_at e8 e)⟩, fn 223 48 .none rfl, _, G, a5⟩
  have := map_at e2 (lookup_memG e)
  simp only [intAt] at this
  split at this
  · rename_i i' t ho
    cases this
    exact ⟨t, ho⟩
  · cases this
theorem ns_uniq {h : Heap} {a : Addr} {m m' : Str → Option Value} (H : h.Ns a m) (H' : h.Ns a m') (x : Str) : m x = m' x := by
  obtain ⟨o, es, ep, ho, hd, _, hf⟩ := H
  obtain ⟨o', es', ep', ho', hd', _, hf'⟩ := H'
  rw [ho] at ho'; cases ho'
  rw [hd] at hd'; cases hd'
  rw [← hf, ← hf']
theorem left : LeftO PySem.Challenge.rw_of0076_01.row.prog view lse (fun s => xlAt view [] s && recOk (RowW.records PySem.Challenge.rw_of0076_01.row.toRowW) s) obs val 2426 := by
  intro w
  kernel_rfl
theorem said1 : PySem.Challenge.rw_of0076_01.row.wellSaid = true := by
  unfold OpenRow.wellSaid OpenRow.partSaid looksOpen
  repeat' (with_reducible refine look_both ?_ ?_)
  all_goals decide +kernel
theorem said : PySem.Challenge.rw_of0076_01.wellSaid = true := by
  unfold OpenLaw.wellSaid
  with_reducible repeat' refine look_both ?_ ?_
  exact said1
  all_goals decide +kernel
def dLaw : DefRec := ⟨Str.ofString "law", pA 48, bA 48, sA 48, ⟨242, 0, 255, 15⟩⟩
end
section
open PySem PySem.Calls PySem.W PyProof.Rows
set_option maxRecDepth 100000
set_option autoImplicit false
set_option linter.unusedVariables false
section
variable {prog : Program} {w : World} {A : Around} {h b : Heap} {env : Env}
theorem Rn.cwType {T : String} {pos : Pos} {e : Expr} {rest : List Expr} {P : Value → Heap → Prop}
    (R : Rn prog w A h (spliced (backTo pos (starEach (e :: rest) env))) (fun vs h₁ => Rn prog w A h₁ (call (.type T) vs) P))
    (he : starEach (e :: rest) env = (false, eval e env) :: starEach rest env := by rfl) (hplain : (backTo pos (starEach rest env)).any (·.1) = false := by rfl) :
    Rn prog w A h (callWith pos (.type T) [] (backTo pos (starEach (e :: rest) env)) []) P := by
  refine Rn.of fun s Q E es kk => PySem.callWith_type (by rw [he]; show (false || (backTo pos (starEach rest env)).any (·.1)) = false; rw [hplain]; rfl) ?_
  subst es
  rw [he] at R ⊢
  refine evalArgs_plain ?_
  exact R.use fun vs h₁ tk₁ q₁ => Rn.use (s := { s with heap := h₁, toks := tk₁ }) q₁ fun v h₂ tk₂ q₂ => kk _ h₂ tk₂ q₂
theorem Kp.push (h : Heap) (o : Obj) : Kp h (h.push o) := fun _ _ e => Heap.get?_push_of_some o e
theorem fresh_size (h : Heap) : h.get? h.objs.size = none := by
  cases e : h.get? h.objs.size with
  | none => rfl
  | some o => exact absurd (Heap.lt_size e) (Nat.lt_irrefl _)
theorem Rn.range1 {n : Int} {t : Tok} {P : Value → Heap → Prop} (k : ∀ r h' t1 t2, h.get? r = none → IsRange h' r 0 n 1 t1 t t2 → Kp h h' → P (.ref r) h') : Rn prog w A h (call (.type "range") [.int n t]) P :=
  Rn.of fun s Q E es kk => by
    subst es
    exact call_range_1 (kk _ _ _ (k _ _ _ _ (fresh_size _) (IsRange.new _ _ _ _ _ _ _) (Kp.push _ _)))
theorem Rn.range3 {x y c : Int} {t u v : Tok} {P : Value → Heap → Prop} (hc : c ≠ 0) (hd : Builtin.divisionGoesByPylong (y - x) c = false) (k : ∀ r h', h.get? r = none → IsRange h' r x y c t u v → Kp h h' → P (.ref r) h') : Rn prog w A h (call (.type "range") [.int x t, .int y u, .int c v]) P :=
  Rn.of fun s Q E es kk => by
    subst es
    refine callType_new F.called_range (by decide) (by kernel_rfl) (by kernel_rfl) (fun obj => ?_) F.entry_range_new (AutoRange.range___new___type_int_int_int_1 x y c t u v F.called_range.sub (by simpa using hc)) ⟨hd, ⟨_, Heap.get?_push_size _ rfl, rfl⟩, ?_⟩
    · unfold argsOk; rw [signature?_of (id := "object.__init__") (n := ['_', '_', 't', 'i', 'n', 'i', '_', '_']) (o := ['t', 'c', 'e', 'j', 'b', 'o']) (by kernel_rfl) F.owner_object]; kernel_rfl
    · exact kk _ _ _ (k _ _ (fresh_size _) (IsRange.new _ _ _ _ _ _ _) (Kp.push _ _))
end
namespace F2
theorem sub_ri_reversed : isSubtype (.type "range_iterator") (.type "reversed") = pure false := by rw [isSubtype_type]; kernel_rfl
theorem entry_ri_iter : entryFor table "range_iterator.__iter__" = some Builtin.«dict_keyiterator.__iter__» :=
  entryFor_alias (id' := "dict_keyiterator.__iter__") (by kernel_rfl) (by first | rfl | decide +kernel | (unfold String.splitOn; simp +decide [String.splitOnAux])) (by decide +kernel) (by kernel_rfl)
end F2
section
variable {prog : Program} {w : World} {A : Around} {E : Value → Shared → Prop} {s : Shared}
theorem call_range_reversed {r : Addr} {n : Int} {t u v : Tok} {Q : Value → Shared → Prop} (hr : IsRange s.heap r 0 n 1 t u v) (h0 : 0 ≤ n) (hn : n < 2 ^ 62)
    (h : Q (.ref s.heap.objs.size) { s with heap := s.heap.push { cls := .type "range_iterator", data := .fields #[rawInt (n - 1), rawInt n, rawInt (-1)] } }) : wpAny (model prog w) A (call (.builtin "range.__reversed__") [.ref r]) Q E s := by
  refine wpAny_call_entry F.slot_range_reversed ⟨_, hr, rfl⟩ F.entry_range_reversed ?_ (F.args_range_reversed_1 _)
  unfold Builtin.«range.__reversed__»
  refine wpAny_bind (wpAny_of_eq (a := Value.ref r) rfl ?_)
  unfold Builtin.Range.rangeFields
  refine wpAny_bind (wpAny_bind (wpAny_field hr rfl (x := .int 0 t) rfl ?_))
  refine wpAny_bind (wpAny_of_eq (a := some 0) rfl ?_)
  refine wpAny_bind (wpAny_field hr rfl (x := .int n u) rfl ?_)
  refine wpAny_bind (wpAny_of_eq (a := some n) rfl ?_)
  refine wpAny_bind (wpAny_field hr rfl (x := .int 1 v) rfl ?_)
  refine wpAny_bind (wpAny_of_eq (a := some 1) rfl ?_)
  refine wpAny_pure ?_
  dsimp only
  have hsz : Builtin.Range.rangeSize 0 n 1 = n := by rw [rangeSize_one]; split <;> omega
  rw [hsz]
  have hsm : (Builtin.Range.rangeFitsLong 0 && Builtin.Range.rangeFitsLong n && Builtin.Range.rangeFitsLong 1 && Builtin.Range.rangeFitsLong (-1) && Builtin.Range.rangeFitsLong (0 - 1) && Builtin.Range.rangeFitsLong n) = true := by
    simp only [Builtin.Range.rangeFitsLong, Bool.and_eq_true, decide_eq_true_eq]
    omega
  rw [hsm]
  simp only [Bool.not_true, Bool.false_eq_true, if_false, if_true]
  have e1 : (0 : Int) + (n - 1) * 1 = n - 1 := by omega
  rw [e1]
  exact wpAny_bind (wpAny_newObj_type (wpAny_pure ⟨_, rfl, h⟩))
theorem code_reversed_range {r : Addr} {n : Int} {t u v : Tok} {Q₁ : Value → Shared → Prop} (hr : IsRange s.heap r 0 n 1 t u v) (h0 : 0 ≤ n) (hn : n < 2 ^ 62)
    (h : Q₁ (.ref s.heap.objs.size) { s with heap := s.heap.push { cls := .type "range_iterator", data := .fields #[rawInt (n - 1), rawInt n, rawInt (-1)] } }) :
    codeAny (model prog w) A (.call (.builtin "reversed.__new__") ⟨[.type "reversed", .ref r], []⟩) (wants Q₁ E) s := by
  refine codeAny_of_tree ?_
  show wpAny _ A.in1 (do checkBuiltinCall "reversed.__new__" ⟨[.type "reversed", .ref r], []⟩; again (.builtin "reversed.__new__" ⟨[.type "reversed", .ref r], []⟩)) _ _ s
  refine wpAny_bind (wpAny_of_eq (F.newCall_reversed_1 _) (wpAny_pure ⟨plainId_quiet F.plain_reversed_new _, codeAny_builtin F.entry_reversed_new ?_⟩))
  rw [Around.under_plainId F.plain_reversed_new _]
  unfold Builtin.«reversed.__new__»
  refine wpAny_bind (wpAny_of_eq (newClass_reversed _) ?_)
  try dsimp only
  refine wpAny_bind (wpAny_of_eq (a := ()) (by first | rfl | kernel_rfl) ?_)
  refine wpAny_bind (wpAny_of_eq (a := ()) (by first | rfl | kernel_rfl) ?_)
  try dsimp only
  refine wpAny_bind (wpAny_specialOf (T := "range") ⟨_, hr, rfl⟩ F.slot_range_reversed.lookup ?_)
  try dsimp only
  refine wpAny_bind (wpAny_of_eq (F.slot_range_reversed.bind _) ?_)
  try dsimp only
  rw [if_neg (show ¬ ((Value.builtin "range.__reversed__" == Value.none) = true) from Bool.false_ne_true)]
  refine wpAny_bind (wpAny_rule ?_)
  refine wpAny_bind (m := runValue (.call (.builtin "range.__reversed__") ⟨[.ref r], []⟩)) (show wpAny _ _ (call (.builtin "range.__reversed__") [.ref r]) _ _ _ from call_range_reversed hr h0 hn ?_)
  first
  | exact wpAny_pure h
  | exact wpAny_bind (wpAny_pure (wpAny_pure h))
theorem call_reversed_range {r : Addr} {n : Int} {t u v : Tok} {Q : Value → Shared → Prop} (hr : IsRange s.heap r 0 n 1 t u v) (h0 : 0 ≤ n) (hn : n < 2 ^ 62)
    (h : Q (.ref s.heap.objs.size) { s with heap := s.heap.push { cls := .type "range_iterator", data := .fields #[rawInt (n - 1), rawInt n, rawInt (-1)] } }) : wpAny (model prog w) A (call (.type "reversed") [.ref r]) Q E s := by
  refine callType_other (U := "range_iterator") (Q₁ := fun obj s₁ => obj = .ref s.heap.objs.size ∧ s₁ = { s with heap := s.heap.push { cls := .type "range_iterator", data := .fields #[rawInt (n - 1), rawInt n, rawInt (-1)] } }) (by decide +kernel) F.create_reversed
    ⟨_, _, F.mro_reversed⟩ F.made_reversed F2.sub_ri_reversed (F.typeCall_reversed_1 _) (code_reversed_range hr h0 hn ⟨rfl, rfl⟩) ?_
  rintro obj s₁ ⟨rfl, rfl⟩
  exact ⟨⟨_, Heap.get?_push_size _ rfl, rfl⟩, h⟩
theorem wpAny_pyIter_rangeiter {it : Addr} {x left step : Int} {Q : Value → Shared → Prop} (hit : IsRangeIter s.heap it x left step) (h : Q (.ref it) s) : wpAny (model prog w) A (pyIter (.ref it)) Q E s := by
  have hT : s.TypeIs (.ref it) "range_iterator" := ⟨_, hit, rfl⟩
  refine wpAny_pyIter_slot hT F.slot_range_iterator_iter (wpAny_call_entry F.slot_range_iterator_iter hT F2.entry_ri_iter ?_ (F.args_range_iterator_iter_1 _))
  show wpAny _ _ (ret (.ref it)) _ _ s
  exact wpAny_pure ⟨_, rfl, "range_iterator", _, hT, F.slot_range_iterator_next.lookup, h⟩
end
section
variable {prog : Program} {w : World} {A : Around} {h b : Heap} {env : Env}
theorem Rn.revRange {r : Addr} {n : Nat} {t u v : Tok} {P : Value → Heap → Prop} (hr : IsRange h r 0 n 1 t u v) (hn : n < 1000) (k : ∀ I h', h.get? I = none → IsRangeIter h' I ((n : Int) - 1) n (-1) → Kp h h' → P (.ref I) h') :
    Rn prog w A h (call (.type "reversed") [.ref r]) P :=
  Rn.of fun s Q E es kk => by
    subst es
    exact call_reversed_range hr (by omega) (by omega) (kk _ _ _ (k _ _ (fresh_size _) (Heap.get?_push_size _ rfl) (Kp.push _ _)))
theorem Pv.iterRI {it : Addr} {x left step : Int} (hit : IsRangeIter h it x left step) : Pv prog w A h (pyIter (.ref it)) (· = .ref it) :=
  Rn.of fun s Q E es kk => by subst es; exact wpAny_pyIter_rangeiter hit (kk _ _ s.toks ⟨rfl, rfl⟩)
theorem Rn.nextRI {it : Addr} {x left step : Int} {P : Option Value → Heap → Prop} (hit : IsRangeIter h it x left step) (hl : 0 < left) (k : ∀ h' t, IsRangeIter h' it (x + step) (left - 1) step → Heap.SameBut it h h' → P (some (.int x t)) h') :
    Rn prog w A h (pyNext (.ref it)) P :=
  Rn.of fun s Q E es kk => by subst es; exact wpAny_pyNext_range_item hit hl fun h' hi hs => kk _ h' _ (k h' _ hi hs)
theorem Rn.endRI {it : Addr} {x left step : Int} {P : Option Value → Heap → Prop} (hA : A.handled = none) (hit : IsRangeIter h it x left step) (hl : left ≤ 0) (k : ∀ h', Heap.ExtBut it h h' → P none h') :
    Rn prog w A h (pyNext (.ref it)) P :=
  Rn.of fun s Q E es kk => by subst es; exact wpAny_pyNext_range_end hA hit hl fun h' hs => kk _ h' s.toks (k h' hs)
end
/-- an iterator that is to hand out the values xs -/
inductive Src (h : Heap) (I : Addr) (xs : List Value) : Prop where
  | fwd (l : Addr) (us : List Value) (i : Nat) : h.IsListIter I l i → Lst h l us → l ≠ I → xs = us.drop i → Src h I xs
  | rev (l : Addr) (us : List Value) (i : Nat) : h.IsRevIter I l ((i : Int) - 1) → Lst h l us → l ≠ I → i ≤ us.length → xs = (us.take i).reverse → Src h I xs
theorem Src.there {h : Heap} {I : Addr} {xs : List Value} (S : Src h I xs) : ∃ o, h.get? I = some o := by
  cases S with
  | fwd l us i a _ _ _ => obtain ⟨o, ho, _⟩ := a; exact ⟨o, ho⟩
  | rev l us i a _ _ _ _ => obtain ⟨o, ho, _⟩ := a; exact ⟨o, ho⟩
theorem Src.keeps {h h' : Heap} {I : Addr} {xs : List Value} (S : Src h I xs) (k : Kp h h') : Src h' I xs := by
  cases S with
  | fwd l us i a b c d => exact .fwd l us i (let ⟨o, e, r⟩ := a; ⟨o, k _ _ e, r⟩) (b.keeps k) c d
  | rev l us i a b c d e => exact .rev l us i (let ⟨o, e, r⟩ := a; ⟨o, k _ _ e, r⟩) (b.keeps k) c d e
theorem Src.not_list {h : Heap} {I : Addr} {xs vs : List Value} (S : Src h I xs) (H : Lst h I vs) : False := by
  obtain ⟨n, e⟩ := H
  cases S with
  | fwd l us i a _ _ _ =>
    obtain ⟨o, ho, hc, _⟩ := a
    rw [e] at ho; cases ho
    injection hc with hc
    exact absurd hc (by decide)
  | rev l us i a _ _ _ _ =>
    obtain ⟨o, ho, hc, _⟩ := a
    rw [e] at ho; cases ho
    injection hc with hc
    exact absurd hc (by decide)
section
variable {prog : Program} {w : World} {A : Around} {h b : Heap} {env : Env}
theorem Rn.nextSrc {I : Addr} {v : Value} {xs : List Value} {P : Option Value → Heap → Prop} (S : Src h I (v :: xs)) (k : ∀ h', Src h' I xs → Heap.SameBut I h h' → P (some v) h') : Rn prog w A h (pyNext (.ref I)) P := by
  cases S with
  | fwd l us i hi hl hne hx =>
    have hv : us[i]? = some v := by
      have : (us.drop i)[0]? = some v := by rw [← hx]; rfl
      rwa [List.getElem?_drop, Nat.add_zero] at this
    have hx' : xs = us.drop (i + 1) := by rw [← List.drop_drop, ← hx]; rfl
    exact Rn.of fun s Q E es kk => by
      subst es
      exact wpAny_pyNext_list_item hi hl.isList (by simpa using hv) fun h' hi' hs => kk _ h' s.toks (k h' (.fwd l us (i + 1) hi' (hl.ext hs.extBut hne) hne hx') hs)
  | rev l us i hi hl hne hle hx =>
    cases i with
    | zero => simp at hx
    | succ i =>
      have hlt : i < us.length := hle
      have ht : us.take (i + 1) = us.take i ++ [us[i]] := (List.take_append_getElem hlt).symm
      rw [ht, List.reverse_append] at hx
      simp only [List.reverse_cons, List.reverse_nil, List.nil_append, List.singleton_append, List.cons.injEq] at hx
      obtain ⟨rfl, rfl⟩ := hx
      have e : (((i + 1 : Nat) : Int) - 1) = (i : Int) := by omega
      rw [e] at hi
      exact Rn.of fun s Q E es kk => by
        subst es
        exact wpAny_pyNext_rev_item hi hl.isList (by simp [hlt]) fun h' hi' hs => kk _ h' s.toks (k h' (.rev l us i hi' (hl.ext hs.extBut hne) hne (by omega) rfl) hs)
theorem Rn.endSrc {I : Addr} {P : Option Value → Heap → Prop} (hA : A.handled = none) (S : Src h I []) (k : ∀ h', Heap.ExtBut I h h' → P none h') : Rn prog w A h (pyNext (.ref I)) P := by
  cases S with
  | fwd l us i hi hl hne hx =>
    have hv : us[i]? = none := by
      have : us.length ≤ i := by simpa using hx
      simpa using this
    exact Rn.of fun s Q E es kk => by
      subst es
      exact wpAny_pyNext_list_end hA hi hl.isList (by simpa using hv) fun h' hs => kk _ h' s.toks (k h' hs)
  | rev l us i hi hl hne hle hx =>
    have h0 : i = 0 := by
      rcases Nat.eq_zero_or_pos i with h0 | h0
      · exact h0
      · have := congrArg List.length hx
        simp at this
        omega
    subst h0
    exact Rn.of fun s Q E es kk => by
      subst es
      exact wpAny_pyNext_rev_end hA hi fun h' hs => kk _ h' s.toks (k h' hs)
theorem Rn.iterList {l : Addr} {vs : List Value} {P : Value → Heap → Prop} (H : Lst h l vs) (k : ∀ I h', h.get? I = none → Src h' I vs → Kp h h' → P (.ref I) h') : Rn prog w A h (pyIter (.ref l)) P :=
  Rn.of fun s Q E es kk => by
    subst es
    refine wpAny_pyIter_list H.isList (kk _ _ _ (k _ _ (fresh_size _) (.fwd l vs 0 ⟨_, Heap.get?_push_size _ rfl, rfl, rfl⟩ (H.keeps (Kp.push _ _)) (Nat.ne_of_lt H.lt) rfl) (Kp.push _ _)))
theorem Rn.revList {l : Addr} {vs : List Value} {P : Value → Heap → Prop} (H : Lst h l vs) (k : ∀ I h', h.get? I = none → Src h' I vs.reverse → Kp h h' → P (.ref I) h') : Rn prog w A h (call (.type "reversed") [.ref l]) P :=
  Rn.of fun s Q E es kk => by
    subst es
    refine call_reversed_list H.isList (kk _ _ _ (k _ _ (fresh_size _) (.rev l vs vs.length ⟨_, Heap.get?_push_size _ rfl, rfl, ?_⟩ (H.keeps (Kp.push _ _)) (Nat.ne_of_lt H.lt) (Nat.le_refl _) (by simp)) (Kp.push _ _)))
    rw [List.size_toArray]; rfl
end
theorem St.fresh {h₀ : Heap} {X : Addr → Prop} {L J : Addr} {h : Heap} {l : List (Str × Value)} (H : St h₀ X L h l) (hJ : h.get? J = none) (hX : ∀ b, X b → ∃ o, h.get? b = some o) : h₀.get? J = none ∧ L ≠ J := by
  constructor
  · cases e : h₀.get? J with
    | none => rfl
    | some o =>
      by_cases q : X J
      · obtain ⟨o', e'⟩ := hX J q
        rw [hJ] at e'; cases e'
      · rw [H.ext J o q e] at hJ; cases hJ
  · rintro rfl
    obtain ⟨m, hn, _⟩ := H.loc
    obtain ⟨o, _, _, ho, _⟩ := hn
    rw [hJ] at ho; cases ho
section
variable {prog : Program} {w : World} {A : Around} {h b : Heap} {env : Env}
theorem Rn.assignT {x : Str} {pos : Pos} {v : Value} {P : Unit → Heap → Prop} (R : Rn prog w A h (PySem.storeName env x v) P) : Rn prog w A h (assign (.Name x pos) env v) P :=
  Rn.eq (assign_Name x pos v) (Rn.bind (Rn.standAt (Rn.bindName R)))
end
end
section
set_option autoImplicit false
set_option linter.unusedVariables false
section
variable {α β : Type}
/-- the loop of siftdown: bf x y: x goes ahead of y -/
def sdGo (bf : α → α → Bool) (x : α) (sp : Nat) : Nat → List α → Nat → List α
  | 0, vs, p => vs.set p x
  | f + 1, vs, p => if sp < p then (match vs[(p - 1) / 2]? with
    | some y => if bf x y = true then sdGo bf x sp f (vs.set p y) ((p - 1) / 2) else vs.set p x
    | none => vs.set p x) else vs.set p x
def sdown (d : α) (bf : α → α → Bool) (vs : List α) (sp p : Nat) : List α := sdGo bf (vs.getD p d) sp (p + 1) vs p
/-- the child that siftup takes -/
def pick (d : α) (bf : α → α → Bool) (vs : List α) (c : Nat) : Nat := if c + 1 < vs.length then (if bf (vs.getD c d) (vs.getD (c + 1) d) = true then c else c + 1) else c
def suGo (d : α) (bf : α → α → Bool) : Nat → List α → Nat → List α × Nat
  | 0, vs, p => (vs, p)
  | f + 1, vs, p => if 2 * p + 1 < vs.length then suGo d bf f (vs.set p (vs.getD (pick d bf vs (2 * p + 1)) d)) (pick d bf vs (2 * p + 1)) else (vs, p)
def sup (d : α) (bf : α → α → Bool) (vs : List α) (p : Nat) : List α := sdown d bf ((suGo d bf vs.length vs p).1.set (suGo d bf vs.length vs p).2 (vs.getD p d)) p (suGo d bf vs.length vs p).2
/-- heapify: the first k places, the last of them first -/
def hfy (d : α) (bf : α → α → Bool) : Nat → List α → List α
  | 0, vs => vs
  | k + 1, vs => hfy d bf k (sup d bf vs k)
/-- heapreplace -/
def hrep (d : α) (bf : α → α → Bool) (vs : List α) (x : α) : List α := sup d bf (vs.set 0 x) 0
theorem sdGo_fuel {bf : α → α → Bool} {x : α} {sp : Nat} : ∀ {f g : Nat} {vs : List α} {p : Nat}, p < f → p < g → sdGo bf x sp f vs p = sdGo bf x sp g vs p
  | 0, _, _, _, h, _ => absurd h (Nat.not_lt_zero _)
  | _, 0, _, _, _, h => absurd h (Nat.not_lt_zero _)
  | f + 1, g + 1, vs, p, hf, hg => by
    rw [sdGo, sdGo]
    by_cases h : sp < p
    · rw [if_pos h, if_pos h]
      cases vs[(p - 1) / 2]? with
      | none => rfl
      | some y =>
        dsimp only
        split
        · exact sdGo_fuel (by omega) (by omega)
        · rfl
    · rw [if_neg h, if_neg h]
theorem pick_lt {d : α} {bf : α → α → Bool} {vs : List α} {c : Nat} (h : c < vs.length) : c ≤ pick d bf vs c ∧ pick d bf vs c < vs.length := by
  unfold pick
  repeat' split
  all_goals omega
theorem suGo_fuel {d : α} {bf : α → α → Bool} : ∀ {f g : Nat} {vs : List α} {p : Nat}, vs.length ≤ f + p → vs.length ≤ g + p → suGo d bf f vs p = suGo d bf g vs p
  | 0, 0, _, _, _, _ => rfl
  | 0, g + 1, vs, p, h, _ => by rw [suGo, suGo, if_neg (by omega)]
  | f + 1, 0, vs, p, _, h => by rw [suGo, suGo, if_neg (by omega)]
  | f + 1, g + 1, vs, p, hf, hg => by
    rw [suGo, suGo]
    by_cases h : 2 * p + 1 < vs.length
    · rw [if_pos h, if_pos h]
      have := (pick_lt (d := d) (bf := bf) h).1
      exact suGo_fuel (by rw [List.length_set]; omega) (by rw [List.length_set]; omega)
    · rw [if_neg h, if_neg h]
theorem getD_of {us : List α} {q : Nat} {d y : α} (h : us[q]? = some y) : us.getD q d = y := by rw [List.getD_eq_getElem?_getD, h]; rfl
theorem getD_lt {us : List α} {q : Nat} {d : α} (h : q < us.length) : us[q]? = some (us.getD q d) := by rw [List.getElem?_eq_getElem h, List.getD_eq_getElem?_getD, List.getElem?_eq_getElem h]; rfl
theorem mem_set_of {S : α → Prop} {us : List α} {q : Nat} {y : α} (h : ∀ v ∈ us, S v) (hy : S y) : ∀ v ∈ us.set q y, S v := fun v hv => by
  rcases List.mem_or_eq_of_mem_set hv with hv | rfl
  · exact h v hv
  · exact hy
-- as the lists' images
theorem getD_map (f : α → β) (us : List α) (i : Nat) (d : α) : (us.map f).getD i (f d) = f (us.getD i d) := by
  simp only [List.getD_eq_getElem?_getD, List.getElem?_map]
  cases us[i]? <;> rfl
theorem sdGo_map (f : α → β) {bf : α → α → Bool} {bg : β → β → Bool} (hb : ∀ a b, bf a b = bg (f a) (f b)) {x : α} {sp : Nat} : ∀ (n : Nat) (us : List α) (p : Nat), (sdGo bf x sp n us p).map f = sdGo bg (f x) sp n (us.map f) p
  | 0, us, p => by rw [sdGo, sdGo, List.map_set]
  | n + 1, us, p => by
    rw [sdGo, sdGo]
    by_cases h : sp < p
    · rw [if_pos h, if_pos h, List.getElem?_map]
      cases us[(p - 1) / 2]? with
      | none => exact List.map_set
      | some y =>
        dsimp only [Option.map]
        rw [hb x y]
        split
        · rw [sdGo_map f hb n, List.map_set]
        · exact List.map_set
    · rw [if_neg h, if_neg h, List.map_set]
theorem sdown_map (f : α → β) {bf : α → α → Bool} {bg : β → β → Bool} (hb : ∀ a b, bf a b = bg (f a) (f b)) {d : α} (us : List α) (sp p : Nat) : (sdown d bf us sp p).map f = sdown (f d) bg (us.map f) sp p := by
  unfold sdown; rw [sdGo_map f hb, getD_map]
theorem pick_map (f : α → β) {bf : α → α → Bool} {bg : β → β → Bool} (hb : ∀ a b, bf a b = bg (f a) (f b)) {d : α} (us : List α) (c : Nat) : pick (f d) bg (us.map f) c = pick d bf us c := by
  unfold pick; rw [List.length_map, getD_map, getD_map, hb]
theorem suGo_map (f : α → β) {bf : α → α → Bool} {bg : β → β → Bool} (hb : ∀ a b, bf a b = bg (f a) (f b)) {d : α} : ∀ (n : Nat) (us : List α) (p : Nat), suGo (f d) bg n (us.map f) p = ((suGo d bf n us p).1.map f, (suGo d bf n us p).2)
  | 0, us, p => rfl
  | n + 1, us, p => by
    rw [suGo, suGo, List.length_map]
    split
    · rw [pick_map f hb, getD_map, ← List.map_set, suGo_map f hb n]
    · rfl
theorem sup_map (f : α → β) {bf : α → α → Bool} {bg : β → β → Bool} (hb : ∀ a b, bf a b = bg (f a) (f b)) {d : α} (us : List α) (p : Nat) : (sup d bf us p).map f = sup (f d) bg (us.map f) p := by
  unfold sup; rw [sdown_map f hb, List.length_map, suGo_map f hb, getD_map, List.map_set]
theorem hfy_map (f : α → β) {bf : α → α → Bool} {bg : β → β → Bool} (hb : ∀ a b, bf a b = bg (f a) (f b)) {d : α} : ∀ (k : Nat) (us : List α), (hfy d bf k us).map f = hfy (f d) bg k (us.map f)
  | 0, _ => rfl
  | k + 1, us => by rw [hfy, hfy, hfy_map f hb k, sup_map f hb]
theorem hrep_map (f : α → β) {bf : α → α → Bool} {bg : β → β → Bool} (hb : ∀ a b, bf a b = bg (f a) (f b)) {d : α} (us : List α) (x : α) : (hrep d bf us x).map f = hrep (f d) bg (us.map f) (f x) := by
  unfold hrep; rw [sup_map f hb, List.map_set]
end
-- the items stay the same ones
section
variable {α : Type} [DecidableEq α]
theorem swap_perm {us : List α} {q c : Nat} {x y : α} (hq : q < us.length) (hc : us[c]? = some y) (hqc : q ≠ c) : ((us.set q y).set c x).Perm (us.set q x) := by
  have hcl : c < us.length := (List.getElem?_eq_some_iff.mp hc).1
  have hy : us[c] = y := (List.getElem?_eq_some_iff.mp hc).2
  rw [List.perm_iff_count]
  intro a
  have h1 : c < (us.set q y).length := by rw [List.length_set]; exact hcl
  rw [List.count_set h1, List.count_set hq, List.count_set hq]
  have e1 : (us.set q y)[c] = y := by rw [List.getElem_set_ne hqc]; exact hy
  rw [e1]
  have hp : (if us[q] == a then 1 else 0) ≤ us.count a := by
    split
    · rename_i e
      have : a ∈ us := by rw [← eq_of_beq e]; exact List.getElem_mem hq
      exact List.count_pos_iff.mpr this
    · exact Nat.zero_le _
  omega
theorem sdGo_perm {bf : α → α → Bool} {x : α} {sp : Nat} : ∀ {f : Nat} {us : List α} {p : Nat}, p < us.length → (sdGo bf x sp f us p).Perm (us.set p x)
  | 0, _, _, _ => .refl _
  | f + 1, us, p, hp => by
    rw [sdGo]
    split
    · cases e : us[(p - 1) / 2]? with
      | none => exact .refl _
      | some y =>
        dsimp only
        split
        · have h2 : (p - 1) / 2 < us.length := (List.getElem?_eq_some_iff.mp e).1
          refine (sdGo_perm (by rw [List.length_set]; exact h2)).trans (swap_perm hp e (by omega))
        · exact .refl _
    · exact .refl _
theorem suGo_perm {d : α} {bf : α → α → Bool} {x : α} : ∀ {f : Nat} {us : List α} {p : Nat}, p < us.length → ((suGo d bf f us p).1.set (suGo d bf f us p).2 x).Perm (us.set p x) ∧ (suGo d bf f us p).2 < (suGo d bf f us p).1.length
  | 0, _, _, hp => ⟨.refl _, hp⟩
  | f + 1, us, p, hp => by
    rw [suGo]
    split
    · rename_i h
      have hk := pick_lt (d := d) (bf := bf) h
      have ih := suGo_perm (d := d) (bf := bf) (x := x) (f := f) (us := us.set p (us.getD (pick d bf us (2 * p + 1)) d)) (p := pick d bf us (2 * p + 1)) (by rw [List.length_set]; exact hk.2)
      refine ⟨ih.1.trans ?_, ih.2⟩
      exact swap_perm hp (getD_lt hk.2) (by omega)
    · exact ⟨.refl _, hp⟩
theorem set_getD_self {us : List α} {p : Nat} {d : α} (hp : p < us.length) : us.set p (us.getD p d) = us := by
  rw [List.getD_eq_getElem?_getD, List.getElem?_eq_getElem hp]
  exact List.set_getElem_self hp
theorem sdown_perm {d : α} {bf : α → α → Bool} {us : List α} {sp p : Nat} (hp : p < us.length) : (sdown d bf us sp p).Perm us := by
  unfold sdown
  have := sdGo_perm (bf := bf) (x := us.getD p d) (sp := sp) (f := p + 1) hp
  rwa [set_getD_self hp] at this
theorem sup_perm {d : α} {bf : α → α → Bool} {us : List α} {p : Nat} (hp : p < us.length) : (sup d bf us p).Perm us := by
  unfold sup
  have h := suGo_perm (d := d) (bf := bf) (x := us.getD p d) (f := us.length) hp
  refine (sdown_perm (by rw [List.length_set]; exact h.2)).trans ?_
  have h1 := h.1
  rwa [set_getD_self hp] at h1
theorem hfy_perm {d : α} {bf : α → α → Bool} : ∀ {k : Nat} {vs : List α}, k ≤ vs.length → (hfy d bf k vs).Perm vs
  | 0, _, _ => .refl _
  | k + 1, vs, hk => by
    rw [hfy]
    have p := sup_perm (d := d) (bf := bf) (us := vs) (p := k) hk
    exact (hfy_perm (by rw [p.length_eq]; omega)).trans p
theorem hrep_perm {d : α} {bf : α → α → Bool} {vs : List α} {x : α} (h : 0 < vs.length) : (hrep d bf vs x).Perm (vs.set 0 x) := sup_perm (by rw [List.length_set]; exact h)
end
-- the heap's property
section
variable {α : Type} {d : α} {bf : α → α → Bool}
/-- a strict weak order -/
structure SO (bf : α → α → Bool) : Prop where
  asym : ∀ a b, bf a b = true → bf b a = false
  ntrans : ∀ a b c, bf a b = false → bf b c = false → bf a c = false
theorem SO.trans {bf : α → α → Bool} (H : SO bf) {a b c : α} (h1 : bf a b = true) (h2 : bf b c = true) : bf a c = true := by
  cases e : bf a c with
  | true => rfl
  | false => have := H.ntrans a c b e (H.asym b c h2); rw [h1] at this; cases this
theorem SO.irr {bf : α → α → Bool} (H : SO bf) (a : α) : bf a a = false := by
  cases e : bf a a with
  | false => rfl
  | true => have := H.asym a a e; rw [e] at this; cases this
/-- from place s on no child stands ahead of its parent -/
def HeapFrom (d : α) (bf : α → α → Bool) (vs : List α) (s : Nat) : Prop := ∀ i, 0 < i → i < vs.length → s ≤ (i - 1) / 2 → bf (vs.getD i d) (vs.getD ((i - 1) / 2) d) = false
/-- q lies under p -/
inductive Desc (p : Nat) : Nat → Prop where
  | self : Desc p p
  | kid {q c : Nat} : Desc p q → c = 2 * q + 1 ∨ c = 2 * q + 2 → Desc p c
theorem Desc.le {p q : Nat} (h : Desc p q) : p ≤ q := by
  induction h with
  | self => exact Nat.le_refl _
  | kid _ hc ih => omega
theorem Desc.up {p q : Nat} (h : Desc p q) (hne : q ≠ p) : Desc p ((q - 1) / 2) ∧ 0 < q := by
  cases h with
  | self => exact absurd rfl hne
  | @kid q' _ hd hc =>
    have e : (q - 1) / 2 = q' := by omega
    rw [e]; exact ⟨hd, by omega⟩
/-- the same with a hole at q -/
structure Hole (d : α) (bf : α → α → Bool) (us : List α) (p q : Nat) : Prop where
  at' : q < us.length
  up : Desc p q
  e1 : ∀ i, 0 < i → i < us.length → p ≤ (i - 1) / 2 → i ≠ q → (i - 1) / 2 ≠ q → bf (us.getD i d) (us.getD ((i - 1) / 2) d) = false
  e2 : q ≠ p → ∀ i, 0 < i → i < us.length → (i - 1) / 2 = q → bf (us.getD i d) (us.getD ((q - 1) / 2) d) = false
theorem getD_set {us : List α} {q i : Nat} {x d : α} (hq : q < us.length) : (us.set q x).getD i d = if i = q then x else us.getD i d := by
  simp only [List.getD_eq_getElem?_getD, List.getElem?_set]
  by_cases h : q = i
  · subst h; simp [hq]
  · rw [if_neg h, if_neg (Ne.symm h)]
theorem Hole.down (H : SO bf) {us : List α} {p q : Nat} (X : Hole d bf us p q) (hc : 2 * q + 1 < us.length) : Hole d bf (us.set q (us.getD (pick d bf us (2 * q + 1)) d)) p (pick d bf us (2 * q + 1)) := by
  have hk := pick_lt (d := d) (bf := bf) hc
  have hpar : (pick d bf us (2 * q + 1) - 1) / 2 = q ∧ 0 < pick d bf us (2 * q + 1) := by
    unfold pick; repeat' split
    all_goals omega
  have hsib : ∀ i, 0 < i → i < us.length → (i - 1) / 2 = q → i ≠ pick d bf us (2 * q + 1) → bf (us.getD i d) (us.getD (pick d bf us (2 * q + 1)) d) = false := by
    intro i h0 hi he hne
    have hi' : i = 2 * q + 1 ∨ i = 2 * q + 2 := by omega
    unfold pick at hne ⊢
    by_cases hr : 2 * q + 1 + 1 < us.length
    · rw [if_pos hr] at hne ⊢
      cases hb : bf (us.getD (2 * q + 1) d) (us.getD (2 * q + 1 + 1) d) with
      | true =>
        rw [hb, if_pos rfl] at hne
        rw [if_pos rfl]
        have : i = 2 * q + 1 + 1 := by omega
        subst this
        exact H.asym _ _ hb
      | false =>
        rw [hb, if_neg Bool.false_ne_true] at hne
        rw [if_neg Bool.false_ne_true]
        have : i = 2 * q + 1 := by omega
        subst this
        exact hb
    · rw [if_neg hr] at hne; omega
  generalize hcd : pick d bf us (2 * q + 1) = c at *
  have hpq : p ≤ q := X.up.le
  refine ⟨by rw [List.length_set]; exact hk.2, .kid X.up (by omega), fun i h0 hi hp h1 h2 => ?_, fun _ i h0 hi he => ?_⟩
  · rw [List.length_set] at hi
    rw [getD_set X.at', getD_set X.at']
    by_cases a : i = q
    · subst a
      rw [if_pos rfl, if_neg (by omega)]
      exact X.e2 (by omega) c hpar.2 hk.2 hpar.1
    · rw [if_neg a]
      by_cases b : (i - 1) / 2 = q
      · rw [if_pos b]
        exact hsib i h0 hi b h1
      · rw [if_neg b]
        exact X.e1 i h0 hi hp a b
  · rw [List.length_set] at hi
    rw [getD_set X.at', getD_set X.at', if_neg (by omega), if_pos hpar.1]
    have := X.e1 i h0 hi (by omega) (by omega) (by omega)
    rwa [he] at this
theorem suGo_hole (H : SO bf) {p : Nat} : ∀ {f : Nat} {us : List α} {q : Nat}, us.length ≤ f + q → Hole d bf us p q → Hole d bf (suGo d bf f us q).1 p (suGo d bf f us q).2 ∧ ¬ 2 * (suGo d bf f us q).2 + 1 < (suGo d bf f us q).1.length
  | 0, us, q, hf, X => by have := X.at'; omega
  | f + 1, us, q, hf, X => by
    rw [suGo]
    split
    · rename_i h
      have := (pick_lt (d := d) (bf := bf) h).1
      exact suGo_hole H (by rw [List.length_set]; omega) (X.down H h)
    · rename_i h; exact ⟨X, h⟩
theorem sdGo_heap (H : SO bf) {x : α} {p : Nat} : ∀ {f : Nat} {us : List α} {q : Nat}, q < f → Hole d bf us p q → (∀ i, 0 < i → i < us.length → (i - 1) / 2 = q → bf (us.getD i d) x = false) → HeapFrom d bf (sdGo bf x p f us q) p
  | 0, _, _, h, _, _ => absurd h (Nat.not_lt_zero _)
  | f + 1, us, q, hf, X, hx => by
    have last : (p < q → bf x (us.getD ((q - 1) / 2) d) = false) → HeapFrom d bf (us.set q x) p := by
      intro hl i h0 hi hp
      rw [List.length_set] at hi
      rw [getD_set X.at', getD_set X.at']
      by_cases a : i = q
      · subst a
        rw [if_pos rfl, if_neg (by omega)]
        exact hl (by omega)
      · rw [if_neg a]
        by_cases b : (i - 1) / 2 = q
        · rw [if_pos b]; exact hx i h0 hi b
        · rw [if_neg b]; exact X.e1 i h0 hi hp a b
    rw [sdGo]
    split
    · rename_i hpq
      obtain ⟨hdu, hq0⟩ := X.up.up (by omega)
      have hup : 0 < q ∧ p ≤ (q - 1) / 2 := ⟨hq0, hdu.le⟩
      have hat := X.at'
      have hpar : (q - 1) / 2 < us.length := by omega
      rw [getD_lt (d := d) hpar]
      dsimp only
      split
      · rename_i hb
        have X' : Hole d bf (us.set q (us.getD ((q - 1) / 2) d)) p ((q - 1) / 2) := by
          refine ⟨by rw [List.length_set]; exact hpar, ?_, fun i h0 hi hp h1 h2 => ?_, fun hne i h0 hi he => ?_⟩
          · exact hdu
          · rw [List.length_set] at hi
            rw [getD_set X.at', getD_set X.at', if_neg (by omega)]
            by_cases b : (i - 1) / 2 = q
            · rw [if_pos b]; exact X.e2 (by omega) i h0 hi b
            · rw [if_neg b]; exact X.e1 i h0 hi hp (by omega) b
          · rw [List.length_set] at hi
            rw [getD_set X.at', getD_set X.at', if_neg (show ((q - 1) / 2 - 1) / 2 ≠ q by omega)]
            have hdd := (hdu.up hne).1.le
            have hpp : bf (us.getD ((q - 1) / 2) d) (us.getD (((q - 1) / 2 - 1) / 2) d) = false := X.e1 _ (by omega) hpar (by omega) (by omega) (by omega)
            by_cases a : i = q
            · rw [if_pos a]; exact hpp
            · rw [if_neg a]
              have hs := X.e1 i h0 hi (by omega) a (by omega)
              rw [he] at hs
              exact H.ntrans _ _ _ hs hpp
        refine sdGo_heap H (by omega) X' fun i h0 hi he => ?_
        rw [List.length_set] at hi
        rw [getD_set X.at']
        by_cases a : i = q
        · rw [if_pos a]; exact H.asym _ _ hb
        · rw [if_neg a]
          have hs := X.e1 i h0 hi (by omega) a (by omega)
          rw [he] at hs
          cases e : bf (us.getD i d) x with
          | false => rfl
          | true => have := H.trans e hb; rw [hs] at this; cases this
      · rename_i hb
        exact last fun _ => by simpa using hb
    · rename_i hpq
      exact last fun h => absurd h hpq
theorem sup_heap (H : SO bf) {us : List α} {p : Nat} (hp : p < us.length) (X : HeapFrom d bf us (p + 1)) : HeapFrom d bf (sup d bf us p) p := by
  have X0 : Hole d bf us p p := ⟨hp, .self, fun i h0 hi h1 h2 h3 => X i h0 hi (by omega), fun h => absurd rfl h⟩
  obtain ⟨X1, hl⟩ := suGo_hole H (f := us.length) (by omega) X0
  unfold sup
  generalize (suGo d bf us.length us p).1 = ws at *
  generalize (suGo d bf us.length us p).2 = q at *
  have hat := X1.at'
  unfold sdown
  rw [getD_set hat, if_pos rfl]
  refine sdGo_heap H (by omega) ⟨by rw [List.length_set]; exact hat, X1.up, fun i h0 hi h1 h2 h3 => ?_, fun _ i h0 hi he => ?_⟩ fun i h0 hi he => ?_
  · rw [List.length_set] at hi
    rw [getD_set hat, getD_set hat, if_neg h2, if_neg h3]
    exact X1.e1 i h0 hi h1 h2 h3
  · rw [List.length_set] at hi; omega
  · rw [List.length_set] at hi; omega
variable [DecidableEq α]
theorem hfy_heap (H : SO bf) : ∀ {k : Nat} {vs : List α}, k ≤ vs.length → HeapFrom d bf vs k → HeapFrom d bf (hfy d bf k vs) 0
  | 0, _, _, X => X
  | k + 1, vs, hk, X => by
    rw [hfy]
    have p := sup_perm (d := d) (bf := bf) (us := vs) (p := k) hk
    exact hfy_heap H (by rw [p.length_eq]; omega) (sup_heap H hk X)
theorem heapify_heap (H : SO bf) (vs : List α) : HeapFrom d bf (hfy d bf (vs.length / 2) vs) 0 := hfy_heap H (by omega) fun i h0 hi h => by omega
theorem hrep_heap (H : SO bf) {vs : List α} {x : α} (hl : 0 < vs.length) (X : HeapFrom d bf vs 0) : HeapFrom d bf (hrep d bf vs x) 0 := by
  refine sup_heap H (by rw [List.length_set]; exact hl) fun i h0 hi h => ?_
  rw [List.length_set] at hi
  rw [getD_set hl, getD_set hl, if_neg (by omega), if_neg (by omega)]
  exact X i h0 hi (Nat.zero_le _)
theorem heap_top (H : SO bf) {vs : List α} (X : HeapFrom d bf vs 0) : ∀ v ∈ vs, bf v (vs.getD 0 d) = false := by
  have key : ∀ i, i < vs.length → bf (vs.getD i d) (vs.getD 0 d) = false := by
    intro i
    induction i using Nat.strongRecOn with
    | ind i ih =>
      intro hi
      by_cases h0 : i = 0
      · subst h0; exact H.irr _
      · exact H.ntrans _ _ _ (X i (by omega) hi (Nat.zero_le _)) (ih _ (by omega) (by omega))
  intro v hv
  obtain ⟨i, hi, rfl⟩ := List.mem_iff_getElem.mp hv
  have := key i hi
  rwa [getD_of (List.getElem?_eq_getElem hi)] at this
end
end
open PySem PySem.Calls PySem.W PyProof.Rows
local macro_rules | `(tactic| walk_at "ev") => `(tactic| first
  | ((with_reducible show Rn _ _ _ _ (eval (.Name _ _) _) _); first | refine Pv.val (Pv.nameS (by assumption) (by rfl)) ?_ | refine Pv.val (Pv.blt (by assumption) (by assumption) (by rfl)) ?_ | refine Pv.val (Pv.glob (by assumption) (by assumption) (by rfl)) ?_)
  | ((with_reducible show Rn _ _ _ _ (eval (.Constant _ _ _) _) _); refine Pv.thenI Pv.int fun t => ?_)
  | ((with_reducible show Rn _ _ _ _ (eval (.BinOp _ _ _ _) _) _); refine Rn.binOp ?_)
  | ((with_reducible show Rn _ _ _ _ (eval (.Subscript _ _ _) _) _); refine Rn.subscript ?_)
  | ((with_reducible show Rn _ _ _ _ (isTrue (.Compare _ _ _ _) _ _) _); refine Rn.testCmp ?_)
  | ((with_reducible show Rn _ _ _ _ (isTrue (.UnaryOp .Not _ _) _ _) _); refine Rn.testNot ?_)
  | ((with_reducible show Rn _ _ _ _ (isTrue (.BoolOp _ _ _) _ _) _); refine Rn.testBool ?_)
  | ((with_reducible show Rn _ _ _ _ (allTrue .And (_ :: _) _) _); refine Rn.andCons ?_)
  | ((with_reducible show Rn _ _ _ _ (allTrue .And [] _) _); refine Rn.andNil ?_)
  | ((with_reducible show Rn _ _ _ _ (eval (.Compare _ _ _ _) _) _); refine Rn.compare ?_)
  | ((with_reducible show Rn _ _ _ _ (eval (.Call _ _ _ _) _) _); refine Rn.callE ?_)
  | ((with_reducible show Rn _ _ _ _ (callWith _ (.builtin _) _ _ _) _); refine Rn.cwBlt ?_)
  | ((with_reducible show Rn _ _ _ _ (callWith _ (.type _) _ _ _) _); refine Rn.cwType ?_)
  | ((with_reducible show Rn _ _ _ _ (callWith _ (.ref _) _ _ _) _); refine Rn.cwDef (Wd.fn (by assumption) _ _ _ (by rfl)) ?_)
  | ((with_reducible show Rn _ _ _ _ (spliced (backTo _ (starEach (_ :: _) _))) _); refine Rn.argsCons ?_)
  | ((with_reducible show Rn _ _ _ _ (spliced (backTo _ (starEach [] _))) _); refine Rn.argsNil ?_)
  | ((with_reducible show Rn _ _ _ _ (binaryOp .Add (.int _ _) (.int _ _)) _); refine Pv.thenI Pv.addI fun t => ?_)
  | ((with_reducible show Rn _ _ _ _ (binaryOp .Sub (.int _ _) (.int _ _)) _); refine Pv.thenI Pv.subI fun t => ?_)
  | ((with_reducible show Rn _ _ _ _ (binaryOp .RShift (.int _ _) (.int _ _)) _); refine Pv.thenI (Pv.shrI (by decide)) fun t => ?_)
  | ((with_reducible show Rn _ _ _ _ (compareOp .Gt (.int _ _) (.int _ _)) _); refine Pv.val Pv.gtI ?_)
  | ((with_reducible show Rn _ _ _ _ (compareOp .Lt (.int _ _) (.int _ _)) _); refine Pv.val Pv.ltI ?_)
  | ((with_reducible show Rn _ _ _ _ (truthy (.bool _)) _); refine Rn.truthyB ?_))
local macro_rules | `(tactic| walk_at "evs") => `(tactic| repeat walk_at "ev")
local macro_rules | `(tactic| walk_at "subs") => `(tactic| repeat (first | exact List.forall_mem_nil _ | refine List.forall_mem_cons.mpr ⟨rfl, ?_⟩))
section
set_option maxRecDepth 100000
set_option maxHeartbeats 1000000
set_option autoImplicit false
set_option linter.unusedVariables false
/-- how the values of S compare, whatever is done to the list l -/
def CmpF (prog : Program) (w : World) (h₀ : Heap) (l : Addr) (S : Value → Prop) (lt : Value → Value → Bool) : Prop :=
  ∀ (A : Around) (h : Heap) (v u : Value), Ok 3 A → Heap.ExtBut l h₀ h → S v → S u → Pv prog w A h (compareOp .Lt v u) (· = .bool (lt v u))
theorem CmpF.on {prog : Program} {w : World} {h₀ h : Heap} {l : Addr} {S : Value → Prop} {lt : Value → Value → Bool} (C : CmpF prog w h₀ l S lt) (x : Heap.ExtBut l h₀ h) : CmpF prog w h l S lt :=
  fun A h' v u hA hx => C A h' v u hA (x.trans hx)
section
variable {prog : Program} {w : World} {A : Around} {h b : Heap} {l : Addr} {S : Value → Prop} {lt : Value → Value → Bool}
theorem sd_max {vs : List Value} {sp p : Nat} {t1 t2 : Tok} {P : Value → Heap → Prop} (hA : Ok 5 A) (W : Wd b) (K : Kp b h) (hb : b.get? l = none)
    (H : Lst h l vs) (C : CmpF prog w h l S lt) (hS : ∀ v ∈ vs, S v) (hp : p < vs.length) (hsz : vs.length < 1000)
    (kk : ∀ h', Lst h' l (sdown Value.none (fun x y => lt y x) vs sp p) → Heap.ExtBut l h h' → P .none h') :
    Rn prog w A h (call (.ref 63) [.ref l, .int sp t1, .int p t2]) P := by
  refine Rn.callDef (k := 4) (n := 7) (binds := [("heap", .ref l), ("startpos", .int sp t1), ("pos", .int p t2)]) hA ((W.fn _ _ _ (by rfl)).keeps K) (W.lim.keeps K) (fun _ _ _ _ _ _ _ _ _ => BindsTo.of_eq rfl) ?_
  intro qual cdv L h₁ S₁ hA'
  have hlL : l ≠ L := by obtain ⟨n, e⟩ := H; exact S₁.ne e
  obtain ⟨x, hx⟩ : ∃ x, vs[p]? = some x := ⟨vs[p], by simp [hp]⟩
  have H₁ := H.keeps S₁.kp
  -- newitem = heap[pos]
  refine Rn.seq (I := fun h' => St h (· = l) L h' [("heap", .ref l), ("startpos", .int sp t1), ("pos", .int p t2), ("newitem", x)] ∧ Lst h' l vs) (Rn.opq fun PQ hPQ => Rn.assignName ?_) ?_
  · walk_at "evs"
    refine Pv.val (Pv.itemList H₁ (by omega) (by omega) hx) ?_
    exact Rn.storeS S₁ fun h' S' hs => hPQ _ _ ⟨rfl, (S'.weak fun _ q => q.elim).sub (by walk_at "subs"), H₁.ext hs.extBut hlL⟩
  rintro h₂ ⟨S₂, H₂⟩
  -- the loop
  refine Rn.seq (I := fun h' => ∃ (q : Nat) (t : Tok) (us : List Value), St h (· = l) L h' [("heap", .ref l), ("startpos", .int sp t1), ("pos", .int q t), ("newitem", x)] ∧ Lst h' l us ∧ q < us.length ∧ us.length = vs.length ∧ us.set q x = sdown Value.none (fun x y => lt y x) vs sp p)
    (Rn.whileS (fun n h' => ∃ (q : Nat) (t : Tok) (us : List Value), n = q ∧ St h (· = l) L h' [("heap", .ref l), ("startpos", .int sp t1), ("pos", .int q t), ("newitem", x)] ∧ Lst h' l us ∧ q < us.length ∧ us.length = vs.length ∧ (∀ v ∈ us, S v) ∧
      sdGo (fun x y => lt y x) x sp (q + 1) us q = sdown Value.none (fun x y => lt y x) vs sp p) ?_ p ⟨p, t2, vs, rfl, S₂, H₂, hp, rfl, hS, ?_⟩) ?_
  · rintro q h₃ ⟨_, t, us, rfl, S₃, H₃, hq, hlen, hSu, hgo⟩
    walk_at "evs"
    split
    · rename_i hgt
      have hgt : sp < q := by simpa using hgt
      have hpar : ((q : Int) - 1).fdiv (2 ^ (1 : Int).toNat) = (((q - 1) / 2 : Nat) : Int) := by
        show ((q : Int) - 1).fdiv 2 = _
        rw [Int.fdiv_eq_ediv_of_nonneg _ (by decide)]; omega
      obtain ⟨y, hy⟩ : ∃ y, us[(q - 1) / 2]? = some y := ⟨_, List.getElem?_eq_getElem (by omega)⟩
      have hSx : S x := hS x (List.mem_of_getElem? hx)
      have hSy : S y := hSu y (List.mem_of_getElem? hy)
      rw [sdGo, if_pos hgt, hy] at hgo
      dsimp only at hgo
      -- parentpos = pos - 1 >> 1
      refine Rn.opq fun PB hB => ?_
      refine Rn.seq (I := fun h' => ∃ t', St h (· = l) L h' [("heap", .ref l), ("startpos", .int sp t1), ("pos", .int q t), ("newitem", x), ("parentpos", .int ((q - 1) / 2 : Nat) t')] ∧ Lst h' l us) (Rn.opq fun PQ hPQ => Rn.assignName ?_) ?_
      · walk_at "evs"
        rw [hpar]
        exact Rn.storeS S₃ fun h' S' hs => hPQ _ _ ⟨rfl, _, S'.sub (by walk_at "subs"), H₃.ext hs.extBut hlL⟩
      rintro h₄ ⟨t', S₄, H₄⟩
      -- parent = heap[parentpos]
      refine Rn.seq (I := fun h' => St h (· = l) L h' [("heap", .ref l), ("startpos", .int sp t1), ("pos", .int q t), ("newitem", x), ("parentpos", .int ((q - 1) / 2 : Nat) t'), ("parent", y)] ∧ Lst h' l us) (Rn.opq fun PQ hPQ => Rn.assignName ?_) ?_
      · walk_at "evs"
        refine Pv.val (Pv.itemList H₄ (by omega) (by omega) (by rw [Int.toNat_natCast]; exact hy)) ?_
        exact Rn.storeS S₄ fun h' S' hs => hPQ _ _ ⟨rfl, S'.sub (by walk_at "subs"), H₄.ext hs.extBut hlL⟩
      rintro h₅ ⟨S₅, H₅⟩
      -- if parent < newitem
      refine Rn.cons (Rn.ifS ?_)
      walk_at "evs"
      refine Pv.val (C _ _ _ _ (hA'.le (by decide)) (fun b o hb e => S₅.ext b o hb e) hSy hSx) ?_
      walk_at "evs"
      cases hc : lt y x with
      | true =>
        rw [if_pos rfl]
        rw [hc] at hgo
        refine Rn.seq (I := fun h' => St h (· = l) L h' [("heap", .ref l), ("startpos", .int sp t1), ("pos", .int q t), ("newitem", x), ("parentpos", .int ((q - 1) / 2 : Nat) t')] ∧ Lst h' l (us.set q y)) (Rn.opq fun PQ hPQ => Rn.assignSub ?_) ?_
        · walk_at "evs"
          refine Rn.setList H₅ (by omega) (by omega) (by omega) fun h' H' hs => hPQ _ _ ⟨rfl, ?_, by simpa using H'⟩
          exact (S₅.other hs.extBut hlL.symm (.inl rfl)).sub (by walk_at "subs")
        rintro h₆ ⟨S₆, H₆⟩
        refine Rn.seq (I := fun h' => St h (· = l) L h' [("heap", .ref l), ("startpos", .int sp t1), ("pos", .int ((q - 1) / 2 : Nat) t'), ("newitem", x)] ∧ Lst h' l (us.set q y)) (Rn.opq fun PQ hPQ => Rn.assignName ?_) ?_
        · walk_at "evs"
          exact Rn.storeS S₆ fun h' S' hs => hPQ _ _ ⟨rfl, S'.sub (by walk_at "subs"), H₆.ext hs.extBut hlL⟩
        rintro h₇ ⟨S₇, H₇⟩
        refine Rn.cons (Rn.cont <| hB _ _ ⟨(q - 1) / 2, by omega, (q - 1) / 2, t', us.set q y, rfl, S₇, H₇, by rw [List.length_set]; omega, by rw [List.length_set]; exact hlen, mem_set_of hSu hSy, ?_⟩)
        rw [if_pos rfl] at hgo
        rw [← hgo]; exact sdGo_fuel (by omega) (by omega)
      | false =>
        rw [if_neg Bool.false_ne_true]
        rw [hc, if_neg Bool.false_ne_true] at hgo
        refine Rn.nil (Rn.cons (Rn.brk ?_))
        exact hB _ _ ⟨rfl, q, t, us, S₅.sub (by walk_at "subs"), H₅, hq, hlen, hgo⟩
    · rename_i hgt
      have hgt : ¬ sp < q := by simpa using hgt
      rw [sdGo, if_neg hgt] at hgo
      exact ⟨rfl, q, t, us, S₃, H₃, hq, hlen, hgo⟩
  · unfold sdown; rw [getD_of hx]
  · rintro h₃ ⟨q, t, us, S₃, H₃, hq, hlen, hgo⟩
    refine Rn.seq (I := fun h' => Lst h' l (sdown Value.none (fun x y => lt y x) vs sp p) ∧ Heap.ExtBut l h h') (Rn.opq fun PQ hPQ => Rn.assignSub ?_) ?_
    · walk_at "evs"
      refine Rn.setList H₃ (by omega) (by omega) (by omega) fun h' H' hs => hPQ _ _ ⟨rfl, by rw [← hgo]; simpa using H', ?_⟩
      exact fun b o hb e => (S₃.other hs.extBut hlL.symm (.inl rfl)).ext b o hb e
    · rintro h₄ ⟨H₄, X₄⟩
      exact Rn.nil (kk h₄ H₄ X₄)
theorem su_max {vs : List Value} {p : Nat} {t2 : Tok} {P : Value → Heap → Prop} (hA : Ok 7 A) (W : Wd b) (K : Kp b h) (hb : b.get? l = none)
    (H : Lst h l vs) (C : CmpF prog w h l S lt) (hS : ∀ v ∈ vs, S v) (hp : p < vs.length) (hsz : vs.length < 1000)
    (kk : ∀ h', Lst h' l (sup Value.none (fun x y => lt y x) vs p) → Heap.ExtBut l h h' → P .none h') :
    Rn prog w A h (call (.ref 70) [.ref l, .int p t2]) P := by
  refine Rn.callDef (k := 6) (n := 8) (binds := [("heap", .ref l), ("pos", .int p t2)]) hA ((W.fn _ _ _ (by rfl)).keeps K) (W.lim.keeps K) (fun _ _ _ _ _ _ _ _ _ => BindsTo.of_eq rfl) ?_
  intro qual cdv L h₁ S₁ hA'
  have hlL : l ≠ L := by obtain ⟨n, e⟩ := H; exact S₁.ne e
  obtain ⟨x, hx⟩ : ∃ x, vs[p]? = some x := ⟨vs[p], by simp [hp]⟩
  have H₁ := H.keeps S₁.kp
  have hXb : ∀ a, a = l → b.get? a = none := fun a e => e ▸ hb
  have K₁ := S₁.base K (fun _ q => q.elim)
  -- endpos = len(heap)
  refine Rn.seq (I := fun h' => ∃ t, St h (· = l) L h' [("heap", .ref l), ("pos", .int p t2), ("endpos", .int vs.length t)] ∧ Lst h' l vs) (Rn.opq fun PQ hPQ => Rn.assignName ?_) ?_
  · walk_at "evs"
    refine Pv.thenI (Pv.lenL H₁ hsz) fun t => ?_
    exact Rn.storeS S₁ fun h' S' hs => hPQ _ _ ⟨rfl, _, (S'.weak fun _ q => q.elim).sub (by walk_at "subs"), H₁.ext hs.extBut hlL⟩
  rintro h₂ ⟨te, S₂, H₂⟩
  -- startpos = pos
  refine Rn.seq (I := fun h' => St h (· = l) L h' [("heap", .ref l), ("pos", .int p t2), ("endpos", .int vs.length te), ("startpos", .int p t2)] ∧ Lst h' l vs) (Rn.opq fun PQ hPQ => Rn.assignName ?_) ?_
  · walk_at "evs"
    exact Rn.storeS S₂ fun h' S' hs => hPQ _ _ ⟨rfl, S'.sub (by walk_at "subs"), H₂.ext hs.extBut hlL⟩
  rintro h₃ ⟨S₃, H₃⟩
  -- newitem = heap[pos]
  refine Rn.seq (I := fun h' => St h (· = l) L h' [("heap", .ref l), ("pos", .int p t2), ("endpos", .int vs.length te), ("startpos", .int p t2), ("newitem", x)] ∧ Lst h' l vs) (Rn.opq fun PQ hPQ => Rn.assignName ?_) ?_
  · walk_at "evs"
    refine Pv.val (Pv.itemList H₃ (by omega) (by omega) hx) ?_
    exact Rn.storeS S₃ fun h' S' hs => hPQ _ _ ⟨rfl, S'.sub (by walk_at "subs"), H₃.ext hs.extBut hlL⟩
  rintro h₄ ⟨S₄, H₄⟩
  -- childpos = 2 * pos + 1
  refine Rn.seq (I := fun h' => ∃ t, St h (· = l) L h' [("heap", .ref l), ("pos", .int p t2), ("endpos", .int vs.length te), ("startpos", .int p t2), ("newitem", x), ("childpos", .int (2 * p + 1 : Nat) t)] ∧ Lst h' l vs) (Rn.opq fun PQ hPQ => Rn.assignName ?_) ?_
  · walk_at "evs"
    refine Pv.thenI (Pv.mulI (IntMulOk.of_left (by decide))) fun _ => ?_
    walk_at "evs"
    exact Rn.storeS S₄ fun h' S' hs => hPQ _ _ ⟨rfl, _, S'.sub (by walk_at "subs"), H₄.ext hs.extBut hlL⟩
  rintro h₅ ⟨tc, S₅, H₅⟩
  -- the loop
  refine Rn.seq (I := fun h' => ∃ (q : Nat) (t : Tok) (us : List Value), St h (· = l) L h' [("heap", .ref l), ("pos", .int q t), ("startpos", .int p t2), ("newitem", x)] ∧ Lst h' l us ∧ q < us.length ∧ us.length = vs.length ∧ (∀ v ∈ us, S v) ∧ (us, q) = suGo Value.none (fun x y => lt y x) vs.length vs p)
    (Rn.whileS (fun n h' => ∃ (q : Nat) (t t' : Tok) (us : List Value), n = us.length - q ∧ St h (· = l) L h' [("heap", .ref l), ("pos", .int q t), ("endpos", .int vs.length te), ("startpos", .int p t2), ("newitem", x), ("childpos", .int (2 * q + 1 : Nat) t')] ∧ Lst h' l us ∧
      q < us.length ∧ us.length = vs.length ∧ (∀ v ∈ us, S v) ∧ suGo Value.none (fun x y => lt y x) vs.length us q = suGo Value.none (fun x y => lt y x) vs.length vs p) ?_ (vs.length - p) ⟨p, t2, tc, vs, rfl, S₅, H₅, hp, rfl, hS, rfl⟩) ?_
  · rintro _ h₆ ⟨q, t, t', us, rfl, S₆, H₆, hq, hlen, hSu, hgo⟩
    walk_at "evs"
    split
    · rename_i hlt
      have hlt : 2 * q + 1 < us.length := by have := of_decide_eq_true hlt; omega
      obtain ⟨yc, hyc⟩ : ∃ y, us[2 * q + 1]? = some y := ⟨_, List.getElem?_eq_getElem hlt⟩
      have hpk := pick_lt (d := Value.none) (bf := fun x y => lt y x) hlt
      obtain ⟨y, hy⟩ : ∃ y, us[pick Value.none (fun x y => lt y x) us (2 * q + 1)]? = some y := ⟨_, List.getElem?_eq_getElem hpk.2⟩
      -- rightpos = childpos + 1
      refine Rn.opq fun PB hB => ?_
      refine Rn.seq (I := fun h' => ∃ tr, St h (· = l) L h' [("heap", .ref l), ("pos", .int q t), ("endpos", .int vs.length te), ("startpos", .int p t2), ("newitem", x), ("childpos", .int (2 * q + 1 : Nat) t'), ("rightpos", .int (2 * q + 2 : Nat) tr)] ∧ Lst h' l us) (Rn.opq fun PQ hPQ => Rn.assignName ?_) ?_
      · walk_at "evs"
        exact Rn.storeS S₆ fun h' S' hs => hPQ _ _ ⟨rfl, _, S'.sub (by walk_at "subs"), H₆.ext hs.extBut hlL⟩
      rintro h₇ ⟨tr, S₇, H₇⟩
      -- the right child?
      refine Rn.seq (I := fun h' => ∃ tc, St h (· = l) L h' [("heap", .ref l), ("pos", .int q t), ("endpos", .int vs.length te), ("startpos", .int p t2), ("newitem", x), ("childpos", .int (pick Value.none (fun x y => lt y x) us (2 * q + 1) : Nat) tc)] ∧ Lst h' l us) (Rn.ifS ?_) ?_
      · walk_at "evs"
        split
        · rename_i hr
          have hr : 2 * q + 2 < us.length := by have := of_decide_eq_true hr; omega
          obtain ⟨yr, hyr⟩ : ∃ y, us[2 * q + 2]? = some y := ⟨_, List.getElem?_eq_getElem hr⟩
          have hpe : pick Value.none (fun x y => lt y x) us (2 * q + 1) = if lt yr yc = true then 2 * q + 1 else 2 * q + 2 := by
            unfold pick; rw [if_pos hr, getD_of hyc, getD_of hyr]
          walk_at "evs"
          refine Pv.val (Pv.itemList H₇ (by omega) (by omega) (by rw [Int.toNat_natCast]; exact hyr)) ?_
          walk_at "evs"
          refine Pv.val (Pv.itemList H₇ (by omega) (by omega) (by rw [Int.toNat_natCast]; exact hyc)) ?_
          refine Pv.val (C _ _ _ _ (hA'.le (by decide)) (fun b o hb e => S₇.ext b o hb e) (hSu _ (List.mem_of_getElem? hyr)) (hSu _ (List.mem_of_getElem? hyc))) ?_
          walk_at "evs"
          cases hc : lt yr yc with
          | true =>
            rw [hc, if_pos rfl] at hpe
            refine Rn.nil ⟨rfl, t', ?_, H₇⟩
            rw [hpe]; exact S₇.sub (by walk_at "subs")
          | false =>
            rw [hc, if_neg Bool.false_ne_true] at hpe
            rw [if_pos (show (!false) = true from rfl)]
            refine Rn.andNil ?_
            rw [if_pos rfl]
            refine Rn.seq (I := fun h' => St h (· = l) L h' [("heap", .ref l), ("pos", .int q t), ("endpos", .int vs.length te), ("startpos", .int p t2), ("newitem", x), ("childpos", .int (2 * q + 2 : Nat) tr)] ∧ Lst h' l us) (Rn.opq fun PQ hPQ => Rn.assignName ?_) ?_
            · walk_at "evs"
              exact Rn.storeS S₇ fun h' S' hs => hPQ _ _ ⟨rfl, S'.sub (by walk_at "subs"), H₇.ext hs.extBut hlL⟩
            · rintro h₈ ⟨S₈, H₈⟩
              refine Rn.nil ⟨rfl, tr, ?_, H₈⟩
              rw [hpe]; exact S₈
        · rename_i hr
          have hr : ¬ 2 * q + 2 < us.length := by have := mt decide_eq_true hr; omega
          have hpe : pick Value.none (fun x y => lt y x) us (2 * q + 1) = 2 * q + 1 := by unfold pick; rw [if_neg hr]
          rw [if_neg Bool.false_ne_true]
          refine Rn.nil ⟨rfl, t', ?_, H₇⟩
          rw [hpe]; exact S₇.sub (by walk_at "subs")
      rintro h₈ ⟨tc, S₈, H₈⟩
      generalize hcd : pick Value.none (fun x y => lt y x) us (2 * q + 1) = c at *
      -- heap[pos] = heap[childpos]
      refine Rn.seq (I := fun h' => St h (· = l) L h' [("heap", .ref l), ("pos", .int q t), ("endpos", .int vs.length te), ("startpos", .int p t2), ("newitem", x), ("childpos", .int c tc)] ∧ Lst h' l (us.set q y)) (Rn.opq fun PQ hPQ => Rn.assignSub ?_) ?_
      · walk_at "evs"
        refine Pv.val (Pv.itemList H₈ (by omega) (by omega) (by rw [Int.toNat_natCast]; exact hy)) ?_
        walk_at "evs"
        refine Rn.setList H₈ (by omega) (by omega) (by omega) fun h' H' hs => hPQ _ _ ⟨rfl, ?_, by simpa using H'⟩
        exact S₈.other hs.extBut hlL.symm (.inl rfl)
      rintro h₉ ⟨S₉, H₉⟩
      -- pos = childpos
      refine Rn.seq (I := fun h' => St h (· = l) L h' [("heap", .ref l), ("pos", .int c tc), ("endpos", .int vs.length te), ("startpos", .int p t2), ("newitem", x)] ∧ Lst h' l (us.set q y)) (Rn.opq fun PQ hPQ => Rn.assignName ?_) ?_
      · walk_at "evs"
        exact Rn.storeS S₉ fun h' S' hs => hPQ _ _ ⟨rfl, S'.sub (by walk_at "subs"), H₉.ext hs.extBut hlL⟩
      rintro h₁₀ ⟨S₁₀, H₁₀⟩
      -- childpos = 2 * pos + 1
      refine Rn.seq (I := fun h' => ∃ t', St h (· = l) L h' [("heap", .ref l), ("pos", .int c tc), ("endpos", .int vs.length te), ("startpos", .int p t2), ("newitem", x), ("childpos", .int (2 * c + 1 : Nat) t')] ∧ Lst h' l (us.set q y)) (Rn.opq fun PQ hPQ => Rn.assignName ?_) ?_
      · walk_at "evs"
        refine Pv.thenI (Pv.mulI (IntMulOk.of_left (by decide))) fun _ => ?_
        walk_at "evs"
        exact Rn.storeS S₁₀ fun h' S' hs => hPQ _ _ ⟨rfl, _, S'.sub (by walk_at "subs"), H₁₀.ext hs.extBut hlL⟩
      rintro h₁₁ ⟨t'', S₁₁, H₁₁⟩
      refine Rn.nil <| hB _ _ ⟨(us.set q y).length - c, by rw [List.length_set]; omega, c, tc, t'', us.set q y, rfl, S₁₁, H₁₁, by rw [List.length_set]; exact hpk.2, by rw [List.length_set]; exact hlen, mem_set_of hSu (hSu _ (List.mem_of_getElem? hy)), ?_⟩
      rw [← hgo]
      have e1 : suGo Value.none (fun x y => lt y x) vs.length us q = suGo Value.none (fun x y => lt y x) (vs.length + 1) us q := suGo_fuel (by omega) (by omega)
      rw [e1]
      conv => rhs; rw [suGo]
      rw [if_pos hlt, hcd, getD_of hy]
    · rename_i hlt
      have hlt : ¬ 2 * q + 1 < us.length := by have := mt decide_eq_true hlt; omega
      refine ⟨rfl, q, t, us, S₆.sub (by walk_at "subs"), H₆, hq, hlen, hSu, ?_⟩
      rw [← hgo]
      cases hn : vs.length with
      | zero => rfl
      | succ n => rw [suGo, if_neg hlt]
  rintro h₆ ⟨q, t, us, S₆, H₆, hq, hlen, hSu, hgo⟩
  have e1 : (suGo Value.none (fun x y => lt y x) vs.length vs p).1 = us := by rw [← hgo]
  have e2 : (suGo Value.none (fun x y => lt y x) vs.length vs p).2 = q := by rw [← hgo]
  -- heap[pos] = newitem
  refine Rn.seq (I := fun h' => St h (· = l) L h' [("heap", .ref l), ("pos", .int q t), ("startpos", .int p t2), ("newitem", x)] ∧ Lst h' l (us.set q x)) (Rn.opq fun PQ hPQ => Rn.assignSub ?_) ?_
  · walk_at "evs"
    refine Rn.setList H₆ (by omega) (by omega) (by omega) fun h' H' hs => hPQ _ _ ⟨rfl, ?_, by simpa using H'⟩
    exact S₆.other hs.extBut hlL.symm (.inl rfl)
  rintro h₇ ⟨S₇, H₇⟩
  have K₇ := S₇.base K hXb
  have X₇ : Heap.ExtBut l h h₇ := fun b o hb e => S₇.ext b o hb e
  -- _siftdown(heap, startpos, pos)
  refine Rn.cons (Rn.exprS ?_)
  walk_at "evs"
  refine ⟨K₇, ?_⟩
  refine sd_max (hA'.le (by decide)) W K₇ hb H₇ (C.on X₇) (mem_set_of hSu (hS x (List.mem_of_getElem? hx))) (by rw [List.length_set]; exact hq) (by rw [List.length_set]; omega) fun h' H' X' => ⟨fun a e => (nomatch e), Rn.nil ?_⟩
  refine kk h' ?_ (X₇.trans X')
  unfold sup
  rw [e1, e2, getD_of hx]
  exact H'
theorem sd_min {vs : List Value} {sp p : Nat} {t1 t2 : Tok} {P : Value → Heap → Prop} (hA : Ok 5 A) (W : Wd b) (K : Kp b h) (hb : b.get? l = none)
    (H : Lst h l vs) (C : CmpF prog w h l S lt) (hS : ∀ v ∈ vs, S v) (hp : p < vs.length) (hsz : vs.length < 1000)
    (kk : ∀ h', Lst h' l (sdown Value.none (fun x y => lt x y) vs sp p) → Heap.ExtBut l h h' → P .none h') :
    Rn prog w A h (call (.ref 49) [.ref l, .int sp t1, .int p t2]) P := by
  refine Rn.callDef (k := 4) (n := 5) (binds := [("heap", .ref l), ("startpos", .int sp t1), ("pos", .int p t2)]) hA ((W.fn _ _ _ (by rfl)).keeps K) (W.lim.keeps K) (fun _ _ _ _ _ _ _ _ _ => BindsTo.of_eq rfl) ?_
  intro qual cdv L h₁ S₁ hA'
  have hlL : l ≠ L := by obtain ⟨n, e⟩ := H; exact S₁.ne e
  obtain ⟨x, hx⟩ : ∃ x, vs[p]? = some x := ⟨vs[p], by simp [hp]⟩
  have H₁ := H.keeps S₁.kp
  -- newitem = heap[pos]
  refine Rn.seq (I := fun h' => St h (· = l) L h' [("heap", .ref l), ("startpos", .int sp t1), ("pos", .int p t2), ("newitem", x)] ∧ Lst h' l vs) (Rn.opq fun PQ hPQ => Rn.assignName ?_) ?_
  · walk_at "evs"
    refine Pv.val (Pv.itemList H₁ (by omega) (by omega) hx) ?_
    exact Rn.storeS S₁ fun h' S' hs => hPQ _ _ ⟨rfl, (S'.weak fun _ q => q.elim).sub (by walk_at "subs"), H₁.ext hs.extBut hlL⟩
  rintro h₂ ⟨S₂, H₂⟩
  -- the loop
  refine Rn.seq (I := fun h' => ∃ (q : Nat) (t : Tok) (us : List Value), St h (· = l) L h' [("heap", .ref l), ("startpos", .int sp t1), ("pos", .int q t), ("newitem", x)] ∧ Lst h' l us ∧ q < us.length ∧ us.length = vs.length ∧ us.set q x = sdown Value.none (fun x y => lt x y) vs sp p)
    (Rn.whileS (fun n h' => ∃ (q : Nat) (t : Tok) (us : List Value), n = q ∧ St h (· = l) L h' [("heap", .ref l), ("startpos", .int sp t1), ("pos", .int q t), ("newitem", x)] ∧ Lst h' l us ∧ q < us.length ∧ us.length = vs.length ∧ (∀ v ∈ us, S v) ∧
      sdGo (fun x y => lt x y) x sp (q + 1) us q = sdown Value.none (fun x y => lt x y) vs sp p) ?_ p ⟨p, t2, vs, rfl, S₂, H₂, hp, rfl, hS, ?_⟩) ?_
  · rintro q h₃ ⟨_, t, us, rfl, S₃, H₃, hq, hlen, hSu, hgo⟩
    walk_at "evs"
    split
    · rename_i hgt
      have hgt : sp < q := by simpa using hgt
      have hpar : ((q : Int) - 1).fdiv (2 ^ (1 : Int).toNat) = (((q - 1) / 2 : Nat) : Int) := by
        show ((q : Int) - 1).fdiv 2 = _
        rw [Int.fdiv_eq_ediv_of_nonneg _ (by decide)]; omega
      obtain ⟨y, hy⟩ : ∃ y, us[(q - 1) / 2]? = some y := ⟨_, List.getElem?_eq_getElem (by omega)⟩
      have hSx : S x := hS x (List.mem_of_getElem? hx)
      have hSy : S y := hSu y (List.mem_of_getElem? hy)
      rw [sdGo, if_pos hgt, hy] at hgo
      dsimp only at hgo
      -- parentpos = pos - 1 >> 1
      refine Rn.opq fun PB hB => ?_
      refine Rn.seq (I := fun h' => ∃ t', St h (· = l) L h' [("heap", .ref l), ("startpos", .int sp t1), ("pos", .int q t), ("newitem", x), ("parentpos", .int ((q - 1) / 2 : Nat) t')] ∧ Lst h' l us) (Rn.opq fun PQ hPQ => Rn.assignName ?_) ?_
      · walk_at "evs"
        rw [hpar]
        exact Rn.storeS S₃ fun h' S' hs => hPQ _ _ ⟨rfl, _, S'.sub (by walk_at "subs"), H₃.ext hs.extBut hlL⟩
      rintro h₄ ⟨t', S₄, H₄⟩
      -- parent = heap[parentpos]
      refine Rn.seq (I := fun h' => St h (· = l) L h' [("heap", .ref l), ("startpos", .int sp t1), ("pos", .int q t), ("newitem", x), ("parentpos", .int ((q - 1) / 2 : Nat) t'), ("parent", y)] ∧ Lst h' l us) (Rn.opq fun PQ hPQ => Rn.assignName ?_) ?_
      · walk_at "evs"
        refine Pv.val (Pv.itemList H₄ (by omega) (by omega) (by rw [Int.toNat_natCast]; exact hy)) ?_
        exact Rn.storeS S₄ fun h' S' hs => hPQ _ _ ⟨rfl, S'.sub (by walk_at "subs"), H₄.ext hs.extBut hlL⟩
      rintro h₅ ⟨S₅, H₅⟩
      -- if parent < newitem
      refine Rn.cons (Rn.ifS ?_)
      walk_at "evs"
      refine Pv.val (C _ _ _ _ (hA'.le (by decide)) (fun b o hb e => S₅.ext b o hb e) hSx hSy) ?_
      walk_at "evs"
      cases hc : lt x y with
      | true =>
        rw [if_pos rfl]
        rw [hc] at hgo
        refine Rn.seq (I := fun h' => St h (· = l) L h' [("heap", .ref l), ("startpos", .int sp t1), ("pos", .int q t), ("newitem", x), ("parentpos", .int ((q - 1) / 2 : Nat) t')] ∧ Lst h' l (us.set q y)) (Rn.opq fun PQ hPQ => Rn.assignSub ?_) ?_
        · walk_at "evs"
          refine Rn.setList H₅ (by omega) (by omega) (by omega) fun h' H' hs => hPQ _ _ ⟨rfl, ?_, by simpa using H'⟩
          exact (S₅.other hs.extBut hlL.symm (.inl rfl)).sub (by walk_at "subs")
        rintro h₆ ⟨S₆, H₆⟩
        refine Rn.seq (I := fun h' => St h (· = l) L h' [("heap", .ref l), ("startpos", .int sp t1), ("pos", .int ((q - 1) / 2 : Nat) t'), ("newitem", x)] ∧ Lst h' l (us.set q y)) (Rn.opq fun PQ hPQ => Rn.assignName ?_) ?_
        · walk_at "evs"
          exact Rn.storeS S₆ fun h' S' hs => hPQ _ _ ⟨rfl, S'.sub (by walk_at "subs"), H₆.ext hs.extBut hlL⟩
        rintro h₇ ⟨S₇, H₇⟩
        refine Rn.cons (Rn.cont <| hB _ _ ⟨(q - 1) / 2, by omega, (q - 1) / 2, t', us.set q y, rfl, S₇, H₇, by rw [List.length_set]; omega, by rw [List.length_set]; exact hlen, mem_set_of hSu hSy, ?_⟩)
        rw [if_pos rfl] at hgo
        rw [← hgo]; exact sdGo_fuel (by omega) (by omega)
      | false =>
        rw [if_neg Bool.false_ne_true]
        rw [hc, if_neg Bool.false_ne_true] at hgo
        refine Rn.nil (Rn.cons (Rn.brk ?_))
        exact hB _ _ ⟨rfl, q, t, us, S₅.sub (by walk_at "subs"), H₅, hq, hlen, hgo⟩
    · rename_i hgt
      have hgt : ¬ sp < q := by simpa using hgt
      rw [sdGo, if_neg hgt] at hgo
      exact ⟨rfl, q, t, us, S₃, H₃, hq, hlen, hgo⟩
  · unfold sdown; rw [getD_of hx]
  · rintro h₃ ⟨q, t, us, S₃, H₃, hq, hlen, hgo⟩
    refine Rn.seq (I := fun h' => Lst h' l (sdown Value.none (fun x y => lt x y) vs sp p) ∧ Heap.ExtBut l h h') (Rn.opq fun PQ hPQ => Rn.assignSub ?_) ?_
    · walk_at "evs"
      refine Rn.setList H₃ (by omega) (by omega) (by omega) fun h' H' hs => hPQ _ _ ⟨rfl, by rw [← hgo]; simpa using H', ?_⟩
      exact fun b o hb e => (S₃.other hs.extBut hlL.symm (.inl rfl)).ext b o hb e
    · rintro h₄ ⟨H₄, X₄⟩
      exact Rn.nil (kk h₄ H₄ X₄)
theorem su_min {vs : List Value} {p : Nat} {t2 : Tok} {P : Value → Heap → Prop} (hA : Ok 7 A) (W : Wd b) (K : Kp b h) (hb : b.get? l = none)
    (H : Lst h l vs) (C : CmpF prog w h l S lt) (hS : ∀ v ∈ vs, S v) (hp : p < vs.length) (hsz : vs.length < 1000)
    (kk : ∀ h', Lst h' l (sup Value.none (fun x y => lt x y) vs p) → Heap.ExtBut l h h' → P .none h') :
    Rn prog w A h (call (.ref 56) [.ref l, .int p t2]) P := by
  refine Rn.callDef (k := 6) (n := 6) (binds := [("heap", .ref l), ("pos", .int p t2)]) hA ((W.fn _ _ _ (by rfl)).keeps K) (W.lim.keeps K) (fun _ _ _ _ _ _ _ _ _ => BindsTo.of_eq rfl) ?_
  intro qual cdv L h₁ S₁ hA'
  have hlL : l ≠ L := by obtain ⟨n, e⟩ := H; exact S₁.ne e
  obtain ⟨x, hx⟩ : ∃ x, vs[p]? = some x := ⟨vs[p], by simp [hp]⟩
  have H₁ := H.keeps S₁.kp
  have hXb : ∀ a, a = l → b.get? a = none := fun a e => e ▸ hb
  have K₁ := S₁.base K (fun _ q => q.elim)
  -- endpos = len(heap)
  refine Rn.seq (I := fun h' => ∃ t, St h (· = l) L h' [("heap", .ref l), ("pos", .int p t2), ("endpos", .int vs.length t)] ∧ Lst h' l vs) (Rn.opq fun PQ hPQ => Rn.assignName ?_) ?_
  · walk_at "evs"
    refine Pv.thenI (Pv.lenL H₁ hsz) fun t => ?_
    exact Rn.storeS S₁ fun h' S' hs => hPQ _ _ ⟨rfl, _, (S'.weak fun _ q => q.elim).sub (by walk_at "subs"), H₁.ext hs.extBut hlL⟩
  rintro h₂ ⟨te, S₂, H₂⟩
  -- startpos = pos
  refine Rn.seq (I := fun h' => St h (· = l) L h' [("heap", .ref l), ("pos", .int p t2), ("endpos", .int vs.length te), ("startpos", .int p t2)] ∧ Lst h' l vs) (Rn.opq fun PQ hPQ => Rn.assignName ?_) ?_
  · walk_at "evs"
    exact Rn.storeS S₂ fun h' S' hs => hPQ _ _ ⟨rfl, S'.sub (by walk_at "subs"), H₂.ext hs.extBut hlL⟩
  rintro h₃ ⟨S₃, H₃⟩
  -- newitem = heap[pos]
  refine Rn.seq (I := fun h' => St h (· = l) L h' [("heap", .ref l), ("pos", .int p t2), ("endpos", .int vs.length te), ("startpos", .int p t2), ("newitem", x)] ∧ Lst h' l vs) (Rn.opq fun PQ hPQ => Rn.assignName ?_) ?_
  · walk_at "evs"
    refine Pv.val (Pv.itemList H₃ (by omega) (by omega) hx) ?_
    exact Rn.storeS S₃ fun h' S' hs => hPQ _ _ ⟨rfl, S'.sub (by walk_at "subs"), H₃.ext hs.extBut hlL⟩
  rintro h₄ ⟨S₄, H₄⟩
  -- childpos = 2 * pos + 1
  refine Rn.seq (I := fun h' => ∃ t, St h (· = l) L h' [("heap", .ref l), ("pos", .int p t2), ("endpos", .int vs.length te), ("startpos", .int p t2), ("newitem", x), ("childpos", .int (2 * p + 1 : Nat) t)] ∧ Lst h' l vs) (Rn.opq fun PQ hPQ => Rn.assignName ?_) ?_
  · walk_at "evs"
    refine Pv.thenI (Pv.mulI (IntMulOk.of_left (by decide))) fun _ => ?_
    walk_at "evs"
    exact Rn.storeS S₄ fun h' S' hs => hPQ _ _ ⟨rfl, _, S'.sub (by walk_at "subs"), H₄.ext hs.extBut hlL⟩
  rintro h₅ ⟨tc, S₅, H₅⟩
  -- the loop
  refine Rn.seq (I := fun h' => ∃ (q : Nat) (t : Tok) (us : List Value), St h (· = l) L h' [("heap", .ref l), ("pos", .int q t), ("startpos", .int p t2), ("newitem", x)] ∧ Lst h' l us ∧ q < us.length ∧ us.length = vs.length ∧ (∀ v ∈ us, S v) ∧ (us, q) = suGo Value.none (fun x y => lt x y) vs.length vs p)
    (Rn.whileS (fun n h' => ∃ (q : Nat) (t t' : Tok) (us : List Value), n = us.length - q ∧ St h (· = l) L h' [("heap", .ref l), ("pos", .int q t), ("endpos", .int vs.length te), ("startpos", .int p t2), ("newitem", x), ("childpos", .int (2 * q + 1 : Nat) t')] ∧ Lst h' l us ∧
      q < us.length ∧ us.length = vs.length ∧ (∀ v ∈ us, S v) ∧ suGo Value.none (fun x y => lt x y) vs.length us q = suGo Value.none (fun x y => lt x y) vs.length vs p) ?_ (vs.length - p) ⟨p, t2, tc, vs, rfl, S₅, H₅, hp, rfl, hS, rfl⟩) ?_
  · rintro _ h₆ ⟨q, t, t', us, rfl, S₆, H₆, hq, hlen, hSu, hgo⟩
    walk_at "evs"
    split
    · rename_i hlt
      have hlt : 2 * q + 1 < us.length := by have := of_decide_eq_true hlt; omega
      obtain ⟨yc, hyc⟩ : ∃ y, us[2 * q + 1]? = some y := ⟨_, List.getElem?_eq_getElem hlt⟩
      have hpk := pick_lt (d := Value.none) (bf := fun x y => lt x y) hlt
      obtain ⟨y, hy⟩ : ∃ y, us[pick Value.none (fun x y => lt x y) us (2 * q + 1)]? = some y := ⟨_, List.getElem?_eq_getElem hpk.2⟩
      -- rightpos = childpos + 1
      refine Rn.opq fun PB hB => ?_
      refine Rn.seq (I := fun h' => ∃ tr, St h (· = l) L h' [("heap", .ref l), ("pos", .int q t), ("endpos", .int vs.length te), ("startpos", .int p t2), ("newitem", x), ("childpos", .int (2 * q + 1 : Nat) t'), ("rightpos", .int (2 * q + 2 : Nat) tr)] ∧ Lst h' l us) (Rn.opq fun PQ hPQ => Rn.assignName ?_) ?_
      · walk_at "evs"
        exact Rn.storeS S₆ fun h' S' hs => hPQ _ _ ⟨rfl, _, S'.sub (by walk_at "subs"), H₆.ext hs.extBut hlL⟩
      rintro h₇ ⟨tr, S₇, H₇⟩
      -- the right child?
      refine Rn.seq (I := fun h' => ∃ tc, St h (· = l) L h' [("heap", .ref l), ("pos", .int q t), ("endpos", .int vs.length te), ("startpos", .int p t2), ("newitem", x), ("childpos", .int (pick Value.none (fun x y => lt x y) us (2 * q + 1) : Nat) tc)] ∧ Lst h' l us) (Rn.ifS ?_) ?_
      · walk_at "evs"
        split
        · rename_i hr
          have hr : 2 * q + 2 < us.length := by have := of_decide_eq_true hr; omega
          obtain ⟨yr, hyr⟩ : ∃ y, us[2 * q + 2]? = some y := ⟨_, List.getElem?_eq_getElem hr⟩
          have hpe : pick Value.none (fun x y => lt x y) us (2 * q + 1) = if lt yc yr = true then 2 * q + 1 else 2 * q + 2 := by
            unfold pick; rw [if_pos hr, getD_of hyc, getD_of hyr]
          walk_at "evs"
          refine Pv.val (Pv.itemList H₇ (by omega) (by omega) (by rw [Int.toNat_natCast]; exact hyc)) ?_
          walk_at "evs"
          refine Pv.val (Pv.itemList H₇ (by omega) (by omega) (by rw [Int.toNat_natCast]; exact hyr)) ?_
          refine Pv.val (C _ _ _ _ (hA'.le (by decide)) (fun b o hb e => S₇.ext b o hb e) (hSu _ (List.mem_of_getElem? hyc)) (hSu _ (List.mem_of_getElem? hyr))) ?_
          walk_at "evs"
          cases hc : lt yc yr with
          | true =>
            rw [hc, if_pos rfl] at hpe
            refine Rn.nil ⟨rfl, t', ?_, H₇⟩
            rw [hpe]; exact S₇.sub (by walk_at "subs")
          | false =>
            rw [hc, if_neg Bool.false_ne_true] at hpe
            rw [if_pos (show (!false) = true from rfl)]
            refine Rn.andNil ?_
            rw [if_pos rfl]
            refine Rn.seq (I := fun h' => St h (· = l) L h' [("heap", .ref l), ("pos", .int q t), ("endpos", .int vs.length te), ("startpos", .int p t2), ("newitem", x), ("childpos", .int (2 * q + 2 : Nat) tr)] ∧ Lst h' l us) (Rn.opq fun PQ hPQ => Rn.assignName ?_) ?_
            · walk_at "evs"
              exact Rn.storeS S₇ fun h' S' hs => hPQ _ _ ⟨rfl, S'.sub (by walk_at "subs"), H₇.ext hs.extBut hlL⟩
            · rintro h₈ ⟨S₈, H₈⟩
              refine Rn.nil ⟨rfl, tr, ?_, H₈⟩
              rw [hpe]; exact S₈
        · rename_i hr
          have hr : ¬ 2 * q + 2 < us.length := by have := mt decide_eq_true hr; omega
          have hpe : pick Value.none (fun x y => lt x y) us (2 * q + 1) = 2 * q + 1 := by unfold pick; rw [if_neg hr]
          rw [if_neg Bool.false_ne_true]
          refine Rn.nil ⟨rfl, t', ?_, H₇⟩
          rw [hpe]; exact S₇.sub (by walk_at "subs")
      rintro h₈ ⟨tc, S₈, H₈⟩
      generalize hcd : pick Value.none (fun x y => lt x y) us (2 * q + 1) = c at *
      -- heap[pos] = heap[childpos]
      refine Rn.seq (I := fun h' => St h (· = l) L h' [("heap", .ref l), ("pos", .int q t), ("endpos", .int vs.length te), ("startpos", .int p t2), ("newitem", x), ("childpos", .int c tc)] ∧ Lst h' l (us.set q y)) (Rn.opq fun PQ hPQ => Rn.assignSub ?_) ?_
      · walk_at "evs"
        refine Pv.val (Pv.itemList H₈ (by omega) (by omega) (by rw [Int.toNat_natCast]; exact hy)) ?_
        walk_at "evs"
        refine Rn.setList H₈ (by omega) (by omega) (by omega) fun h' H' hs => hPQ _ _ ⟨rfl, ?_, by simpa using H'⟩
        exact S₈.other hs.extBut hlL.symm (.inl rfl)
      rintro h₉ ⟨S₉, H₉⟩
      -- pos = childpos
      refine Rn.seq (I := fun h' => St h (· = l) L h' [("heap", .ref l), ("pos", .int c tc), ("endpos", .int vs.length te), ("startpos", .int p t2), ("newitem", x)] ∧ Lst h' l (us.set q y)) (Rn.opq fun PQ hPQ => Rn.assignName ?_) ?_
      · walk_at "evs"
        exact Rn.storeS S₉ fun h' S' hs => hPQ _ _ ⟨rfl, S'.sub (by walk_at "subs"), H₉.ext hs.extBut hlL⟩
      rintro h₁₀ ⟨S₁₀, H₁₀⟩
      -- childpos = 2 * pos + 1
      refine Rn.seq (I := fun h' => ∃ t', St h (· = l) L h' [("heap", .ref l), ("pos", .int c tc), ("endpos", .int vs.length te), ("startpos", .int p t2), ("newitem", x), ("childpos", .int (2 * c + 1 : Nat) t')] ∧ Lst h' l (us.set q y)) (Rn.opq fun PQ hPQ => Rn.assignName ?_) ?_
      · walk_at "evs"
        refine Pv.thenI (Pv.mulI (IntMulOk.of_left (by decide))) fun _ => ?_
        walk_at "evs"
        exact Rn.storeS S₁₀ fun h' S' hs => hPQ _ _ ⟨rfl, _, S'.sub (by walk_at "subs"), H₁₀.ext hs.extBut hlL⟩
      rintro h₁₁ ⟨t'', S₁₁, H₁₁⟩
      refine Rn.nil <| hB _ _ ⟨(us.set q y).length - c, by rw [List.length_set]; omega, c, tc, t'', us.set q y, rfl, S₁₁, H₁₁, by rw [List.length_set]; exact hpk.2, by rw [List.length_set]; exact hlen, mem_set_of hSu (hSu _ (List.mem_of_getElem? hy)), ?_⟩
      rw [← hgo]
      have e1 : suGo Value.none (fun x y => lt x y) vs.length us q = suGo Value.none (fun x y => lt x y) (vs.length + 1) us q := suGo_fuel (by omega) (by omega)
      rw [e1]
      conv => rhs; rw [suGo]
      rw [if_pos hlt, hcd, getD_of hy]
    · rename_i hlt
      have hlt : ¬ 2 * q + 1 < us.length := by have := mt decide_eq_true hlt; omega
      refine ⟨rfl, q, t, us, S₆.sub (by walk_at "subs"), H₆, hq, hlen, hSu, ?_⟩
      rw [← hgo]
      cases hn : vs.length with
      | zero => rfl
      | succ n => rw [suGo, if_neg hlt]
  rintro h₆ ⟨q, t, us, S₆, H₆, hq, hlen, hSu, hgo⟩
  have e1 : (suGo Value.none (fun x y => lt x y) vs.length vs p).1 = us := by rw [← hgo]
  have e2 : (suGo Value.none (fun x y => lt x y) vs.length vs p).2 = q := by rw [← hgo]
  -- heap[pos] = newitem
  refine Rn.seq (I := fun h' => St h (· = l) L h' [("heap", .ref l), ("pos", .int q t), ("startpos", .int p t2), ("newitem", x)] ∧ Lst h' l (us.set q x)) (Rn.opq fun PQ hPQ => Rn.assignSub ?_) ?_
  · walk_at "evs"
    refine Rn.setList H₆ (by omega) (by omega) (by omega) fun h' H' hs => hPQ _ _ ⟨rfl, ?_, by simpa using H'⟩
    exact S₆.other hs.extBut hlL.symm (.inl rfl)
  rintro h₇ ⟨S₇, H₇⟩
  have K₇ := S₇.base K hXb
  have X₇ : Heap.ExtBut l h h₇ := fun b o hb e => S₇.ext b o hb e
  -- _siftdown(heap, startpos, pos)
  refine Rn.cons (Rn.exprS ?_)
  walk_at "evs"
  refine ⟨K₇, ?_⟩
  refine sd_min (hA'.le (by decide)) W K₇ hb H₇ (C.on X₇) (mem_set_of hSu (hS x (List.mem_of_getElem? hx))) (by rw [List.length_set]; exact hq) (by rw [List.length_set]; omega) fun h' H' X' => ⟨fun a e => (nomatch e), Rn.nil ?_⟩
  refine kk h' ?_ (X₇.trans X')
  unfold sup
  rw [e1, e2, getD_of hx]
  exact H'
end
end
section
set_option maxRecDepth 100000
set_option maxHeartbeats 1000000
set_option autoImplicit false
set_option linter.unusedVariables false
section
variable {prog : Program} {w : World} {A : Around} {h b : Heap} {l : Addr} {S : Value → Prop} {lt : Value → Value → Bool}
theorem hf_max {vs : List Value} {P : Value → Heap → Prop} (hA : Ok 9 A) (W : Wd b) (K : Kp b h) (hb : b.get? l = none)
    (H : Lst h l vs) (C : CmpF prog w h l S lt) (hS : ∀ v ∈ vs, S v) (hsz : vs.length < 1000)
    (kk : ∀ h', Lst h' l (hfy Value.none (fun x y => lt y x) (vs.length / 2) vs) → Heap.ExtBut l h h' → P .none h') :
    Rn prog w A h (call (.ref 42) [.ref l]) P := by
  refine Rn.callDef (k := 8) (n := 4) (binds := [("x", .ref l)]) hA ((W.fn _ _ _ (by rfl)).keeps K) (W.lim.keeps K) (fun _ _ _ _ _ _ _ _ _ => BindsTo.of_eq rfl) ?_
    (hloc := by intro x hx; simp only [List.mem_cons, List.not_mem_nil, or_false] at hx; subst hx; rfl)
  intro qual cdv L h₁ S₁ hA'
  have hlL : l ≠ L := by obtain ⟨n, e⟩ := H; exact S₁.ne e
  have H₁ := H.keeps S₁.kp
  have hXb : ∀ a, a = l → b.get? a = none := fun a e => e ▸ hb
  have K₁ := S₁.base K (fun _ q => q.elim)
  -- n = len(x)
  refine Rn.seq (I := fun h' => ∃ t, St h (· = l) L h' [("x", .ref l), ("n", .int vs.length t)] ∧ Lst h' l vs) (Rn.opq fun PQ hPQ => Rn.assignName ?_) ?_
  · walk_at "evs"
    refine Pv.thenI (Pv.lenL H₁ hsz) fun t => ?_
    exact Rn.storeS S₁ fun h' S' hs => hPQ _ _ ⟨rfl, _, (S'.weak fun _ q => q.elim).sub (by walk_at "subs"), H₁.ext hs.extBut hlL⟩
  rintro h₂ ⟨t, S₂, H₂⟩
  have K₂ := S₂.base K hXb
  refine Rn.seq (I := fun h' => Lst h' l (hfy Value.none (fun x y => lt y x) (vs.length / 2) vs) ∧ Heap.ExtBut l h h') (Rn.forS ?_) (fun h' q => Rn.nil (kk h' q.1 q.2))
  walk_at "evs"
  have hdv : ((vs.length : Int)).fdiv 2 = ((vs.length / 2 : Nat) : Int) := by
    rw [Int.fdiv_eq_ediv_of_nonneg _ (by decide)]; omega
  refine Pv.thenI (Pv.divI (by decide) (PyProof.noPylong_of_log2 (by decide +kernel))) fun t' => ?_
  rw [hdv]
  walk_at "evs"
  refine Rn.range1 fun r h₃ t1 t2 hr hR k₃ => ?_
  walk_at "evs"
  refine Rn.revRange hR (by omega) fun J h₄ hJ hI k₄ => ?_
  have S₄ : St h (· = l) L h₄ [("x", .ref l)] := ((S₂.keeps k₃).keeps k₄).sub (by walk_at "subs")
  have H₄ := (H₂.keeps k₃).keeps k₄
  have hJ2 : h₂.get? J = none := by
    cases e : h₂.get? J with
    | none => rfl
    | some o => rw [k₃ _ _ e] at hJ; cases hJ
  obtain ⟨hJ0, hJL⟩ := S₂.fresh hJ2 (fun a e => by obtain ⟨n, e'⟩ := H₂; rw [e]; exact ⟨_, e'⟩)
  have hJl : J ≠ l := by
    rintro rfl
    obtain ⟨n, e'⟩ := H₂
    rw [hJ2] at e'; cases e'
  refine Pv.val (Pv.iterRI hI) ?_
  refine Rn.forLoop (fun n h' => ∃ us, St h (· = l) L h' [("x", .ref l)] ∧ Lst h' l us ∧ IsRangeIter h' J ((n : Int) - 1) n (-1) ∧ n ≤ us.length ∧ us.length = vs.length ∧ (∀ v ∈ us, S v) ∧ hfy Value.none (fun x y => lt y x) n us = hfy Value.none (fun x y => lt y x) (vs.length / 2) vs) ?_ (vs.length / 2)
    ⟨vs, S₄, H₄, hI, by omega, rfl, hS, rfl⟩ (fun _ => rfl)
  rintro n h₅ ⟨us, S₅, H₅, I₅, hle, hlen, hSu, hgo⟩
  cases n with
  | zero =>
    refine Rn.endRI hA'.1 I₅ (by omega) fun h₆ x₆ => Rn.nil ⟨rfl, ?_, ?_⟩
    · rw [← hgo]; exact H₅.ext x₆ hJl.symm
    · exact fun c o hc e => (S₅.other x₆ hJL (.inr hJ0)).ext c o hc e
  | succ n =>
    refine Rn.nextRI I₅ (by omega) fun h₆ t₆ I₆ s₆ => ?_
    have S₆ := S₅.other s₆.extBut hJL (.inr hJ0)
    have H₆ := H₅.ext s₆.extBut hJl.symm
    refine Rn.assignT (Rn.storeS S₆ fun h₇ S₇ s₇ => ?_)
    have H₇ := H₆.ext s₇.extBut hlL
    have I₇ : IsRangeIter h₇ J _ _ _ := (s₇.2 J hJL.symm).trans I₆
    have K₇ := S₇.base K hXb
    have X₇ : Heap.ExtBut l h h₇ := fun c o hc e => S₇.ext c o hc e
    refine Rn.cons (Rn.exprS ?_)
    walk_at "evs"
    refine ⟨K₇, ?_⟩
    have e1 : (((n + 1 : Nat) : Int) - 1) = (n : Int) := by omega
    rw [e1]
    refine su_max (hA'.le (by decide)) W K₇ hb H₇ (C.on X₇) hSu (by omega) (by omega) fun h₈ H₈ x₈ => ⟨fun a e => (nomatch e), Rn.nil ?_⟩
    have p := sup_perm (d := Value.none) (bf := fun x y => lt y x) (us := us) (p := n) (by omega)
    refine ⟨n, Nat.lt_succ_self _, _, ((S₇.other x₈ hlL.symm (.inl rfl)).sub (by walk_at "subs")), H₈, ?_, by rw [p.length_eq]; omega, by rw [p.length_eq]; exact hlen, fun v hv => hSu v (p.mem_iff.mp hv), by rw [← hgo]; rfl⟩
    have i8 : IsRangeIter h₈ J _ _ _ := x₈ J _ hJl I₇
    have e2 : (((n + 1 : Nat) : Int) - 1) + -1 = (n : Int) - 1 := by omega
    have e3 : (((n + 1 : Nat) : Int)) - 1 = (n : Int) := by omega
    rw [e2, e3] at i8
    exact i8
theorem hr_max {vs : List Value} {x y : Value} {P : Value → Heap → Prop} (hA : Ok 9 A) (W : Wd b) (K : Kp b h) (hb : b.get? l = none)
    (H : Lst h l vs) (C : CmpF prog w h l S lt) (hS : ∀ v ∈ vs, S v) (hx : S x) (hsz : vs.length < 1000) (hy : vs[0]? = some y)
    (kk : ∀ h', Lst h' l (hrep Value.none (fun x y => lt y x) vs x) → Heap.ExtBut l h h' → P y h') :
    Rn prog w A h (call (.ref 35) [.ref l, x]) P := by
  refine Rn.callDef (k := 8) (n := 3) (binds := [("heap", .ref l), ("item", x)]) hA ((W.fn _ _ _ (by rfl)).keeps K) (W.lim.keeps K) (fun _ _ _ _ _ _ _ _ _ => BindsTo.of_eq rfl) ?_
    (hloc := by intro x hx; simp only [List.mem_cons, List.not_mem_nil, or_false] at hx; rcases hx with rfl | rfl <;> rfl)
  intro qual cdv L h₁ S₁ hA'
  have hlL : l ≠ L := by obtain ⟨n, e⟩ := H; exact S₁.ne e
  have H₁ := H.keeps S₁.kp
  have hXb : ∀ a, a = l → b.get? a = none := fun a e => e ▸ hb
  have hpos : 0 < vs.length := (List.getElem?_eq_some_iff.mp hy).1
  -- returnitem = heap[0]
  refine Rn.seq (I := fun h' => St h (· = l) L h' [("heap", .ref l), ("item", x), ("returnitem", y)] ∧ Lst h' l vs) (Rn.opq fun PQ hPQ => Rn.assignName ?_) ?_
  · walk_at "evs"
    refine Pv.val (Pv.itemList H₁ (by decide) (by decide) hy) ?_
    exact Rn.storeS S₁ fun h' S' hs => hPQ _ _ ⟨rfl, (S'.weak fun _ q => q.elim).sub (by walk_at "subs"), H₁.ext hs.extBut hlL⟩
  rintro h₂ ⟨S₂, H₂⟩
  -- heap[0] = item
  refine Rn.seq (I := fun h' => St h (· = l) L h' [("heap", .ref l), ("returnitem", y)] ∧ Lst h' l (vs.set 0 x)) (Rn.opq fun PQ hPQ => Rn.assignSub ?_) ?_
  · walk_at "evs"
    refine Rn.setList H₂ (by decide) (by decide) (by omega) fun h' H' hs => hPQ _ _ ⟨rfl, ?_, by simpa using H'⟩
    exact (S₂.other hs.extBut hlL.symm (.inl rfl)).sub (by walk_at "subs")
  rintro h₃ ⟨S₃, H₃⟩
  have K₃ := S₃.base K hXb
  have X₃ : Heap.ExtBut l h h₃ := fun c o hc e => S₃.ext c o hc e
  refine Rn.cons (Rn.exprS ?_)
  walk_at "evs"
  refine ⟨K₃, ?_⟩
  refine su_max (p := 0) (hA'.le (by decide)) W K₃ hb H₃ (C.on X₃) (mem_set_of hS hx) (by rw [List.length_set]; exact hpos) (by rw [List.length_set]; exact hsz) fun h₄ H₄ x₄ => ⟨fun a e => (nomatch e), ?_⟩
  have S₄ := S₃.other x₄ hlL.symm (.inl rfl)
  refine Rn.cons (Rn.ret ?_)
  walk_at "evs"
  exact kk h₄ H₄ (X₃.trans x₄)
theorem hf_min {vs : List Value} {P : Value → Heap → Prop} (hA : Ok 9 A) (W : Wd b) (K : Kp b h) (hb : b.get? l = none)
    (H : Lst h l vs) (C : CmpF prog w h l S lt) (hS : ∀ v ∈ vs, S v) (hsz : vs.length < 1000)
    (kk : ∀ h', Lst h' l (hfy Value.none (fun x y => lt x y) (vs.length / 2) vs) → Heap.ExtBut l h h' → P .none h') :
    Rn prog w A h (call (.ref 28) [.ref l]) P := by
  refine Rn.callDef (k := 8) (n := 2) (binds := [("x", .ref l)]) hA ((W.fn _ _ _ (by rfl)).keeps K) (W.lim.keeps K) (fun _ _ _ _ _ _ _ _ _ => BindsTo.of_eq rfl) ?_
    (hloc := by intro x hx; simp only [List.mem_cons, List.not_mem_nil, or_false] at hx; subst hx; rfl)
  intro qual cdv L h₁ S₁ hA'
  have hlL : l ≠ L := by obtain ⟨n, e⟩ := H; exact S₁.ne e
  have H₁ := H.keeps S₁.kp
  have hXb : ∀ a, a = l → b.get? a = none := fun a e => e ▸ hb
  have K₁ := S₁.base K (fun _ q => q.elim)
  -- n = len(x)
  refine Rn.seq (I := fun h' => ∃ t, St h (· = l) L h' [("x", .ref l), ("n", .int vs.length t)] ∧ Lst h' l vs) (Rn.opq fun PQ hPQ => Rn.assignName ?_) ?_
  · walk_at "evs"
    refine Pv.thenI (Pv.lenL H₁ hsz) fun t => ?_
    exact Rn.storeS S₁ fun h' S' hs => hPQ _ _ ⟨rfl, _, (S'.weak fun _ q => q.elim).sub (by walk_at "subs"), H₁.ext hs.extBut hlL⟩
  rintro h₂ ⟨t, S₂, H₂⟩
  have K₂ := S₂.base K hXb
  refine Rn.seq (I := fun h' => Lst h' l (hfy Value.none (fun x y => lt x y) (vs.length / 2) vs) ∧ Heap.ExtBut l h h') (Rn.forS ?_) (fun h' q => Rn.nil (kk h' q.1 q.2))
  walk_at "evs"
  have hdv : ((vs.length : Int)).fdiv 2 = ((vs.length / 2 : Nat) : Int) := by
    rw [Int.fdiv_eq_ediv_of_nonneg _ (by decide)]; omega
  refine Pv.thenI (Pv.divI (by decide) (PyProof.noPylong_of_log2 (by decide +kernel))) fun t' => ?_
  rw [hdv]
  walk_at "evs"
  refine Rn.range1 fun r h₃ t1 t2 hr hR k₃ => ?_
  walk_at "evs"
  refine Rn.revRange hR (by omega) fun J h₄ hJ hI k₄ => ?_
  have S₄ : St h (· = l) L h₄ [("x", .ref l)] := ((S₂.keeps k₃).keeps k₄).sub (by walk_at "subs")
  have H₄ := (H₂.keeps k₃).keeps k₄
  have hJ2 : h₂.get? J = none := by
    cases e : h₂.get? J with
    | none => rfl
    | some o => rw [k₃ _ _ e] at hJ; cases hJ
  obtain ⟨hJ0, hJL⟩ := S₂.fresh hJ2 (fun a e => by obtain ⟨n, e'⟩ := H₂; rw [e]; exact ⟨_, e'⟩)
  have hJl : J ≠ l := by
    rintro rfl
    obtain ⟨n, e'⟩ := H₂
    rw [hJ2] at e'; cases e'
  refine Pv.val (Pv.iterRI hI) ?_
  refine Rn.forLoop (fun n h' => ∃ us, St h (· = l) L h' [("x", .ref l)] ∧ Lst h' l us ∧ IsRangeIter h' J ((n : Int) - 1) n (-1) ∧ n ≤ us.length ∧ us.length = vs.length ∧ (∀ v ∈ us, S v) ∧ hfy Value.none (fun x y => lt x y) n us = hfy Value.none (fun x y => lt x y) (vs.length / 2) vs) ?_ (vs.length / 2)
    ⟨vs, S₄, H₄, hI, by omega, rfl, hS, rfl⟩ (fun _ => rfl)
  rintro n h₅ ⟨us, S₅, H₅, I₅, hle, hlen, hSu, hgo⟩
  cases n with
  | zero =>
    refine Rn.endRI hA'.1 I₅ (by omega) fun h₆ x₆ => Rn.nil ⟨rfl, ?_, ?_⟩
    · rw [← hgo]; exact H₅.ext x₆ hJl.symm
    · exact fun c o hc e => (S₅.other x₆ hJL (.inr hJ0)).ext c o hc e
  | succ n =>
    refine Rn.nextRI I₅ (by omega) fun h₆ t₆ I₆ s₆ => ?_
    have S₆ := S₅.other s₆.extBut hJL (.inr hJ0)
    have H₆ := H₅.ext s₆.extBut hJl.symm
    refine Rn.assignT (Rn.storeS S₆ fun h₇ S₇ s₇ => ?_)
    have H₇ := H₆.ext s₇.extBut hlL
    have I₇ : IsRangeIter h₇ J _ _ _ := (s₇.2 J hJL.symm).trans I₆
    have K₇ := S₇.base K hXb
    have X₇ : Heap.ExtBut l h h₇ := fun c o hc e => S₇.ext c o hc e
    refine Rn.cons (Rn.exprS ?_)
    walk_at "evs"
    refine ⟨K₇, ?_⟩
    have e1 : (((n + 1 : Nat) : Int) - 1) = (n : Int) := by omega
    rw [e1]
    refine su_min (hA'.le (by decide)) W K₇ hb H₇ (C.on X₇) hSu (by omega) (by omega) fun h₈ H₈ x₈ => ⟨fun a e => (nomatch e), Rn.nil ?_⟩
    have p := sup_perm (d := Value.none) (bf := fun x y => lt x y) (us := us) (p := n) (by omega)
    refine ⟨n, Nat.lt_succ_self _, _, ((S₇.other x₈ hlL.symm (.inl rfl)).sub (by walk_at "subs")), H₈, ?_, by rw [p.length_eq]; omega, by rw [p.length_eq]; exact hlen, fun v hv => hSu v (p.mem_iff.mp hv), by rw [← hgo]; rfl⟩
    have i8 : IsRangeIter h₈ J _ _ _ := x₈ J _ hJl I₇
    have e2 : (((n + 1 : Nat) : Int) - 1) + -1 = (n : Int) - 1 := by omega
    have e3 : (((n + 1 : Nat) : Int)) - 1 = (n : Int) := by omega
    rw [e2, e3] at i8
    exact i8
theorem hr_min {vs : List Value} {x y : Value} {P : Value → Heap → Prop} (hA : Ok 9 A) (W : Wd b) (K : Kp b h) (hb : b.get? l = none)
    (H : Lst h l vs) (C : CmpF prog w h l S lt) (hS : ∀ v ∈ vs, S v) (hx : S x) (hsz : vs.length < 1000) (hy : vs[0]? = some y)
    (kk : ∀ h', Lst h' l (hrep Value.none (fun x y => lt x y) vs x) → Heap.ExtBut l h h' → P y h') :
    Rn prog w A h (call (.ref 21) [.ref l, x]) P := by
  refine Rn.callDef (k := 8) (n := 1) (binds := [("heap", .ref l), ("item", x)]) hA ((W.fn _ _ _ (by rfl)).keeps K) (W.lim.keeps K) (fun _ _ _ _ _ _ _ _ _ => BindsTo.of_eq rfl) ?_
    (hloc := by intro x hx; simp only [List.mem_cons, List.not_mem_nil, or_false] at hx; rcases hx with rfl | rfl <;> rfl)
  intro qual cdv L h₁ S₁ hA'
  have hlL : l ≠ L := by obtain ⟨n, e⟩ := H; exact S₁.ne e
  have H₁ := H.keeps S₁.kp
  have hXb : ∀ a, a = l → b.get? a = none := fun a e => e ▸ hb
  have hpos : 0 < vs.length := (List.getElem?_eq_some_iff.mp hy).1
  -- returnitem = heap[0]
  refine Rn.seq (I := fun h' => St h (· = l) L h' [("heap", .ref l), ("item", x), ("returnitem", y)] ∧ Lst h' l vs) (Rn.opq fun PQ hPQ => Rn.assignName ?_) ?_
  · walk_at "evs"
    refine Pv.val (Pv.itemList H₁ (by decide) (by decide) hy) ?_
    exact Rn.storeS S₁ fun h' S' hs => hPQ _ _ ⟨rfl, (S'.weak fun _ q => q.elim).sub (by walk_at "subs"), H₁.ext hs.extBut hlL⟩
  rintro h₂ ⟨S₂, H₂⟩
  -- heap[0] = item
  refine Rn.seq (I := fun h' => St h (· = l) L h' [("heap", .ref l), ("returnitem", y)] ∧ Lst h' l (vs.set 0 x)) (Rn.opq fun PQ hPQ => Rn.assignSub ?_) ?_
  · walk_at "evs"
    refine Rn.setList H₂ (by decide) (by decide) (by omega) fun h' H' hs => hPQ _ _ ⟨rfl, ?_, by simpa using H'⟩
    exact (S₂.other hs.extBut hlL.symm (.inl rfl)).sub (by walk_at "subs")
  rintro h₃ ⟨S₃, H₃⟩
  have K₃ := S₃.base K hXb
  have X₃ : Heap.ExtBut l h h₃ := fun c o hc e => S₃.ext c o hc e
  refine Rn.cons (Rn.exprS ?_)
  walk_at "evs"
  refine ⟨K₃, ?_⟩
  refine su_min (p := 0) (hA'.le (by decide)) W K₃ hb H₃ (C.on X₃) (mem_set_of hS hx) (by rw [List.length_set]; exact hpos) (by rw [List.length_set]; exact hsz) fun h₄ H₄ x₄ => ⟨fun a e => (nomatch e), ?_⟩
  have S₄ := S₃.other x₄ hlL.symm (.inl rfl)
  refine Rn.cons (Rn.ret ?_)
  walk_at "evs"
  exact kk h₄ H₄ (X₃.trans x₄)
end
end
section
set_option maxRecDepth 100000
set_option autoImplicit false
set_option linter.unusedVariables false
/-- the value v bears the key k: 0 a bool, 1 an int that is not negative, 2 a text -/
def IsK (κ : Nat) (k : List Nat) (v : Value) : Prop := match κ with
  | 0 => ∃ c : Bool, v = .bool c ∧ k = [c.toNat]
  | 1 => ∃ (n : Nat) (t : Tok), v = .int n t ∧ k = [n]
  | _ => ∃ (x : Str) (t : Tok), v = .str x t ∧ k = x.cps.toList
abbrev Item := List Nat × Int × Int
def ilt (a b : Item) : Bool := decide (a.1 < b.1) || (decide (a.1 = b.1) && (decide (a.2.1 < b.2.1) || (decide (a.2.1 = b.2.1) && decide (a.2.2 < b.2.2))))
/-- the value is a tuple of the heap: key, order, item -/
def TupK (h : Heap) (κ : Nat) (v : Value) (it : Item) : Prop := ∃ a kv t u, v = .ref a ∧ Tup h a [kv, .int it.2.1 t, .int it.2.2 u] ∧ IsK κ it.1 kv
theorem TupK.keeps {h h' : Heap} {κ : Nat} {v : Value} {it : Item} (H : TupK h κ v it) (k : Kp h h') : TupK h' κ v it := let ⟨a, kv, t, u, e, ht, hk⟩ := H; ⟨a, kv, t, u, e, ht.keeps k, hk⟩
theorem TupK.ext {h h' : Heap} {κ : Nat} {v : Value} {it : Item} {l : Addr} {vs : List Value} (H : TupK h κ v it) (k : Heap.ExtBut l h h') (hl : Lst h l vs) : TupK h' κ v it := let ⟨a, kv, t, u, e, ht, hk⟩ := H; ⟨a, kv, t, u, e, ht.ext k hl, hk⟩
section
variable {prog : Program} {w : World} {A : Around} {h b : Heap}
theorem Pv.eqBI {a c : Int} {t u : Tok} : Pv prog w A h (eqBool (.int a t) (.int c u)) (· = decide (a = c)) := Rn.of fun s _ _ e kk => by
  subst e
  refine wpAny_eqBool_int ?_
  have := kk (decide (a = c)) _ s.toks ⟨rfl, rfl⟩
  have e : (a == c) = decide (a = c) := by by_cases q : a = c <;> simp [q]
  rw [e]; exact this
theorem Pv.eqBB {a c : Bool} : Pv prog w A h (eqBool (.bool a) (.bool c)) (· = decide (a = c)) := Rn.of fun s _ _ e kk => by
  subst e
  unfold eqBool
  refine wpAny_holding ?_
  by_cases q : a = c
  · subst q
    rw [if_pos (by simp)]
    exact wpAny_bind (wpAny_rule (wpAny_pure (kk _ _ s.toks ⟨rfl, by simp⟩)))
  · rw [if_neg (by simpa using q)]
    refine wpAny_bind (m := richCompare .Eq (.bool a) (.bool c)) (show wpAny _ _ (compareOp .Eq (.bool a) (.bool c)) _ _ _ from eq_bool ?_)
    have e : (a == c) = decide (a = c) := by cases a <;> cases c <;> rfl
    rw [e]
    exact wpAny_truthy_bool (kk _ _ s.toks ⟨rfl, rfl⟩)
theorem Pv.eqBS {a c : Str} {t u : Tok} : Pv prog w A h (eqBool (.str a t) (.str c u)) (· = decide (a.cps.toList = c.cps.toList)) := Rn.of fun s _ _ e kk => by
  subst e
  refine wpAny_eqBool_str ?_
  have : decide (a = c) = decide (a.cps.toList = c.cps.toList) := by
    by_cases q : a = c
    · subst q; simp
    · have : ¬ a.cps.toList = c.cps.toList := fun e => q (Str.ext' (Array.toList_inj.mp e))
      simp [q, this]
  rw [this]
  exact kk _ _ s.toks ⟨rfl, rfl⟩
theorem Pv.eqK {κ : Nat} {k k' : List Nat} {v v' : Value} (H : IsK κ k v) (H' : IsK κ k' v') : Pv prog w A h (eqBool v v') (· = decide (k = k')) := by
  unfold IsK at H H'
  split at H
  · obtain ⟨c, rfl, rfl⟩ := H
    obtain ⟨c', rfl, rfl⟩ := H'
    refine Pv.eqBB.mono fun a e => ?_
    rw [e]; cases c <;> cases c' <;> decide
  · obtain ⟨n, t, rfl, rfl⟩ := H
    obtain ⟨n', t', rfl, rfl⟩ := H'
    refine Pv.eqBI.mono fun a e => ?_
    rw [e, decide_eq_decide]
    constructor
    · intro q; rw [Int.ofNat.inj q]
    · intro q; injection q with q _; rw [q]
  · obtain ⟨x, t, rfl, rfl⟩ := H
    rename_i h1 h2
    have H' : ∃ (x : Str) (t : Tok), v' = .str x t ∧ k' = x.cps.toList := by
      split at H'
      · exact absurd rfl h1
      · exact absurd rfl h2
      · exact H'
    obtain ⟨x', t', rfl, rfl⟩ := H'
    exact Pv.eqBS
theorem Pv.ltK {κ : Nat} {k k' : List Nat} {v v' : Value} (H : IsK κ k v) (H' : IsK κ k' v') : Pv prog w A h (compareOp .Lt v v') (· = .bool (decide (k < k'))) := by
  unfold IsK at H H'
  split at H
  · obtain ⟨c, rfl, rfl⟩ := H
    obtain ⟨c', rfl, rfl⟩ := H'
    refine Rn.of fun s _ _ e kk => ?_
    subst e
    refine lt_bool (kk _ _ s.toks ⟨rfl, ?_⟩)
    cases c <;> cases c' <;> rfl
  · obtain ⟨n, t, rfl, rfl⟩ := H
    obtain ⟨n', t', rfl, rfl⟩ := H'
    refine Pv.ltI.mono fun a e => ?_
    rw [e]
    have : decide ((n : Int) < (n' : Int)) = decide ([n] < [n']) := by
      rw [decide_eq_decide, List.cons_lt_cons_iff]
      constructor
      · intro q; exact .inl (Int.ofNat_lt.mp q)
      · rintro (q | ⟨_, q⟩)
        · exact Int.ofNat_lt.mpr q
        · exact absurd q (List.lt_irrefl _)
    rw [this]
  · obtain ⟨x, t, rfl, rfl⟩ := H
    rename_i h1 h2
    have H' : ∃ (x : Str) (t : Tok), v' = .str x t ∧ k' = x.cps.toList := by
      split at H'
      · exact absurd rfl h1
      · exact absurd rfl h2
      · exact H'
    obtain ⟨x', t', rfl, rfl⟩ := H'
    refine Rn.of fun s _ _ e kk => ?_
    subst e
    exact PyProof.Rows.lt_str (kk _ _ s.toks ⟨rfl, rfl⟩)
/-- the tuples' own comparison -/
theorem Pv.ltTup {κ : Nat} {v v' : Value} {it it' : Item} (hA : Ok 3 A) (H : TupK h κ v it) (H' : TupK h κ v' it') : Pv prog w A h (compareOp .Lt v v') (· = .bool (ilt it it')) := by
  obtain ⟨a, kv, t, u, rfl, ht, hk⟩ := H
  obtain ⟨a', kv', t', u', rfl, ht', hk'⟩ := H'
  refine Rn.of fun s Q E e kk => ?_
  subst e
  obtain ⟨o, ho, hc, n, hd⟩ := ht
  obtain ⟨o', ho', hc', n', hd'⟩ := ht'
  show wpAny _ _ (richCompare .Lt (.ref a) (.ref a')) _ _ _
  refine wpAny_richCompare_same_or (T := "tuple") ⟨o, ho, hc⟩ ⟨o', ho', hc'⟩ F.slot_tuple_lt (wpAny_call_entry F.slot_tuple_lt ⟨o, ho, hc⟩ F.entry_tuple_lt ?_ (F.args_tuple_lt_2 _ _)) (.inr hA.croom)
  show wpAny _ _ (isInstance (.ref a') (.type "tuple") >>= _) _ _ s
  refine wpAny_bind (wpAny_isInstance ⟨o', ho', hc'⟩ isSubtype_tuple_tuple ?_)
  simp only [Bool.not_true, Bool.false_eq_true, if_false]
  refine wpAny_bind (wpAny_tupleItemsOf ho hd ?_)
  refine wpAny_bind (wpAny_tupleItemsOf ho' hd' ?_)
  refine Rn.use (P := fun fin h' => h' = s.heap ∧ fin = .done (.ret (.bool (ilt it it')))) ?_ (fun fin h' tk q => ?_)
  · have last : ∀ {x y : Value} {c : Bool}, Pv prog w A.in1 s.heap (compareOp .Lt x y) (· = .bool c) → Rn prog w A.in1 s.heap (do
          PySem.rule "tuple.compare.by-the-first-pair-that-differs"
          let r ← richCompare CmpOp.Lt x y
          let r ← PySem.ret r
          Pure.pure (ForInStep.done ((some r, ()) : Option PySem.Fin × Unit))) (fun r h' => h' = s.heap ∧ r = ForInStep.done (some (PySem.Fin.done (.ret (.bool c))), ())) := fun P =>
      Rn.bind (Rn.rule (Rn.bind (Pv.val P (Rn.bind (Rn.pure (Rn.pure ⟨rfl, rfl⟩))))))
    refine Rn.bind ?_
    refine Rn.mono (P := fun r h' => h' = s.heap ∧ ((r = (some (PySem.Fin.done (.ret (.bool (ilt it it')))), ())) ∨ (r = (Option.none, ()) ∧ ilt it it' = false))) ?_ ?_
    · refine Rn.eq (List.forIn_cons ..) (Rn.bind ?_)
      refine Rn.bind (Pv.val (Pv.eqK hk hk') ?_)
      by_cases q : it.1 = it'.1
      · rw [decide_eq_true q]
        rw [if_neg (by decide)]
        refine Rn.pure ?_
        refine Rn.eq (List.forIn_cons ..) (Rn.bind ?_)
        refine Rn.bind (Pv.val Pv.eqBI ?_)
        by_cases q2 : it.2.1 = it'.2.1
        · rw [decide_eq_true q2]
          rw [if_neg (by decide)]
          refine Rn.pure ?_
          refine Rn.eq (List.forIn_cons ..) (Rn.bind ?_)
          refine Rn.bind (Pv.val Pv.eqBI ?_)
          by_cases q3 : it.2.2 = it'.2.2
          · rw [decide_eq_true q3]
            rw [if_neg (by decide)]
            refine Rn.pure (Rn.eq List.forIn_nil (Rn.pure ⟨rfl, .inr ⟨rfl, ?_⟩⟩))
            unfold ilt
            rw [q, q2, q3]
            simp [List.lt_irrefl]
          · rw [decide_eq_false q3]
            rw [if_pos (by decide)]
            refine (last Pv.ltI).mono ?_
            rintro r h' ⟨rfl, rfl⟩
            refine Rn.pure ⟨rfl, .inl ?_⟩
            unfold ilt
            rw [q, q2]
            simp [List.lt_irrefl]
        · rw [decide_eq_false q2]
          rw [if_pos (by decide)]
          refine (last Pv.ltI).mono ?_
          rintro r h' ⟨rfl, rfl⟩
          refine Rn.pure ⟨rfl, .inl ?_⟩
          unfold ilt
          rw [q]
          simp [List.lt_irrefl, q2]
      · rw [decide_eq_false q]
        rw [if_pos (by decide)]
        refine (last (Pv.ltK hk hk')).mono ?_
        rintro r h' ⟨rfl, rfl⟩
        refine Rn.pure ⟨rfl, .inl ?_⟩
        unfold ilt
        simp [q]
    · rintro r h' ⟨rfl, rfl | ⟨rfl, q⟩⟩
      · exact Rn.pure ⟨rfl, rfl⟩
      · refine Rn.pure ⟨rfl, ?_⟩
        rw [q]; rfl
  · obtain ⟨rfl, rfl⟩ := q
    exact ⟨_, rfl, (fun e => nomatch e), kk _ _ _ ⟨rfl, rfl⟩⟩
theorem cmpTup {κ : Nat} {l : Addr} {vs : List Value} (H : Lst h l vs) (dec : Value → Item) : CmpF prog w h l (fun v => TupK h κ v (dec v)) (fun v u => ilt (dec v) (dec u)) :=
  fun A' h' v u hA x hv hu => Pv.ltTup hA (hv.ext x H) (hu.ext x H)
end
theorem lt_total {a b : List Nat} (h1 : ¬ a < b) (h2 : ¬ b < a) : a = b := List.le_antisymm (List.not_lt.mp h2) (List.not_lt.mp h1)
theorem ilt_iff (a b : Item) : ilt a b = true ↔ a.1 < b.1 ∨ (a.1 = b.1 ∧ (a.2.1 < b.2.1 ∨ (a.2.1 = b.2.1 ∧ a.2.2 < b.2.2))) := by
  unfold ilt; simp
theorem ilt_so : SO ilt where
  asym := fun a b h => by
    cases e : ilt b a with
    | false => rfl
    | true =>
      rw [ilt_iff] at h e
      rcases h with h | ⟨h, h'⟩
      · rcases e with e | ⟨e, _⟩
        · exact absurd e (List.lt_asymm h)
        · rw [e] at h; exact absurd h (List.lt_irrefl _)
      · rcases e with e | ⟨_, e⟩
        · rw [h] at e; exact absurd e (List.lt_irrefl _)
        · omega
  ntrans := fun a b c h1 h2 => by
    cases e : ilt a c with
    | false => rfl
    | true =>
      have n1 : ¬ _ := mt (ilt_iff a b).mpr (by rw [h1]; exact Bool.false_ne_true)
      have n2 : ¬ _ := mt (ilt_iff b c).mpr (by rw [h2]; exact Bool.false_ne_true)
      rw [ilt_iff] at e
      simp only [not_or, not_and] at n1 n2
      obtain ⟨a1, a2⟩ := n1
      obtain ⟨b1, b2⟩ := n2
      have ba : ¬ a.1 < b.1 := a1
      rcases e with e | ⟨e, e'⟩
      · exfalso
        have h3 : c.1 ≤ b.1 := List.not_lt.mp b1
        have h4 : b.1 ≤ a.1 := List.not_lt.mp a1
        exact List.not_lt.mpr (List.le_trans h3 h4) e
      · have e1 : a.1 = b.1 := lt_total a1 (by rw [e]; exact b1)
        have e2 : b.1 = c.1 := by rw [← e1, e]
        have := a2 e1
        have := b2 e2
        omega
end
section
set_option maxRecDepth 100000
set_option autoImplicit false
set_option linter.unusedVariables false
theorem Kp.of_ext {h h' : Heap} (x : Heap.ExtBut h.objs.size h h') : Kp h h' := fun b o e => x b o (Nat.ne_of_lt (Heap.lt_size e)) e
/-- the same for a code -/
def RnC (prog : Program) (w : World) (A : Around) (h : Heap) (c : Code) (P : Flow → Heap → Prop) : Prop :=
  ∀ (g : Array GenState) (d : Drawn) (tk : Nat) (os : OsState),
    codeAny (model prog w) A c (fun r s' => ∃ f h' tk', r = .ok f ∧ s' = ⟨h', g, d, tk', os⟩ ∧ P f h') ⟨h, g, d, tk, os⟩
section
variable {prog : Program} {w : World} {A : Around} {h b : Heap} {env : Env}
theorem Rn.inOrderNil {xs : List Value} {P : Unit → Heap → Prop} (H : P () h) : Rn prog w A h (assignInOrder [] xs) P := fun _ _ tk _ => assignInOrder_nil ⟨h, tk, rfl, H⟩
theorem Rn.inOrderCons {t : Value → Sem Unit} {ts : List (Value → Sem Unit)} {x : Value} {xs : List Value} {P : Unit → Heap → Prop}
    (R : Rn prog w A h (t x) (fun _ h₁ => Rn prog w A h₁ (assignInOrder ts xs) P)) : Rn prog w A h (assignInOrder (t :: ts) (x :: xs)) P := by
  refine Rn.of fun s Q E e kk => assignInOrder_cons ?_
  subst e
  exact R.use fun a h₁ tk₁ q₁ => Rn.use (s := { s with heap := h₁, toks := tk₁ }) q₁ fun b h₂ tk₂ q₂ => kk _ h₂ tk₂ q₂
theorem Rn.unpackT {t : Addr} {vs : List Value} {n : Nat} {P : List Value → Heap → Prop} (hA : A.handled = none) (H : Tup h t vs) (hn : n = vs.length)
    (k : ∀ h', Kp h h' → P vs h') : Rn prog w A h (unpackItems (.ref t) n none) P := by
  subst hn
  refine Rn.of fun s Q E e kk => ?_
  subst e
  have := unpackItems_tuple (prog := prog) (w := w) (E := E) (Q := Q) hA H (fun h' x => kk _ h' s.toks (by simpa using k h' (Kp.of_ext x)))
  simpa using this
theorem Rn.assignTup {elts : List Expr} {c : Nat} {pos : Pos} {t : Addr} {vs : List Value} {P : Unit → Heap → Prop} (hA : A.handled = none) (H : Tup h t vs)
    (kk : ∀ h', Kp h h' → Rn prog w A h' (assignInOrder ((assignEach elts env).map (·.2)) vs) P)
    (hn : (assignEach elts env).length = vs.length := by rfl) (hstar : (assignEach elts env).findIdx? (·.1) = Option.none := by rfl) :
    Rn prog w A h (assign (.Tuple elts c pos) env (.ref t)) P := by
  refine Rn.of fun s Q E e k2 => ?_
  subst e
  refine assign_Tuple_tuple hA H (by simpa using hn) hstar fun h' x => ?_
  exact Rn.use (s := { s with heap := h' }) (by simpa using kk h' (Kp.of_ext x)) fun v h₂ tk₂ q₂ => k2 _ h₂ tk₂ q₂
theorem Rn.tup2 {x y : Str} {p q pos : Pos} {c : Nat} {t : Addr} {u v : Value} {P : Unit → Heap → Prop} (hA : A.handled = none) (H : Tup h t [u, v])
    (kk : ∀ h', Kp h h' → Rn prog w A h' (PySem.storeName env x u) (fun _ h₁ => Rn prog w A h₁ (PySem.storeName env y v) P)) :
    Rn prog w A h (assign (.Tuple [.Name x p, .Name y q] c pos) env (.ref t)) P :=
  Rn.assignTup hA H fun h' k => Rn.inOrderCons (Rn.assignT ((kk h' k).mono fun _ h₁ q => Rn.inOrderCons (Rn.assignT (q.mono fun _ h₂ q => Rn.inOrderNil q))))
theorem Rn.tup3 {x y z : Str} {p q r pos : Pos} {c : Nat} {t : Addr} {u v o : Value} {P : Unit → Heap → Prop} (hA : A.handled = none) (H : Tup h t [u, v, o])
    (kk : ∀ h', Kp h h' → Rn prog w A h' (PySem.storeName env x u) (fun _ h₁ => Rn prog w A h₁ (PySem.storeName env y v) (fun _ h₂ => Rn prog w A h₂ (PySem.storeName env z o) P))) :
    Rn prog w A h (assign (.Tuple [.Name x p, .Name y q, .Name z r] c pos) env (.ref t)) P :=
  Rn.assignTup hA H fun h' k => Rn.inOrderCons (Rn.assignT ((kk h' k).mono fun _ h₁ q => Rn.inOrderCons (Rn.assignT (q.mono fun _ h₂ q => Rn.inOrderCons (Rn.assignT (q.mono fun _ h₂ q => Rn.inOrderNil q))))))
/-- for, with the owned tuple let go -/
theorem Rn.forLoopT {target : Expr} {it : Value} {body orelse : List Stmt} {P : Flow → Heap → Prop} (I : Nat → Heap → Prop)
    (turn : ∀ n h, I n h → Rn prog w A h (pyNext it) (fun r h₁ => match r with
      | none => Rn prog w A h₁ (execs orelse env) P
      | some v => Rn prog w A h₁ (letOwnedTupleGo target it v) (fun _ h₁' => Rn prog w A h₁' (assign target env v) (fun _ h₂ => Rn prog w A h₂ (execs body env) (fun f h₃ => match f with
        | .next | .cont => ∃ m, m < n ∧ I m h₃
        | .brk => P .next h₃
        | .ret v => P (.ret v) h₃))))) (n : Nat) (H : I n h) :
    Rn prog w A h (runOwn (.forLoop target it body orelse env) env) P := by
  intro g d tk os
  refine wpAny_runOwn ?_
  refine codeAny_forLoop_any (fun n s => ∃ h' tk', s = ⟨h', g, d, tk', os⟩ ∧ I n h') ?_ n ⟨h, tk, rfl, H⟩
  rintro n s ⟨h', tk', rfl, hI⟩
  refine wpAny_mono ((turn n h' hI) g d tk' os) (fun r s₁ q => ?_) (fun _ _ f => f.elim)
  obtain ⟨h₁, tk₁, rfl, q⟩ := q
  cases r with
  | none =>
    refine wpAny_mono (q g d tk₁ os) (fun f s₃ r => ?_) (fun _ _ f => f.elim)
    obtain ⟨h₃, tk₃, rfl, r⟩ := r
    exact ⟨h₃, tk₃, rfl, r⟩
  | some v =>
    refine wpAny_mono (q g d tk₁ os) (fun _ s₂ q => ?_) (fun _ _ f => f.elim)
    obtain ⟨h₂, tk₂, rfl, q⟩ := q
    refine wpAny_mono (q g d tk₂ os) (fun _ s₂ q => ?_) (fun _ _ f => f.elim)
    obtain ⟨h₂', tk₂', rfl, q⟩ := q
    refine wpAny_mono (q g d tk₂' os) (fun f s₃ r => ?_) (fun _ _ f => f.elim)
    obtain ⟨h₃, tk₃, rfl, r⟩ := r
    cases f with
    | next => obtain ⟨m, hm, hI⟩ := r; exact ⟨m, hm, h₃, tk₃, rfl, hI⟩
    | cont => obtain ⟨m, hm, hI⟩ := r; exact ⟨m, hm, h₃, tk₃, rfl, hI⟩
    | brk => exact ⟨h₃, tk₃, rfl, r⟩
    | ret v => exact ⟨h₃, tk₃, rfl, r⟩
/-- the tests of a clause -/
def cTests (ifs : List Expr) (env : Env) : Sem Bool := forIn ifs true fun c r => if r = true then do let ok ← isTrue c env (eval c env); Pure.pure (ForInStep.yield ok) else Pure.pure (ForInStep.yield r)
theorem Rn.testsNil {P : Bool → Heap → Prop} (H : P true h) : Rn prog w A h (cTests [] env) P := Rn.pure H
theorem Rn.testsOne {c : Expr} {P : Bool → Heap → Prop} (R : Rn prog w A h (isTrue c env (eval c env)) P) : Rn prog w A h (cTests [c] env) P := fun g d tk os => wpAny_tests_one (R g d tk os)
/-- the loop of a list comprehension -/
theorem RnC.compLoop {elt target iter : Expr} {ifs : List Expr} {scope : Scope} {pos : Pos} {it acc : Value} {P : Flow → Heap → Prop} (I : Nat → Heap → Prop)
    (turn : ∀ n h, I n h → Rn prog w A h (pyNext it) (fun r h₁ => match r with
      | none => P .next h₁
      | some v => Rn prog w A h₁ (letOwnedTupleGo target it v) (fun _ h₁' => Rn prog w A h₁' (assign target env v) (fun _ h₂ => Rn prog w A h₂ (cTests ifs env) (fun ok h₃ =>
          if ok = true then Rn prog w A h₃ (eval elt env) (fun x h₄ => Rn prog w A h₄ (call (.builtin "list.append") [acc, x]) (fun _ h₅ => ∃ m, m < n ∧ I m h₅))
          else ∃ m, m < n ∧ I m h₃))))) (n : Nat) (H : I n h) :
    RnC prog w A h (.compLoop (.ListComp elt [⟨target, iter, ifs, 0⟩] scope pos) 0 it acc env) P := by
  intro g d tk os
  refine codeAny_loop rfl (fun n s => ∃ h' tk', s = ⟨h', g, d, tk', os⟩ ∧ I n h') (fun n s hI => ?_) n ⟨h, tk, rfl, H⟩
  obtain ⟨h', tk', rfl, hI⟩ := hI
  show wpAny _ A ((compTurn (.ListComp elt [⟨target, iter, ifs, 0⟩] scope pos) 0 it acc env).onRaise (fun x => do noteFrame x env; theTreesLotGoes x)) _ _ _
  refine wpAny_noted ?_
  rw [compTurn_list]
  refine wpAny_bind (wpAny_standAt (wpAny_bind (wpAny_mono ((turn n h' hI) g d tk' os) (fun r s₁ q => ?_) (fun _ _ f => f.elim))))
  obtain ⟨h₁, tk₁, rfl, q⟩ := q
  cases r with
  | none => exact wpAny_pure ⟨_, h₁, tk₁, rfl, rfl, q⟩
  | some v =>
    refine wpAny_bind (wpAny_mono (q g d tk₁ os) (fun _ s₂ q => ?_) (fun _ _ f => f.elim))
    obtain ⟨h₂, tk₂, rfl, q⟩ := q
    refine wpAny_bind (wpAny_mono (q g d tk₂ os) (fun _ s₂ q => ?_) (fun _ _ f => f.elim))
    obtain ⟨h₃, tk₃, rfl, q⟩ := q
    refine wpAny_bind (wpAny_mono (show wpAny _ A (forIn ifs true fun c r => if r = true then do let ok ← isTrue c env (eval c env); Pure.pure (ForInStep.yield ok) else Pure.pure (ForInStep.yield r)) _ _ _ from q g d tk₃ os) (fun ok s₂ q => ?_) (fun _ _ f => f.elim))
    obtain ⟨h₄, tk₄, rfl, q⟩ := q
    cases ok with
    | false => 
      obtain ⟨m, hm, hI⟩ := (if_neg (Bool.false_ne_true)).mp q
      exact wpAny_pure ⟨rfl, m, hm, h₄, tk₄, rfl, hI⟩
    | true =>
      have q := (if_pos rfl).mp q
      refine wpAny_bind (wpAny_bind (wpAny_mono (q g d tk₄ os) (fun x s₄ q => ?_) (fun _ _ f => f.elim)))
      obtain ⟨h₅, tk₅, rfl, q⟩ := q
      refine wpAny_bind (wpAny_mono (q g d tk₅ os) (fun x s₄ q => ?_) (fun _ _ f => f.elim))
      obtain ⟨h₆, tk₆, rfl, m, hm, q⟩ := q
      exact wpAny_pure (wpAny_pure ⟨rfl, m, hm, h₆, tk₆, rfl, q⟩)
theorem Rn.appendL {l : Addr} {vs : List Value} {x : Value} {P : Value → Heap → Prop} (H : Lst h l vs) (hsz : vs.length < 1000) (kk : ∀ h', Lst h' l (vs ++ [x]) → Heap.SameBut l h h' → P .none h') :
    Rn prog w A h (call (.builtin "list.append") [.ref l, x]) P :=
  Rn.of fun s Q E e k => by
    subst e
    refine wpAny_list_append_plain (l := l) (items := vs.toArray) H (fun h' hp hs => k _ h' s.toks (kk h' ?_ hs)) (by simp [sizeLine]; omega)
    have hp' : h'.PlainList l (vs ++ [x]).toArray := by simpa using hp
    exact hp'
/-- a list comprehension of one clause; the frame of it at C, the new list at D -/
theorem Rn.listComp {elt target iter : Expr} {ifs : List Expr} {scope : Scope} {pos : Pos} {cl : List (Str × Addr)} {P : Value → Heap → Prop}
    (R : Rn prog w A h (eval iter env) (fun x h₁ => Rn prog w A h₁ (pyIter x) (fun it h₂ =>
      Rn prog w A (h₂.push { cls := .type "list", data := .seq #[] }) (newFunctionEnv scope env.globals cl [] env.qual none .none (some env)) (fun cenv h₄ =>
        Pv prog w A h₄ (pyIter it) (· = it) ∧ RnC prog w A h₄ (.compLoop (.ListComp elt [⟨target, iter, ifs, 0⟩] scope pos) 0 it (.ref h₂.objs.size) { cenv with scope := relabel scope env })
          (fun _ h₅ => ∃ m, h₅.Ns cenv.locals m ∧ ∀ h', Heap.SameBut cenv.locals h₅ h' → P (.ref h₂.objs.size) h')))))
    (hclos : closureFor scope env = Pure.pure cl := by rfl) (hkind : scope.kind = .function := by rfl) (hnames : ∀ x ∈ scope.names, x.2 = .local → scope.names.lookup x.1 = some .local := by decide)
    (hs : ∀ x, foldedSetIterable iter env x = Pure.pure x := by intro _; rfl) :
    Rn prog w A h (eval (.ListComp elt [⟨target, iter, ifs, 0⟩] scope pos) env) P := by
  refine Rn.of fun s Q E e kk => ?_
  subst e
  rw [eval_ListComp]
  refine wpAny_comprehension_free (use := none) rfl hs hclos hkind hnames ?_
  refine R.use fun x h₁ tk₁ q₁ => Rn.use (s := { s with heap := h₁, toks := tk₁ }) q₁ fun it h₂ tk₂ q₂ => ?_
  refine wpAny_newObj_type ?_
  refine Rn.use (s := { s with heap := h₂.push { cls := .type "list", data := .seq #[] }, toks := tk₂ }) q₂ fun cenv h₄ tk₄ q₄ => ?_
  have fin : ∀ tk, codeAny (model prog w) A (.compLoop (.ListComp elt [⟨target, iter, ifs, 0⟩] scope pos) 0 it (.ref h₂.objs.size) { cenv with scope := relabel scope env }) (compPost (model prog w) A E none Q (.ref h₂.objs.size) cenv.locals) { s with heap := h₄, toks := tk } := fun tk =>
    codeAny_mono (q₄.2 s.gens s.drawn tk s.os) fun r s' hr => by
      obtain ⟨f, h', tk', rfl, rfl, m, hm, hq⟩ := hr
      exact ⟨m, hm, fun h'' hs'' => kk _ h'' tk' (hq h'' hs'')⟩
  refine codeAny_compStart_list (fin tk₄) ?_
  exact Rn.use (s := { s with heap := h₄, toks := tk₄ }) q₄.1 fun it' h' tk' q => by
    obtain ⟨rfl, rfl⟩ := q
    exact fin tk'
/-- the same, stored under a name on the same line -/
theorem Rn.listCompTo {elt target iter : Expr} {ifs : List Expr} {scope : Scope} {pos spos py : Pos} {y : Str} {cl : List (Str × Addr)} {P : Flow → Heap → Prop}
    (R : Rn prog w A h (eval iter env) (fun x h₁ => Rn prog w A h₁ (pyIter x) (fun it h₂ =>
      Rn prog w A (h₂.push { cls := .type "list", data := .seq #[] }) (newFunctionEnv scope env.globals cl [] env.qual none .none (some env)) (fun cenv h₄ =>
        Pv prog w A h₄ (pyIter it) (· = it) ∧ RnC prog w A h₄ (.compLoop (.ListComp elt [⟨target, iter, ifs, 0⟩] scope pos) 0 it (.ref h₂.objs.size) { cenv with scope := relabel scope env })
          (fun _ h₅ => Rn prog w A h₅ (PySem.storeName env y (.ref h₂.objs.size)) (fun _ h₆ => ∃ m, h₆.Ns cenv.locals m ∧ ∀ h', Heap.SameBut cenv.locals h₆ h' → P .next h'))))))
    (hsw : swapsWith (.ListComp elt [⟨target, iter, ifs, 0⟩] scope pos) (some (.Name y py)) spos.line env = Pure.pure true := by rfl)
    (hclos : closureFor scope env = Pure.pure cl := by rfl) (hkind : scope.kind = .function := by rfl) (hnames : ∀ x ∈ scope.names, x.2 = .local → scope.names.lookup x.1 = some .local := by decide)
    (hs : ∀ x, foldedSetIterable iter env x = Pure.pure x := by intro _; rfl) :
    Rn prog w A h (exec (.Assign [.Name y py] (.ListComp elt [⟨target, iter, ifs, 0⟩] scope pos) spos) env) P := by
  refine Rn.of fun s Q E e kk => ?_
  subst e
  rw [exec_Assign_Name_used _ _ _ _ hsw]
  refine wpAny_bind (wpAny_standAt (wpAny_bind ?_))
  show wpAny _ A (do let _ ← comprehension (.ListComp elt [⟨target, iter, ifs, 0⟩] scope pos) scope env _ (newList []) false (eval iter env) (some (assign (.Name y py) env))) _ _ s
  refine wpAny_bind (wpAny_mono (wpAny_comprehension_free (use := some (assign (.Name y py) env)) (Q := fun _ s' => Q .next s') rfl hs hclos hkind hnames ?_) (fun _ s' hq => wpAny_pure (wpAny_pure hq)) fun _ _ e => e)
  refine R.use fun x h₁ tk₁ q₁ => Rn.use (s := { s with heap := h₁, toks := tk₁ }) q₁ fun it h₂ tk₂ q₂ => ?_
  refine wpAny_newObj_type ?_
  refine Rn.use (s := { s with heap := h₂.push { cls := .type "list", data := .seq #[] }, toks := tk₂ }) q₂ fun cenv h₄ tk₄ q₄ => ?_
  have fin : ∀ tk, codeAny (model prog w) A (.compLoop (.ListComp elt [⟨target, iter, ifs, 0⟩] scope pos) 0 it (.ref h₂.objs.size) { cenv with scope := relabel scope env }) (compPost (model prog w) A E (some (assign (.Name y py) env)) (fun _ s' => Q .next s') (.ref h₂.objs.size) cenv.locals) { s with heap := h₄, toks := tk } := fun tk =>
    codeAny_mono (q₄.2 s.gens s.drawn tk s.os) fun r s' hr => by
      obtain ⟨f, h', tk', rfl, rfl, hq⟩ := hr
      show wpAny _ A (assign (.Name y py) env (.ref h₂.objs.size)) _ _ _
      refine Rn.use (s := { s with heap := h', toks := tk' }) (Rn.assignT hq) fun _ h₆ tk₆ q => ?_
      obtain ⟨m, hm, hq⟩ := q
      exact ⟨m, hm, fun h'' hs'' => kk _ h'' tk₆ (hq h'' hs'')⟩
  refine codeAny_compStart_list (fin tk₄) ?_
  exact Rn.use (s := { s with heap := h₄, toks := tk₄ }) q₄.1 fun it' h' tk' q => by
    obtain ⟨rfl, rfl⟩ := q
    exact fin tk'
/-- the frame of a comprehension without cells of its own -/
theorem Rn.compFrame {scope : Scope} {globals : Addr} {cl : List (Str × Addr)} {qual : Str} {P : Env → Heap → Prop}
    (k : ∀ h', St h (fun _ => False) h.objs.size h' [] → P (newEnv scope h.objs.size globals cl qual none .none (some env) builtinsNs) h')
    (hc : ∀ x ∈ scope.names, x.2 ≠ .cell := by decide) (hk : scope.kind = .function := by rfl) : Rn prog w A h (newFunctionEnv scope globals cl [] qual none .none (some env)) P :=
  Rn.of fun s Q E e kk => by
    subst e
    refine wpAny_newFunctionEnv hc (by intro y hy; simp at hy) (fun h' hn hs => kk _ h' _ (k h' ⟨⟨_, hn, fun x v e => by cases e⟩, fun b o _ e => ?_, Nat.le_refl _⟩)) hk
    exact hs.extBut b o (Nat.ne_of_lt (Heap.lt_size e)) (Heap.get?_push_of_some _ e)
/-- an iterator at I that hands out n things; it writes within X alone; all it needs lies below N -/
structure Itr (prog : Program) (w : World) (A : Around) (target : Expr) (I : Addr) (N n : Nat) (X : Addr → Prop) (V : Nat → Value → Heap → Prop) (It : Nat → Heap → Prop) (ItE : Heap → Prop) : Prop where
  lt : ∀ b, X b → b < N
  keep : ∀ i h h', It i h → (∀ b o, b < N → h.get? b = some o → h'.get? b = some o) → It i h'
  item : ∀ i h, i < n → It i h → Rn prog w A h (pyNext (.ref I)) (fun r h₁ => ∃ v, r = some v ∧ Rn prog w A h₁ (letOwnedTupleGo target (.ref I) v)
    (fun _ h₂ => V i v h₂ ∧ It (i + 1) h₂ ∧ (∀ b o, ¬ X b → h.get? b = some o → h₂.get? b = some o)))
  fin : ∀ h, It n h → Rn prog w A h (pyNext (.ref I)) (fun r h' => r = none ∧ ItE h' ∧ (∀ b o, ¬ X b → h.get? b = some o → h'.get? b = some o))
  self : ∀ i h, It i h → Pv prog w A h (pyIter (.ref I)) (· = .ref I)
theorem filter_range_succ (p : Nat → Bool) (i : Nat) : (List.range (i + 1)).filter p = (List.range i).filter p ++ (if p i then [i] else []) := by
  rw [List.range_succ, List.filter_append]
  cases hp : p i <;> simp [hp]
theorem RnC.compMap {elt target iter : Expr} {ifs : List Expr} {scope : Scope} {pos : Pos} {cenv : Env} {I D : Addr} {N n : Nat} {X Y : Addr → Prop} {V : Nat → Value → Heap → Prop} {It : Nat → Heap → Prop} {ItE : Heap → Prop} {h₂ : Heap}
    {P : Flow → Heap → Prop} (T : Itr prog w A target I N n X V It ItE) (p : Nat → Bool) (F : Nat → Value → Heap → Prop) (FrA : Heap → Prop) (FrV : Nat → Heap → Prop) (hN : h₂.objs.size = N)
    (hn : n < 1000) (hD : N ≤ D) (hY : ∀ b, Y b → N ≤ b ∧ b ≠ D)
    (hFA : ∀ h h', FrA h → (∀ b o, ¬ X b → b ≠ D → h.get? b = some o → h'.get? b = some o) → FrA h')
    (hFV : ∀ i h, FrV i h → FrA h)
    (hF : ∀ i y h h', F i y h → (∀ b o, N ≤ b → ¬ Y b → b ≠ D → h.get? b = some o → h'.get? b = some o) → F i y h')
    (hasg : ∀ i v h, i < n → FrA h → V i v h → Rn prog w A h (assign target cenv v) (fun _ h' => FrV i h' ∧ ∀ b o, ¬ Y b → h.get? b = some o → h'.get? b = some o))
    (helt : ∀ i h, i < n → FrV i h → (∃ us, Lst h D us) → (∀ b o, ¬ X b → h₂.get? b = some o → h.get? b = some o) → Rn prog w A h (cTests ifs cenv) (fun ok h₅ => ok = p i ∧ Kp h h₅ ∧ (ok = true →
      Rn prog w A h₅ (eval elt cenv) (fun y h₆ => F i y h₆ ∧ Kp h₅ h₆))))
    (H0 : It 0 h) (HF : FrA h) (HD : Lst h D []) (HK : Kp h₂ h)
    (hend : ∀ h' ys, ItE h' → FrA h' → Lst h' D ys → ys.length = ((List.range n).filter p).length → (∀ (j : Nat) y, ys[j]? = some y → ∃ i, ((List.range n).filter p)[j]? = some i ∧ F i y h') →
      (∀ b o, ¬ X b → h₂.get? b = some o → h'.get? b = some o) → P .next h') :
    RnC prog w A h (.compLoop (.ListComp elt [⟨target, iter, ifs, 0⟩] scope pos) 0 (.ref I) (.ref D) cenv) P := by
  have hDX : ¬ X D := fun q => absurd (T.lt D q) (Nat.not_lt.mpr hD)
  have hYX : ∀ b, Y b → ¬ X b := fun b y q => absurd (T.lt b q) (Nat.not_lt.mpr (hY b y).1)
  refine RnC.compLoop (fun m h => ∃ i ys, m + i = n ∧ It i h ∧ FrA h ∧ Lst h D ys ∧ ys.length = ((List.range i).filter p).length ∧ (∀ (j : Nat) y, ys[j]? = some y → ∃ i', ((List.range i).filter p)[j]? = some i' ∧ F i' y h) ∧
      (∀ b o, ¬ X b → h₂.get? b = some o → h.get? b = some o)) ?_ n ⟨0, [], rfl, H0, HF, HD, rfl, (fun j y e => by simp at e), fun b o _ e => HK b o e⟩
  rintro m h ⟨i, ys, hm, hI, hA, hL, hlen, hys, hk⟩
  cases m with
  | zero =>
    have : i = n := by omega
    subst this
    refine (T.fin h hI).mono ?_
    rintro r h' ⟨e, hE, hx⟩
    subst e
    refine hend h' ys hE (hFA h h' hA fun b o y _ e => hx b o y e) (let ⟨q, e⟩ := hL; ⟨q, hx _ _ hDX e⟩) hlen (fun j y e => ?_) (fun b o q e => hx b o q (hk b o q e))
    obtain ⟨i', h1, h2⟩ := hys j y e
    exact ⟨i', h1, hF i' y h h' h2 fun b o hb _ _ e => hx b o (fun q => absurd (T.lt b q) (Nat.not_lt.mpr hb)) e⟩
  | succ m =>
    have hi : i < n := by omega
    refine (T.item i h hi hI).mono ?_
    rintro r h₁ ⟨v, e, R⟩
    subst e
    refine R.mono ?_
    rintro _ h₃ ⟨hV, hI₃, hx⟩
    have hA₃ : FrA h₃ := hFA h h₃ hA fun b o y _ e => hx b o y e
    refine (hasg i v h₃ hi hA₃ hV).mono ?_
    rintro _ h₄ ⟨hV₄, hx₄⟩
    have hI₄ : It (i + 1) h₄ := T.keep _ _ _ hI₃ fun b o hb e => hx₄ b o (fun y => absurd (hY b y).1 (Nat.not_le.mpr hb)) e
    have hL₄ : Lst h₄ D ys := let ⟨q, e⟩ := hL; ⟨q, hx₄ _ _ (fun y => (hY D y).2 rfl) (hx _ _ hDX e)⟩
    have hk₄ : ∀ b o, ¬ X b → h₂.get? b = some o → h₄.get? b = some o := fun b o q e => hx₄ b o (fun y => absurd (hY b y).1 (Nat.not_le.mpr (hN ▸ Heap.lt_size e))) (hx b o q (hk b o q e))
    have hF₄ : ∀ (j : Nat) y, ys[j]? = some y → ∃ i', ((List.range i).filter p)[j]? = some i' ∧ F i' y h₄ := fun j y e => by
      obtain ⟨i', h1, h2⟩ := hys j y e
      exact ⟨i', h1, hF i' y h h₄ h2 fun b o hb hy _ e => hx₄ b o hy (hx b o (fun q => absurd (T.lt b q) (Nat.not_lt.mpr hb)) e)⟩
    refine (helt i h₄ hi hV₄ ⟨_, hL₄⟩ hk₄).mono ?_
    rintro ok h₅ ⟨e, k₅, R⟩
    have hF₅ : ∀ h₆, Kp h₄ h₆ → ∀ (j : Nat) y, ys[j]? = some y → ∃ i', ((List.range i).filter p)[j]? = some i' ∧ F i' y h₆ := fun h₆ k₆ j y e => by
      obtain ⟨i', h1, h2⟩ := hF₄ j y e
      exact ⟨i', h1, hF i' y h₄ h₆ h2 fun b o _ _ _ e => k₆ b o e⟩
    cases hp : p i with
    | false =>
      rw [hp] at e
      subst e
      rw [if_neg Bool.false_ne_true]
      have hfl : (List.range (i + 1)).filter p = (List.range i).filter p := by rw [filter_range_succ, hp]; simp
      exact ⟨m, Nat.lt_succ_self _, i + 1, ys, by omega, T.keep _ _ _ hI₄ (fun b o _ e => k₅ b o e), hFA _ _ (hFV _ _ hV₄) (fun b o _ _ e => k₅ b o e), hL₄.keeps k₅, by rw [hfl]; exact hlen, by rw [hfl]; exact hF₅ h₅ k₅, fun b o q e => k₅ _ _ (hk₄ b o q e)⟩
    | true =>
      rw [hp] at e
      subst e
      rw [if_pos rfl]
      refine (R rfl).mono ?_
      rintro y h₆ ⟨hy, k₆⟩
      have k := k₅.trans k₆
      refine Rn.appendL (hL₄.keeps k) ?_ fun h₇ hL₇ hs₇ => ?_
      · rw [hlen]
        have : ((List.range i).filter p).length ≤ (List.range i).length := List.length_filter_le ..
        simp at this
        omega
      have hfl : (List.range (i + 1)).filter p = (List.range i).filter p ++ [i] := by rw [filter_range_succ, hp]; simp
      refine ⟨m, Nat.lt_succ_self _, i + 1, ys ++ [y], by omega, T.keep _ _ _ hI₄ (fun b o hb e => hs₇.extBut b o (Nat.ne_of_lt (Nat.lt_of_lt_of_le hb hD)) (k b o e)), hFA _ _ (hFV _ _ hV₄) (fun b o _ hb e => hs₇.extBut b o hb (k b o e)), hL₇,
        by rw [hfl]; simp [hlen], fun j z e => ?_, fun b o q e => hs₇.extBut b o (Nat.ne_of_lt (Nat.lt_of_lt_of_le (hN ▸ Heap.lt_size e) hD)) (k _ _ (hk₄ b o q e))⟩
      rw [hfl]
      by_cases hj : j < ys.length
      · rw [List.getElem?_append_left hj] at e
        obtain ⟨i', h1, h2⟩ := hF₅ h₆ k j z e
        exact ⟨i', by rw [List.getElem?_append_left (by omega)]; exact h1, hF i' z h₆ h₇ h2 fun b o _ _ hb e => hs₇.extBut b o hb e⟩
      · rw [List.getElem?_append_right (by omega)] at e
        have hj0 : j - ys.length = 0 := by
          have := (List.getElem?_eq_some_iff.mp e).1
          simp at this
          omega
        rw [hj0] at e
        simp at e
        subst e
        refine ⟨i, ?_, hF i y h₆ h₇ hy fun b o _ _ hb e => hs₇.extBut b o hb e⟩
        rw [List.getElem?_append_right (by omega), ← hlen, hj0]
        rfl
end
end
section
set_option maxRecDepth 100000
set_option autoImplicit false
set_option linter.unusedVariables false
theorem Src.keepBut {h h' : Heap} {I : Addr} {xs : List Value} (S : Src h I xs) (k : ∀ c o, c = I ∨ o.cls = .type "list" → h.get? c = some o → h'.get? c = some o) : Src h' I xs := by
  cases S with
  | fwd l us i a b c d => exact .fwd l us i (let ⟨o, e, r⟩ := a; ⟨o, k _ _ (.inl rfl) e, r⟩) (let ⟨n, e⟩ := b; ⟨n, k _ _ (.inr rfl) e⟩) c d
  | rev l us i a b c d e => exact .rev l us i (let ⟨o, e, r⟩ := a; ⟨o, k _ _ (.inl rfl) e, r⟩) (let ⟨n, e⟩ := b; ⟨n, k _ _ (.inr rfl) e⟩) c d e
theorem ne_cls_of {x : String} (h : x ≠ "list" := by decide) : (Value.type x) ≠ .type "list" := fun q => h (by injection q)
/-- something that is no list turns -/
theorem Src.other {h h' : Heap} {I b : Addr} {xs : List Value} {ob : Obj} (S : Src h I xs) (x : Heap.ExtBut b h h') (e : h.get? b = some ob) (hc : ob.cls ≠ .type "list") (hb : b ≠ I) : Src h' I xs :=
  S.keepBut fun c o q eo => x c o (fun he => by
    subst he
    rcases q with q | q
    · exact hb q
    · rw [e] at eo; cases eo; exact hc q) eo
theorem Src.lt {h : Heap} {I : Addr} {xs : List Value} (S : Src h I xs) : I < h.objs.size := let ⟨_, e⟩ := S.there; Heap.lt_size e
section
variable {prog : Program} {w : World} {A : Around} {E : Value → Shared → Prop} {s : Shared}
theorem nextOf_range_item {it : Addr} {x left step : Int} {Q : Value → Shared → Prop} (hit : IsRangeIter s.heap it x left step) (hleft : 0 < left)
    (hQ : ∀ h', IsRangeIter h' it (x + step) (left - 1) step → Heap.SameBut it s.heap h' → Q (.int x s.toks) { s with heap := h', toks := s.toks + 1 }) :
    wpAny (model prog w) A (Builtin.SmallTypes.nextOf (.ref it)) Q E s := by
  have hT : s.TypeIs (.ref it) "range_iterator" := ⟨_, hit, rfl⟩
  unfold Builtin.SmallTypes.nextOf
  refine wpAny_bind (wpAny_callSpecial?_slot (name := Str.ofString "__next__") hT F.slot_range_iterator_next
    (call_meets F.slot_range_iterator_next hT F.entry_range_iterator_next (F.args_range_iterator_next_1 _) (AutoRange.range_iterator___next___range_iterator_1 it x left step (by omega)) ⟨hit, ?_⟩))
  exact wpAny_pure (hQ _ (Heap.get?_update_self _ (Heap.get?_update_self _ hit rfl) rfl) ((Heap.SameBut.update ..).trans (Heap.SameBut.update ..)))
theorem nextOf_range_end {it : Addr} {x left step : Int} {Q : Value → Shared → Prop} (hh : A.handled = none) (hit : IsRangeIter s.heap it x left step) (hleft : left ≤ 0)
    (hE : ∀ h' e, Heap.ExtBut it s.heap h' → (∃ o, h'.get? e = some o ∧ o.cls = .type "StopIteration") → E (.ref e) { s with heap := h' }) :
    wpAny (model prog w) A (Builtin.SmallTypes.nextOf (.ref it)) Q E s := by
  have hT : s.TypeIs (.ref it) "range_iterator" := ⟨_, hit, rfl⟩
  unfold Builtin.SmallTypes.nextOf
  refine wpAny_bind (wpAny_callSpecial?_slot (name := Str.ofString "__next__") hT F.slot_range_iterator_next
    (wpAny_call_entry F.slot_range_iterator_next hT F.entry_range_iterator_next ?_ (F.args_range_iterator_next_1 _)))
  show wpAny _ _ (field (.ref it) 0 >>= _) _ _ s
  refine wpAny_bind (wpAny_field hit rfl (x := rawInt x) rfl ?_)
  show wpAny _ _ (field (.ref it) 1 >>= _) _ _ s
  refine wpAny_bind (wpAny_field hit rfl (x := rawInt left) rfl ?_)
  show wpAny _ _ (field (.ref it) 2 >>= _) _ _ s
  refine wpAny_bind (wpAny_field hit rfl (x := rawInt step) rfl ?_)
  show wpAny _ _ (if left ≤ 0 then _ else _) _ _ s
  rw [if_pos hleft]
  refine wpAny_bind (wpAny_rule ?_)
  refine wpAny_bind ?_
  show wpAny _ _ (newExc (.type "StopIteration") [] >>= _) _ _ _
  refine wpAny_bind ?_
  simp only [newExc, newTuple]
  refine wpAny_bind (wpAny_newObj_type ?_ (by size_fits))
  refine wpAny_bind (m := firstArgMember _ _) (wpAny_of_eq (a := Value.none) (by first | rfl | (simp only [firstArgMember]; rfl)) ?_)
  refine wpAny_newObj_type ?_ (by size_fits)
  simp only [raiseNew]
  refine wpAny_bind (wpAny_handled ?_)
  first | rw [show A.in1.handled = none from hh] | rw [hh]
  refine wpAny_bind (wpAny_pure (wpAny_throw ?_))
  exact hE _ _ (((Heap.ExtBut.refl it s.heap).push _).push _) ⟨_, Heap.get?_push_size _ rfl, rfl⟩
theorem nextOf_rev_item {it l : Addr} {i : Nat} {items : Array Value} {x : Value} {Q : Value → Shared → Prop} (hit : s.heap.IsRevIter it l (i : Int)) (hl : s.heap.IsList l items) (hx : items[i]? = some x)
    (hQ : ∀ h', h'.IsRevIter it l ((i : Int) - 1) → Heap.SameBut it s.heap h' → Q x { s with heap := h' }) : wpAny (model prog w) A (Builtin.SmallTypes.nextOf (.ref it)) Q E s := by
  obtain ⟨o, ho, hc, hd⟩ := id hit
  obtain ⟨ol, hol, _, nl, hdl⟩ := hl
  unfold Builtin.SmallTypes.nextOf
  refine wpAny_bind (wpAny_callSpecial?_slot (name := Str.ofString "__next__") hit.typeIs F.slot_lri_next
    (wpAny_call_entry F.slot_lri_next hit.typeIs F.entry_lri_next ?_ (F.args_lri_next_1 _)))
  unfold Builtin.«list_reverseiterator.__next__»
  refine wpAny_bind (wpAny_of_eq (a := (Value.ref it, [])) rfl ?_)
  try dsimp only
  refine wpAny_bind (wpAny_field ho hd (x := rawInt (i : Int)) rfl ?_)
  show wpAny _ _ (if (i : Int) < 0 then _ else _) _ _ s
  rw [if_neg (by omega)]
  show wpAny _ _ (field (.ref it) 0 >>= _) _ _ s
  refine wpAny_bind (wpAny_field ho hd (x := .ref l) rfl ?_)
  show wpAny _ _ (seqItems? (.ref l) >>= _) _ _ s
  refine wpAny_bind (wpAny_seqItems hol hdl ?_)
  simp only [Int.toNat_natCast, hx]
  refine wpAny_bind (wpAny_setField ho hd (by simp) ?_)
  first
  | refine wpAny_pure ⟨x, rfl, wpAny_pure (hQ _ ?_ (Heap.SameBut.update ..))⟩
  | refine wpAny_bind (wpAny_pure (wpAny_pure ⟨x, rfl, wpAny_pure (hQ _ ?_ (Heap.SameBut.update ..))⟩))
  exact ⟨_, Heap.get?_update_self _ ho (Obj.isFreed_of_fields (Obj.data_mapFields hd _)), (Obj.cls_mapFields ..).trans hc, by
    rw [Obj.data_mapFields hd]; simp⟩
theorem pyIter_src {I : Addr} {xs : List Value} {Q : Value → Shared → Prop} (S : Src s.heap I xs) (h : Q (.ref I) s) : wpAny (model prog w) A (pyIter (.ref I)) Q E s := by
  cases S with
  | fwd l us i hi hl hne hx => exact wpAny_pyIter_listiter hi h
  | rev l us i hi hl hne hle hx => exact wpAny_pyIter_revIter hi h
end
section
variable {prog : Program} {w : World} {A : Around} {h b : Heap} {env : Env}
/-- the same with the list named -/
inductive SrcL (h : Heap) (I l : Addr) (xs : List Value) : Prop where
  | fwd (us : List Value) (i : Nat) : h.IsListIter I l i → Lst h l us → l ≠ I → xs = us.drop i → SrcL h I l xs
  | rev (us : List Value) (i : Nat) : h.IsRevIter I l ((i : Int) - 1) → Lst h l us → l ≠ I → i ≤ us.length → xs = (us.take i).reverse → SrcL h I l xs
theorem Src.toL {I : Addr} {xs : List Value} (S : Src h I xs) : ∃ l us, SrcL h I l xs ∧ Lst h l us := by
  cases S with
  | fwd l us i a b c d => exact ⟨l, us, .fwd us i a b c d, b⟩
  | rev l us i a b c d e => exact ⟨l, us, .rev us i a b c d e, b⟩
theorem SrcL.src {I l : Addr} {xs : List Value} (S : SrcL h I l xs) : Src h I xs := by
  cases S with
  | fwd us i a b c d => exact .fwd l us i a b c d
  | rev us i a b c d e => exact .rev l us i a b c d e
theorem SrcL.ext {h' : Heap} {I l c : Addr} {xs : List Value} (S : SrcL h I l xs) (x : Heap.ExtBut c h h') (hI : I ≠ c) (hl : l ≠ c) : SrcL h' I l xs := by
  cases S with
  | fwd us i a b c d => exact .fwd us i (let ⟨o, e, r⟩ := a; ⟨o, x _ _ hI e, r⟩) (b.ext x hl) c d
  | rev us i a b c d e => exact .rev us i (let ⟨o, e, r⟩ := a; ⟨o, x _ _ hI e, r⟩) (b.ext x hl) c d e
theorem SrcL.keeps {h' : Heap} {I l : Addr} {xs : List Value} (S : SrcL h I l xs) (k : Kp h h') : SrcL h' I l xs := by
  cases S with
  | fwd us i a b c d => exact .fwd us i (let ⟨o, e, r⟩ := a; ⟨o, k _ _ e, r⟩) (b.keeps k) c d
  | rev us i a b c d e => exact .rev us i (let ⟨o, e, r⟩ := a; ⟨o, k _ _ e, r⟩) (b.keeps k) c d e
theorem Rn.nextSrcL {I l : Addr} {v : Value} {xs : List Value} {P : Option Value → Heap → Prop} (S : SrcL h I l (v :: xs)) (k : ∀ h', SrcL h' I l xs → Heap.SameBut I h h' → P (some v) h') : Rn prog w A h (pyNext (.ref I)) P := by
  cases S with
  | fwd us i hi hl hne hx =>
    have hv : us[i]? = some v := by
      have : (us.drop i)[0]? = some v := by rw [← hx]; rfl
      rwa [List.getElem?_drop, Nat.add_zero] at this
    have hx' : xs = us.drop (i + 1) := by rw [← List.drop_drop, ← hx]; rfl
    exact Rn.of fun s Q E es kk => by
      subst es
      exact wpAny_pyNext_list_item hi hl.isList (by simpa using hv) fun h' hi' hs => kk _ h' s.toks (k h' (.fwd us (i + 1) hi' (hl.ext hs.extBut hne) hne hx') hs)
  | rev us i hi hl hne hle hx =>
    cases i with
    | zero => simp at hx
    | succ i =>
      have hlt : i < us.length := hle
      have ht : us.take (i + 1) = us.take i ++ [us[i]] := (List.take_append_getElem hlt).symm
      rw [ht, List.reverse_append] at hx
      simp only [List.reverse_cons, List.reverse_nil, List.nil_append, List.singleton_append, List.cons.injEq] at hx
      obtain ⟨rfl, rfl⟩ := hx
      have e : (((i + 1 : Nat) : Int) - 1) = (i : Int) := by omega
      rw [e] at hi
      exact Rn.of fun s Q E es kk => by
        subst es
        exact wpAny_pyNext_rev_item hi hl.isList (by simp [hlt]) fun h' hi' hs => kk _ h' s.toks (k h' (.rev us i hi' (hl.ext hs.extBut hne) hne (by omega) rfl) hs)
theorem SrcL.other {h' : Heap} {I l c : Addr} {xs : List Value} {ob : Obj} (S : SrcL h I l xs) (x : Heap.ExtBut c h h') (e : h.get? c = some ob) (hc : ob.cls ≠ .type "list") (hb : c ≠ I) : SrcL h' I l xs := by
  refine S.ext x hb.symm fun q => ?_
  subst q
  cases S with
  | fwd us i a b d f => obtain ⟨n, e'⟩ := b; rw [e'] at e; cases e; exact hc rfl
  | rev us i a b d f g => obtain ⟨n, e'⟩ := b; rw [e'] at e; cases e; exact hc rfl
theorem SrcL.keepN {h' : Heap} {N : Nat} {I l : Addr} {xs : List Value} (S : SrcL h I l xs) (hI : I < N) (hl : l < N) (k : ∀ b o, b < N → h.get? b = some o → h'.get? b = some o) : SrcL h' I l xs := by
  cases S with
  | fwd us i a b c d => exact .fwd us i (let ⟨o, e, r⟩ := a; ⟨o, k _ _ hI e, r⟩) (let ⟨n, e⟩ := b; ⟨n, k _ _ hl e⟩) c d
  | rev us i a b c d e => exact .rev us i (let ⟨o, e, r⟩ := a; ⟨o, k _ _ hI e, r⟩) (let ⟨n, e⟩ := b; ⟨n, k _ _ hl e⟩) c d e
end
section
variable {prog : Program} {w : World} {A : Around} {E : Value → Shared → Prop} {s : Shared}
theorem nextOf_srcL {I l : Addr} {v : Value} {xs : List Value} {Q : Value → Shared → Prop} (S : SrcL s.heap I l (v :: xs)) (hQ : ∀ h', SrcL h' I l xs → Heap.SameBut I s.heap h' → Q v { s with heap := h' }) :
    wpAny (model prog w) A (Builtin.SmallTypes.nextOf (.ref I)) Q E s := by
  cases S with
  | fwd us i hi hl hne hx =>
    have hv : us[i]? = some v := by
      have : (us.drop i)[0]? = some v := by rw [← hx]; rfl
      rwa [List.getElem?_drop, Nat.add_zero] at this
    have hx' : xs = us.drop (i + 1) := by rw [← List.drop_drop, ← hx]; rfl
    exact wpAny_nextOf_list_item hi hl.isList (by simpa using hv) fun h' hi' hs => hQ h' (.fwd us (i + 1) hi' (hl.ext hs.extBut hne) hne hx') hs
  | rev us i hi hl hne hle hx =>
    cases i with
    | zero => simp at hx
    | succ i =>
      have hlt : i < us.length := hle
      have ht : us.take (i + 1) = us.take i ++ [us[i]] := (List.take_append_getElem hlt).symm
      rw [ht, List.reverse_append] at hx
      simp only [List.reverse_cons, List.reverse_nil, List.nil_append, List.singleton_append, List.cons.injEq] at hx
      obtain ⟨rfl, rfl⟩ := hx
      have e : (((i + 1 : Nat) : Int) - 1) = (i : Int) := by omega
      rw [e] at hi
      exact nextOf_rev_item hi hl.isList (by simp [hlt]) fun h' hi' hs => hQ h' (.rev us i hi' (hl.ext hs.extBut hne) hne (by omega) rfl) hs
end
structure ZApart (z TI TO i1 i2 : Addr) : Prop where
  TIz : TI ≠ z
  TOz : TO ≠ z
  i1z : i1 ≠ z
  i2z : i2 ≠ z
  TITO : TI ≠ TO
  TIi1 : TI ≠ i1
  TIi2 : TI ≠ i2
  TOi1 : TO ≠ i1
  TOi2 : TO ≠ i2
  i12 : i1 ≠ i2
structure ZSt (h : Heap) (z TI TO i1 i2 l2 : Addr) (f0 : Value) (x left step : Int) (xs : List Value) : Prop where
  hz : IsZip h z TI TO f0
  hTI : IsPair h TI (.ref i1) (.ref i2)
  hTO : ∃ a b, IsPair h TO a b
  h1 : IsRangeIter h i1 x left step
  h2 : SrcL h i2 l2 xs
section
variable {prog : Program} {w : World} {A : Around} {E : Value → Shared → Prop} {s : Shared}
theorem zipR_next {z TI TO i1 i2 l2 : Addr} {x left step : Int} {xs : List Value} {y : Value} {Q : Value → Shared → Prop} (D : ZApart z TI TO i1 i2)
    (Z : ZSt s.heap z TI TO i1 i2 l2 .none x left step (y :: xs)) (hl : 0 < left)
    (hQ : ∀ h' tk t, ZSt h' z TI TO i1 i2 l2 (rawInt s.heap.objs.size) (x + step) (left - 1) step xs → IsPair h' s.heap.objs.size (.int x t) y → h'.objs.size = s.heap.objs.size + 1 →
      (∀ c o, c ≠ z → c ≠ TO → c ≠ i1 → c ≠ i2 → s.heap.get? c = some o → h'.get? c = some o) → Q (.ref s.heap.objs.size) { s with heap := h', toks := tk }) :
    wpAny (model prog w) A (Builtin.«zip.__next__» ⟨[.ref z], []⟩) (fun fin s' => ∃ v, fin = .done (.ret v) ∧ Q v s') E s := by
  obtain ⟨hz, hTI, ⟨a, b, hTO⟩, h1, h2⟩ := Z
  show wpAny _ _ (field (.ref z) 2 >>= _) _ _ _
  refine wpAny_bind (wpAny_field hz rfl (x := .bool false) rfl ?_)
  show wpAny _ _ (field (.ref z) 3 >>= _) _ _ _
  refine wpAny_bind (wpAny_field hz rfl (x := .ref TI) rfl ?_)
  refine wpAny_bind (wpAny_seqItems hTI rfl ?_)
  show wpAny _ _ (Builtin.SmallTypes.ownedTupleIsFree (.ref z) >>= _) _ _ _
  refine wpAny_bind ?_
  unfold Builtin.SmallTypes.ownedTupleIsFree
  refine wpAny_bind (wpAny_field hz rfl (x := .none) rfl (wpAny_pure ?_))
  simp only [if_true]
  refine wpAny_bind (wpAny_rule ?_)
  refine wpAny_bind (wpAny_field hz rfl (x := .ref TO) rfl ?_)
  refine wpAny_bind (wpAny_setField_rec hz (by simp) fun h₁ hz₁ hs₁ => ?_)
  replace hz₁ : IsZip h₁ z TI TO .ellipsis := hz₁
  refine wpAny_bind ?_
  simp only [List.zipIdx_cons, List.zipIdx_nil, List.forIn_cons, List.forIn_nil]
  refine wpAny_bind (wpAny_bind (wpAny_onRaise ?_))
  show wpAny _ _ (Builtin.SmallTypes.nextOf (.ref i1) >>= _) _ _ _
  refine wpAny_bind (nextOf_range_item (hs₁.extBut _ _ D.i1z h1) hl fun h₂ h1₂ hs₂ => wpAny_pure ?_)
  have hTO₂ : IsPair h₂ TO a b := hs₂.extBut _ _ D.TOi1 (hs₁.extBut _ _ D.TOz hTO)
  refine wpAny_bind (wpAny_seqItems hTO₂ rfl ?_)
  refine wpAny_bind (wpAny_updateSeq_pair hTO₂ fun h₃ hTO₃ hs₃ => ?_)
  replace hTO₃ : IsPair h₃ TO (.int x s.toks) b := hTO₃
  refine wpAny_bind (wpAny_letGo (wpAny_pure ?_))
  refine wpAny_bind (wpAny_bind (wpAny_onRaise ?_))
  show wpAny _ _ (Builtin.SmallTypes.nextOf (.ref i2) >>= _) _ _ _
  have S₁ : SrcL h₁ i2 l2 (y :: xs) := h2.other hs₁.extBut hz ne_cls_of D.i2z.symm
  have S₂ : SrcL h₂ i2 l2 (y :: xs) := S₁.other hs₂.extBut (hs₁.extBut _ _ D.i1z h1) ne_cls_of D.i12
  have S₃ : SrcL h₃ i2 l2 (y :: xs) := S₂.other hs₃.extBut hTO₂ ne_cls_of D.TOi2
  refine wpAny_bind (nextOf_srcL S₃ fun h₄ h2₄ hs₄ => wpAny_pure ?_)
  have hTO₄ : IsPair h₄ TO (.int x s.toks) b := hs₄.extBut _ _ D.TOi2 hTO₃
  refine wpAny_bind (wpAny_seqItems hTO₄ rfl ?_)
  refine wpAny_bind (wpAny_updateSeq_pair hTO₄ fun h₅ hTO₅ hs₅ => ?_)
  replace hTO₅ : IsPair h₅ TO (.int x s.toks) y := hTO₅
  refine wpAny_bind (wpAny_letGo (wpAny_pure (wpAny_pure ?_)))
  refine wpAny_bind (wpAny_seqItems hTO₅ rfl ?_)
  refine wpAny_bind (wpAny_newTuple ?_)
  have hsz : h₅.objs.size = s.heap.objs.size := by rw [hs₅.1, hs₄.1, hs₃.1, hs₂.1, hs₁.1]
  have hz₅ : IsZip h₅ z TI TO .ellipsis := hs₅.extBut _ _ D.TOz.symm (hs₄.extBut _ _ D.i2z.symm (hs₃.extBut _ _ D.TOz.symm (hs₂.extBut _ _ D.i1z.symm hz₁)))
  have hk₅ : ∀ c o, c ≠ z → c ≠ TO → c ≠ i1 → c ≠ i2 → s.heap.get? c = some o → h₅.get? c = some o := fun c o c1 c2 c3 c4 e =>
    hs₅.extBut _ _ c2 (hs₄.extBut _ _ c4 (hs₃.extBut _ _ c2 (hs₂.extBut _ _ c3 (hs₁.extBut _ _ c1 e))))
  have h1₅ : IsRangeIter h₅ i1 (x + step) (left - 1) step := hs₅.extBut _ _ D.TOi1.symm (hs₄.extBut _ _ D.i12 (hs₃.extBut _ _ D.TOi1.symm h1₂))
  have h2₅ : SrcL h₅ i2 l2 xs := h2₄.other hs₅.extBut hTO₄ ne_cls_of D.TOi2
  have hzlt : z < h₅.objs.size := Heap.lt_size hz₅
  show wpAny _ _ (Builtin.SmallTypes.ownedTupleHandOut (.ref z) (.ref h₅.objs.size) >>= _) _ _ _
  refine wpAny_bind ?_
  unfold Builtin.SmallTypes.ownedTupleHandOut
  have hz₆ : IsZip (h₅.push { cls := .type "tuple", data := .seq #[.int x s.toks, y] }) z TI TO .ellipsis := Heap.get?_push_of_some _ hz₅
  refine wpAny_bind (wpAny_setField_rec hz₆ (by simp) fun h₇ hz₇ hs₇ => ?_)
  replace hz₇ : IsZip h₇ z TI TO (rawInt h₅.objs.size) := hz₇
  refine wpAny_setField_rec hz₇ (by simp) fun h₈ hz₈ hs₈ => ?_
  replace hz₈ : IsZip h₈ z TI TO (rawInt h₅.objs.size) := hz₈
  have up : ∀ c o, c ≠ z → h₅.get? c = some o → h₈.get? c = some o := fun c o c1 e => hs₈.extBut _ _ c1 (hs₇.extBut _ _ c1 (Heap.get?_push_of_some _ e))
  have hT₈ : IsPair h₈ h₅.objs.size (.int x s.toks) y := hs₈.extBut _ _ (Nat.ne_of_gt hzlt) (hs₇.extBut _ _ (Nat.ne_of_gt hzlt) (Heap.get?_push_size _ rfl))
  have hz8 : h₈.objs.size = h₅.objs.size + 1 := by rw [hs₈.1, hs₇.1, Heap.size_push]
  rw [hsz] at hz₈ hT₈ hz8
  refine wpAny_pure ⟨_, rfl, ?_⟩
  show Q (.ref h₅.objs.size) _
  rw [hsz]
  refine hQ h₈ _ s.toks ⟨hz₈, up _ _ D.TIz (hk₅ _ _ D.TIz D.TITO D.TIi1 D.TIi2 hTI), ⟨_, _, up _ _ D.TOz hTO₅⟩, up _ _ D.i1z h1₅, ?_⟩ hT₈ hz8 fun c o c1 c2 c3 c4 e => up c o c1 (hk₅ c o c1 c2 c3 c4 e)
  have x8 : Heap.ExtBut z h₅ h₈ := fun c o c1 e => up c o c1 e
  exact h2₅.other x8 hz₅ ne_cls_of D.i2z.symm
theorem zipR_end {z TI TO i1 i2 l2 : Addr} {x left step : Int} {xs : List Value} {Q : Fin → Shared → Prop} (hh : A.handled = none) (D : ZApart z TI TO i1 i2)
    (Z : ZSt s.heap z TI TO i1 i2 l2 .none x left step xs) (hl : left ≤ 0)
    (hE : ∀ h' e, SrcL h' i2 l2 xs → (∀ c o, c ≠ z → c ≠ TO → c ≠ i1 → c ≠ i2 → s.heap.get? c = some o → h'.get? c = some o) → (∃ o, h'.get? e = some o ∧ o.cls = .type "StopIteration") → E (.ref e) { s with heap := h' }) :
    wpAny (model prog w) A (Builtin.«zip.__next__» ⟨[.ref z], []⟩) Q E s := by
  obtain ⟨hz, hTI, ⟨a, b, hTO⟩, h1, h2⟩ := Z
  show wpAny _ _ (field (.ref z) 2 >>= _) _ _ _
  refine wpAny_bind (wpAny_field hz rfl (x := .bool false) rfl ?_)
  show wpAny _ _ (field (.ref z) 3 >>= _) _ _ _
  refine wpAny_bind (wpAny_field hz rfl (x := .ref TI) rfl ?_)
  refine wpAny_bind (wpAny_seqItems hTI rfl ?_)
  show wpAny _ _ (Builtin.SmallTypes.ownedTupleIsFree (.ref z) >>= _) _ _ _
  refine wpAny_bind ?_
  unfold Builtin.SmallTypes.ownedTupleIsFree
  refine wpAny_bind (wpAny_field hz rfl (x := .none) rfl (wpAny_pure ?_))
  simp only [if_true]
  refine wpAny_bind (wpAny_rule ?_)
  refine wpAny_bind (wpAny_field hz rfl (x := .ref TO) rfl ?_)
  refine wpAny_bind (wpAny_setField_rec hz (by simp) fun h₁ hz₁ hs₁ => ?_)
  replace hz₁ : IsZip h₁ z TI TO .ellipsis := hz₁
  refine wpAny_bind ?_
  simp only [List.zipIdx_cons, List.zipIdx_nil, List.forIn_cons, List.forIn_nil]
  refine wpAny_bind (wpAny_bind (wpAny_onRaise ?_))
  show wpAny _ _ (Builtin.SmallTypes.nextOf (.ref i1) >>= _) _ _ _
  have h1₁ := hs₁.extBut _ _ D.i1z h1
  refine wpAny_bind (nextOf_range_end hh h1₁ hl fun h₂ e hs₂ he => ?_)
  obtain ⟨oe, hoe, hce⟩ := he
  have hz₂ : IsZip h₂ z TI TO .ellipsis := hs₂ _ _ D.i1z.symm hz₁
  have hez : e ≠ z := fun x => by subst x; rw [hz₂] at hoe; cases hoe; simp at hce
  have S₁ : SrcL h₁ i2 l2 xs := h2.other hs₁.extBut hz ne_cls_of D.i2z.symm
  have S₂ : SrcL h₂ i2 l2 xs := S₁.other hs₂ h1₁ ne_cls_of D.i12
  refine wpAny_setField_rec hz₂ (by simp) fun h₃ _ hs₃ => hE h₃ e (S₂.other hs₃.extBut hz₂ ne_cls_of D.i2z.symm) (fun c o c1 _ c3 _ x => hs₃.extBut _ _ c1 (hs₂ _ _ c3 (hs₁.extBut _ _ c1 x))) ⟨oe, hs₃.extBut _ _ hez hoe, hce⟩
abbrev zH1 (h : Heap) (x n c : Int) : Heap := h.push { cls := .type "range_iterator", data := .fields #[rawInt x, rawInt n, rawInt c] }
abbrev zH2 (h : Heap) (x n c : Int) (i2 : Addr) : Heap := (zH1 h x n c).push { cls := .type "tuple", data := .seq #[.ref h.objs.size, .ref i2] }
abbrev zH3 (h : Heap) (x n c : Int) (i2 : Addr) : Heap := (zH2 h x n c i2).push { cls := .type "tuple", data := .seq #[.none, .none] }
abbrev zH4 (h : Heap) (x n c : Int) (i2 : Addr) : Heap := (zH3 h x n c i2).push { cls := .type "zip", data := .fields #[.none, .bool false, .bool false, .ref (zH1 h x n c).objs.size, .ref (zH2 h x n c i2).objs.size] }
theorem meets_zipR_new (r i2 : Addr) (x y c : Int) (t u v : Tok) (xs : List Value) (hs : Builtin.Range.small x y c = true) :
    Meets (Builtin.«zip.__new__» ⟨[.type "zip", .ref r, .ref i2], []⟩) (fun _ R s => IsRange s.heap r x y c t u v ∧ Src s.heap i2 xs ∧
      R (.ok (.ret (.ref (zH3 s.heap x (Builtin.Range.rangeSize x y c) c i2).objs.size))) { s with heap := zH4 s.heap x (Builtin.Range.rangeSize x y c) c i2 }) :=
  .of_wp fun prog w A R s h => by
    obtain ⟨hp, g, d, tk, os⟩ := s; obtain ⟨hr, hS, h⟩ := h
    have hsub := sub_zip
    have hR : IsRange (Shared.heap ⟨hp, g, d, tk, os⟩) r x y c t u v := hr
    have hS' : Src (Shared.heap ⟨zH1 hp x (Builtin.Range.rangeSize x y c) c, g, d, tk, os⟩) i2 xs := hS.keeps (Kp.push _ _)
    wp_walk using wpAny_pyIter_range hR hs, pyIter_src hS'
    exact ⟨_, rfl, h⟩
end
section
variable {prog : Program} {w : World} {A : Around} {h b : Heap} {env : Env}
theorem Pv.iterSrc {I : Addr} {xs : List Value} (S : Src h I xs) : Pv prog w A h (pyIter (.ref I)) (· = .ref I) :=
  Rn.of fun s Q E e kk => by subst e; exact pyIter_src S (kk _ _ s.toks ⟨rfl, rfl⟩)
theorem Rn.zipR {r i2 l2 : Addr} {x y c : Int} {t u v : Tok} {xs : List Value} {P : Value → Heap → Prop} (hr : IsRange h r x y c t u v) (hs : Builtin.Range.small x y c = true) (S : SrcL h i2 l2 xs)
    (k : ∀ z TI TO i1 h', h.get? z = none → h.get? TI = none → h.get? TO = none → h.get? i1 = none → ZApart z TI TO i1 i2 → ZSt h' z TI TO i1 i2 l2 .none x (Builtin.Range.rangeSize x y c) c xs → Kp h h' → P (.ref z) h') :
    Rn prog w A h (call (.type "zip") [.ref r, .ref i2]) P := by
  refine Rn.of fun s Q E e kk => ?_
  subst e
  refine callType_new F.called_zip (by decide) (F.typeCall_zip_2 _ _) (F.newCall_zip_2 _ _) (fun obj => F.args_object_init_3 obj _ _) F.entry_zip_new
    (meets_zipR_new r i2 x y c t u v xs hs) ⟨hr, S.src, ?_⟩
  generalize hn : Builtin.Range.rangeSize x y c = n at k
  have z1 : (zH1 s.heap x n c).objs.size = s.heap.objs.size + 1 := Heap.size_push ..
  have z2 : (zH2 s.heap x n c i2).objs.size = s.heap.objs.size + 2 := by rw [Heap.size_push, z1]
  have z3 : (zH3 s.heap x n c i2).objs.size = s.heap.objs.size + 3 := by rw [Heap.size_push, z2]
  have g4 : (zH4 s.heap x n c i2).get? (zH3 s.heap x n c i2).objs.size = some _ := Heap.get?_push_size _ rfl
  have g3 : (zH4 s.heap x n c i2).get? (zH2 s.heap x n c i2).objs.size = some _ := Heap.get?_push_of_some _ (Heap.get?_push_size _ rfl)
  have g2 : (zH4 s.heap x n c i2).get? (zH1 s.heap x n c).objs.size = some _ := Heap.get?_push_of_some _ (Heap.get?_push_of_some _ (Heap.get?_push_size _ rfl))
  have g1 : (zH4 s.heap x n c i2).get? s.heap.objs.size = some _ := Heap.get?_push_of_some _ (Heap.get?_push_of_some _ (Heap.get?_push_of_some _ (Heap.get?_push_size _ rfl)))
  have hk : Kp s.heap (zH4 s.heap x n c i2) := fun c o x => Heap.get?_push_of_some _ (Heap.get?_push_of_some _ (Heap.get?_push_of_some _ (Heap.get?_push_of_some _ x)))
  have none_of : ∀ a, s.heap.objs.size ≤ a → s.heap.get? a = none := fun a ha => by
    cases e : s.heap.get? a with
    | none => rfl
    | some o => exact absurd (Heap.lt_size e) (Nat.not_lt.mpr ha)
  have hi2 := S.src.lt
  show _ ∧ _
  refine ⟨⟨_, g4, rfl⟩, kk _ _ s.toks (k _ _ _ _ _ (none_of _ ?_) (none_of _ ?_) (none_of _ ?_) (none_of _ (Nat.le_refl _)) ?_ ⟨g4, g2, ⟨_, _, g3⟩, g1, S.keeps hk⟩ hk)⟩
  · rw [z3]; exact Nat.le_add_right _ _
  · rw [z1]; exact Nat.le_add_right _ _
  · rw [z2]; exact Nat.le_add_right _ _
  · rw [z1, z2, z3]
    generalize s.heap.objs.size = N at hi2
    have hi2 : @LT.lt Nat _ i2 N := hi2
    constructor <;> first | exact Nat.ne_of_lt (by omega) | exact Nat.ne_of_gt (by omega)
theorem Rn.zipNext {z TI TO i1 i2 l2 : Addr} {x left step : Int} {xs : List Value} {y : Value} {P : Option Value → Heap → Prop} (D : ZApart z TI TO i1 i2) (Z : ZSt h z TI TO i1 i2 l2 .none x left step (y :: xs)) (hl : 0 < left)
    (k : ∀ T h' t, h.get? T = none → ZSt h' z TI TO i1 i2 l2 (rawInt T) (x + step) (left - 1) step xs → Tup h' T [.int x t, y] → (∀ c o, c ≠ z → c ≠ TO → c ≠ i1 → c ≠ i2 → h.get? c = some o → h'.get? c = some o) → P (some (.ref T)) h') :
    Rn prog w A h (pyNext (.ref z)) P := by
  refine Rn.of fun s Q E e kk => ?_
  subst e
  have hT : s.TypeIs (.ref z) "zip" := ⟨_, Z.hz, rfl⟩
  unfold pyNext
  exact wpAny_bind (wpAny_attempt (wpAny_callSpecial?_slot (name := Str.ofString "__next__") hT F.slot_zip_next
    (wpAny_call_entry F.slot_zip_next hT F.entry_zip_next
      (zipR_next D Z hl fun h' tk t a1 a2 a3 a4 => wpAny_pure (kk _ h' tk (k _ h' t (fresh_size _) a1 ⟨_, a2, rfl, _, rfl⟩ a4))) (F.args_zip_next_1 _))))
theorem Rn.zipEnd {z TI TO i1 i2 l2 : Addr} {x left step : Int} {xs : List Value} {P : Option Value → Heap → Prop} (hA : A.handled = none) (D : ZApart z TI TO i1 i2) (Z : ZSt h z TI TO i1 i2 l2 .none x left step xs) (hl : left ≤ 0)
    (k : ∀ h', SrcL h' i2 l2 xs → (∀ c o, c ≠ z → c ≠ TO → c ≠ i1 → c ≠ i2 → h.get? c = some o → h'.get? c = some o) → P none h') :
    Rn prog w A h (pyNext (.ref z)) P := by
  refine Rn.of fun s Q E e kk => ?_
  subst e
  have hT : s.TypeIs (.ref z) "zip" := ⟨_, Z.hz, rfl⟩
  unfold pyNext
  refine wpAny_bind (wpAny_attempt (wpAny_callSpecial?_slot (name := Str.ofString "__next__") hT F.slot_zip_next
    (wpAny_call_entry F.slot_zip_next hT F.entry_zip_next (zipR_end hA D Z hl fun h' e hS hk he => ?_) (F.args_zip_next_1 _))))
  obtain ⟨o, ho, hc⟩ := he
  refine wpAny_bind (wpAny_isInstance (T := "StopIteration") (b := true) ⟨o, ho, hc⟩ isSubtype_stop ?_)
  exact wpAny_pure (kk _ h' s.toks (k h' hS hk))
theorem Rn.zipGo {elts : List Expr} {x1 : Nat} {pos : Pos} {z TI TO T i1 i2 l2 : Addr} {x left step : Int} {xs : List Value} {P : Unit → Heap → Prop} (D : ZApart z TI TO i1 i2) (Z : ZSt h z TI TO i1 i2 l2 (rawInt T) x left step xs)
    (k : ∀ h', ZSt h' z TI TO i1 i2 l2 .none x left step xs → Heap.SameBut z h h' → P () h') : Rn prog w A h (letOwnedTupleGo (.Tuple elts x1 pos) (.ref z) (.ref T)) P := by
  refine Rn.of fun s Q E e kk => ?_
  subst e
  obtain ⟨hz, hTI, ⟨a, b, hTO⟩, h1, h2⟩ := Z
  refine wpAny_letOwnedTupleGo_zip hz fun h' hz' hs' => kk _ h' s.toks (k h' ⟨hz', hs'.extBut _ _ D.TIz hTI, ⟨_, _, hs'.extBut _ _ D.TOz hTO⟩, hs'.extBut _ _ D.i1z h1, h2.other hs'.extBut hz ne_cls_of D.i2z.symm⟩ hs')
theorem Pv.iterZip {z TI TO i1 i2 l2 : Addr} {f0 : Value} {x left step : Int} {xs : List Value} (Z : ZSt h z TI TO i1 i2 l2 f0 x left step xs) : Pv prog w A h (pyIter (.ref z)) (· = .ref z) :=
  Rn.of fun s Q E e kk => by subst e; exact wpAny_pyIter_zip Z.hz (kk _ _ s.toks ⟨rfl, rfl⟩)
end
end
section
set_option maxRecDepth 100000
set_option autoImplicit false
set_option linter.unusedVariables false
section
variable {prog : Program} {w : World} {A : Around} {h b : Heap} {env : Env}
theorem Rn.callK {func : Expr} {args : List Expr} {kws : List Keyword} {pos : Pos} {P : Value → Heap → Prop}
    (R : Rn prog w A h (eval func env) (fun f h₁ => Rn prog w A h₁ (callWith pos f [] (backTo pos (starEach args env)) (backToKw pos (keywordEach kws env))) P))
    (he : eval (.Call func args kws pos) env = (do callWith pos (← eval func env) [] (backTo pos (starEach args env)) (backToKw pos (keywordEach kws env))) := by rfl) : Rn prog w A h (eval (.Call func args kws pos) env) P :=
  Rn.eq he (Rn.bind R)
theorem Rn.kwNil {pos : Pos} {P : List Value → Heap → Prop} (H : P [] h) : Rn prog w A h (evalAll ((backToKw pos (keywordEach [] env)).map (·.2))) P := Rn.pure H
theorem Rn.kwCons {name : Str} {value : Expr} {kp : Pos} {rest : List Keyword} {pos : Pos} {P : List Value → Heap → Prop}
    (R : Rn prog w A h (eval value env) (fun v h₁ => Rn prog w A h₁ (evalAll ((backToKw pos (keywordEach rest env)).map (·.2))) (fun vs h₂ => P (v :: vs) h₂))) :
    Rn prog w A h (evalAll ((backToKw pos (keywordEach (⟨some name, value, kp⟩ :: rest) env)).map (·.2))) P := by
  refine Rn.of fun s Q E es kk => kws_cons ?_
  subst es
  exact R.use fun v h₁ tk₁ q₁ => Rn.use (s := { s with heap := h₁, toks := tk₁ }) q₁ fun vs h₂ tk₂ q₂ => kk _ h₂ tk₂ q₂
theorem Rn.cwKBlt {id : String} {pos : Pos} {e : Expr} {rest : List Expr} {kws : List Keyword} {P : Value → Heap → Prop}
    (R : Rn prog w A h (spliced (backTo pos (starEach (e :: rest) env))) (fun vs h₁ => Rn prog w A h₁ (evalAll ((backToKw pos (keywordEach kws env)).map (·.2)))
      (fun kvs h₂ => Rn prog w A h₂ (call (.builtin id) vs (((backToKw pos (keywordEach kws env)).filterMap (·.1)).zip kvs)) P)))
    (he : backTo pos (starEach (e :: rest) env) = (false, eval e env) :: backTo pos (starEach rest env) := by rfl)
    (hplain : (backTo pos (starEach (e :: rest) env)).any (·.1) = false := by rfl)
    (hall : (backToKw pos (keywordEach kws env)).all (·.1.isSome) = true := by rfl)
    (hkw : (backToKw pos (keywordEach kws env)).any (·.1.isNone) = false := by rfl) :
    Rn prog w A h (callWith pos (.builtin id) [] (backTo pos (starEach (e :: rest) env)) (backToKw pos (keywordEach kws env))) P := by
  refine Rn.of fun s Q E es kk => callWith_kw ?_ he hplain hall hkw
  subst es
  exact R.use fun vs h₁ tk₁ q₁ => Rn.use (s := { s with heap := h₁, toks := tk₁ }) q₁ fun ks h₂ tk₂ q₂ => Rn.use (s := { s with heap := h₂, toks := tk₂ }) q₂ fun v h₃ tk₃ q₃ => kk _ h₃ tk₃ q₃
theorem Rn.cwKDef {f : Addr} {n : Nat} {dV : Value} {pos : Pos} {e : Expr} {rest : List Expr} {kws : List Keyword} {P : Value → Heap → Prop} (F : FnAt b f n dV)
    (R : Rn prog w A h (spliced (backTo pos (starEach (e :: rest) env))) (fun vs h₁ => Rn prog w A h₁ (evalAll ((backToKw pos (keywordEach kws env)).map (·.2)))
      (fun kvs h₂ => Kp b h₂ ∧ Rn prog w A h₂ (call (.ref f) vs (((backToKw pos (keywordEach kws env)).filterMap (·.1)).zip kvs)) P)))
    (he : backTo pos (starEach (e :: rest) env) = (false, eval e env) :: backTo pos (starEach rest env) := by rfl)
    (hall : (backToKw pos (keywordEach kws env)).all (·.1.isSome) = true := by rfl) :
    Rn prog w A h (callWith pos (.ref f) [] (backTo pos (starEach (e :: rest) env)) (backToKw pos (keywordEach kws env))) P := by
  obtain ⟨o, name, qual, doc, pm, an, cdv, ct, ho, hd, hc⟩ := F
  refine Rn.of fun s Q E es kk => callWith_function_kw (o := o) (fd := fnX name qual (pA n) (bA n) (sA n) [] dV .none doc pm an cdv ct) ?_
  subst es
  rw [he] at R ⊢
  refine evalArgs_kw hall ?_
  exact R.use fun vs h₁ tk₁ q₁ => Rn.use (s := { s with heap := h₁, toks := tk₁ }) q₁ fun ks h₂ tk₂ q₂ => ⟨⟨q₂.1 _ _ ho, hd⟩, Rn.use (s := { s with heap := h₂, toks := tk₂ }) q₂.2 fun v h₃ tk₃ q₃ => kk _ h₃ tk₃ q₃⟩
/-- a def with cells of its own -/
theorem Rn.callDefC {k : Nat} {a : Addr} {n : Nat} {dV : Value} {vals : List Value} {kw : List (Str × Value)} {binds ls : List (Str × Value)} {P : Value → Heap → Prop}
    (hA : Ok (k + 1) A) (F : FnAt h a n dV) (hlim : h.NoLimit)
    (hb : ∀ (s : Shared) (name qual : Str) (doc pm : Value) (an : Option Addr) (cdv ct : Value), s.heap = h → BindsTo s (fnX name qual (pA n) (bA n) (sA n) [] dV .none doc pm an cdv ct) ⟨vals, kw⟩ binds)
    (hls : ∀ p ∈ ls, bindL ((sA n).names.lookup ·) binds (fun _ => Option.none) p.1 = some p.2)
    (body : ∀ (qual : Str) (cdv : Value) (L : Addr) (h₁ : Heap), St h (fun _ => False) L h₁ ls →
      (∀ x c, (cellsFrom (L + 1) (sA n).names []).lookup x = some c → h₁.IsCell c (bindC ((sA n).names.lookup ·) binds (fun _ => Option.none) x) ∧ L < c) →
      Ok k (A.deeper (envX qual (sA n) L a cdv (cellsFrom (L + 1) (sA n).names []))) →
      Rn prog w (A.deeper (envX qual (sA n) L a cdv (cellsFrom (L + 1) (sA n).names []))) h₁ (execs (bA n) (envX qual (sA n) L a cdv (cellsFrom (L + 1) (sA n).names []))) (fun fl h' => P (match fl with | .ret v => v | _ => .none) h'))
    (hkind : ∀ (N : Nat), ∀ x ∈ binds, (sA n).names.lookup x.1 = some .local ∨ ((sA n).names.lookup x.1 = some .cell ∧ ((cellsFrom N (sA n).names []).lookup x.1).isSome = true))
    (hco : (sA n).isCoroutine = false := by rfl) (hgen : (sA n).isGenerator = false := by rfl) (hk : (sA n).kind = .function := by rfl) :
    Rn prog w A h (call (.ref a) vals kw) P := by
  obtain ⟨o, name, qual, doc, pm, an, cdv, ct, ho, hd, hc⟩ := F
  refine Rn.of fun s Q E e kk => wpAny_call ?_
  subst e
  refine codeAny_call_function hA.room ho hd hco hgen rfl hc (hb s _ _ _ _ _ _ _ rfl _ _ _ _ ?_)
  refine wpAny_newFunctionEnv_cells hk (hkind _) fun env he s' x => ?_
  subst he
  refine ⟨hlim.keeps x.toInCall.keep, codeAny_func ?_⟩
  obtain ⟨h₁, tk₁, rfl⟩ := x.toInCall.same
  refine Rn.use (s := { s with heap := h₁, toks := tk₁ }) (body qual cdv _ h₁ ⟨⟨_, x.toInCall.ns, fun y v e => hls (y, v) (lookup_mem e)⟩, fun b o _ e => x.toInCall.keep b o e, x.toInCall.fresh⟩
    (fun y c e => ⟨x.cell y c e, x.above y c (mem_of_lookup e)⟩) hA.deeper) fun fl h' tk' q => kk _ h' tk' q
theorem Pv.nameC {x : Str} {pos : Pos} {v : Value} {c : Addr} (H : h.IsCell c (some v)) (hc : env.cells.lookup x = some c := by rfl)
    (hk : env.scope.kind = .function := by rfl) (hl : env.kindOf x = some .cell := by rfl) (hd : (x == ("__debug__" : Str)) = false := by decide) :
    Pv prog w A h (eval (.Name x pos) env) (· = v) :=
  Rn.of fun s Q E e kk => by subst e; exact wpAny_Name (wpAny_loadName_cell hk hl hc H (kk _ _ s.toks ⟨rfl, rfl⟩)) hd
theorem Pv.nameF {x : Str} {pos : Pos} {v : Value} {c : Addr} (H : h.IsCell c (some v)) (hc : env.cells.lookup x = some c := by rfl)
    (hk : env.scope.kind = .function := by rfl) (hl : env.kindOf x = some .free := by rfl) (hd : (x == ("__debug__" : Str)) = false := by decide) (hn : (x == ("__classdict__" : Str)) = false := by decide) :
    Pv prog w A h (eval (.Name x pos) env) (· = v) :=
  Rn.of fun s Q E e kk => by subst e; exact wpAny_Name (wpAny_loadName_free hk hl hc H (kk _ _ s.toks ⟨rfl, rfl⟩) hn) hd
theorem Rn.storeC {x : Str} {v : Value} {v₀ : Option Value} {c : Addr} {P : Unit → Heap → Prop} (H : h.IsCell c v₀) (k : ∀ h', h'.IsCell c (some v) → Heap.SameBut c h h' → P () h')
    (hc : env.cells.lookup x = some c := by rfl) (hk : env.scope.kind = .function := by rfl) (hl : env.kindOf x = some .cell := by rfl) : Rn prog w A h (PySem.storeName env x v) P :=
  Rn.of fun s Q E e kk => by subst e; exact wpAny_storeName_cell hk hl hc H fun h' hc' hs' => kk _ h' s.toks (k h' hc' hs')
theorem Rn.tupleE {elts : List Expr} {k : Nat} {pos : Pos} {P : Value → Heap → Prop}
    (R : Rn prog w A h (spliced (backTo pos (starEach elts env))) (fun vs h₁ => vs.length < 1000 ∧ ∀ T h', h₁.get? T = none → Tup h' T vs → Kp h₁ h' → (∀ c, c < h₁.objs.size → c ≠ T) → P (.ref T) h')) : Rn prog w A h (eval (.Tuple elts k pos) env) P := by
  refine Rn.of fun s Q E e kk => wpAny_Tuple_spliced ?_
  subst e
  exact R.use fun vs h₁ tk₁ q₁ => ⟨by have := q₁.1; simp [sizeLine]; omega, kk _ _ tk₁ (q₁.2 _ _ (fresh_size _) ⟨_, Heap.get?_push_size _ rfl, rfl, _, rfl⟩ (Kp.push _ _) fun c hc => Nat.ne_of_lt hc)⟩
theorem Rn.listE {elts : List Expr} {pos : Pos} {P : Value → Heap → Prop}
    (R : Rn prog w A h (spliced (backTo pos (starEach elts env))) (fun vs h₁ => vs.length < 1000 ∧ ∀ T h', h₁.get? T = none → Lst h' T vs → Kp h₁ h' → P (.ref T) h')) : Rn prog w A h (eval (.List elts pos) env) P := by
  refine Rn.of fun s Q E e kk => wpAny_List_spliced ?_
  subst e
  exact R.use fun vs h₁ tk₁ q₁ => ⟨by have := q₁.1; simp [sizeLine]; omega, kk _ _ tk₁ (q₁.2 _ _ (fresh_size _) ⟨0, Heap.get?_push_size _ rfl⟩ (Kp.push _ _))⟩
theorem Rn.assignTuple {elts : List Expr} {k : Nat} {tpos pos : Pos} {value : Expr} {P : Flow → Heap → Prop}
    (R : Rn prog w A h (eval value env) (fun v h₁ => Rn prog w A h₁ (assign (.Tuple elts k tpos) env v) (fun _ h₂ => P .next h₂)))
    (hs : swapsWithSole [.Tuple elts k tpos] value pos.line env = Pure.pure false := by rfl)
    (hw : swappedStores [.Tuple elts k tpos] value env = Pure.pure Option.none := by rfl) : Rn prog w A h (exec (.Assign [.Tuple elts k tpos] value pos) env) P := by
  refine Rn.of fun s Q E e kk => Assign_Tuple ?_ hs hw
  subst e
  exact R.use fun v h₁ tk₁ q₁ => Rn.use (s := { s with heap := h₁, toks := tk₁ }) q₁ fun u h₃ tk₃ q₃ => kk _ h₃ tk₃ q₃
theorem Rn.assignTupleS {elts : List Expr} {k : Nat} {tpos pos : Pos} {value : Expr} {names : List Str} {P : Flow → Heap → Prop}
    (R : Rn prog w A h (eval value env) (fun v h₁ => Rn prog w A h₁ (unpackItems v names.length Option.none) (fun items h₂ => Rn prog w A h₂ (assignInOrder (names.reverse.map fun n => PySem.bindName env n) items.reverse) (fun _ h₃ => P .next h₃))))
    (hs : swapsWithSole [.Tuple elts k tpos] value pos.line env = Pure.pure false := by rfl)
    (hw : swappedStores [.Tuple elts k tpos] value env = Pure.pure (some names) := by rfl) : Rn prog w A h (exec (.Assign [.Tuple elts k tpos] value pos) env) P := by
  refine Rn.of fun s Q E e kk => Assign_Tuple_swapped ?_ hs hw
  subst e
  exact R.use fun v h₁ tk₁ q₁ => Rn.use (s := { s with heap := h₁, toks := tk₁ }) q₁ fun u h₃ tk₃ q₃ => Rn.use (s := { s with heap := h₃, toks := tk₃ }) q₃ fun _ h₄ tk₄ q₄ => kk _ h₄ tk₄ q₄
end
end
section
open PySem PySem.W PyProof.Rows
set_option autoImplicit false
set_option linter.unusedVariables false
theorem rev_list (a b c : List Nat) : kas_rev (a ++ b ++ c).toArray a.length (a.length + b.length) = (a ++ b.reverse ++ c).toArray := by
  unfold kas_rev
  apply Array.ext_getElem?
  intro k
  rw [getElem?_mirror_all (by simp)]
  simp only [List.getElem?_toArray]
  by_cases h1 : k < a.length
  · rw [if_neg (by omega)]
    rw [List.getElem?_append_left (by simp; omega), List.getElem?_append_left h1, List.getElem?_append_left (by simp; omega), List.getElem?_append_left h1]
  · by_cases h2 : k < a.length + b.length
    · rw [if_pos (by omega)]
      rw [List.getElem?_append_left (by simp; omega), List.getElem?_append_right (by omega), List.getElem?_append_left (by simp; omega), List.getElem?_append_right (by omega), List.getElem?_reverse (by omega)]
      congr 1
      omega
    · rw [if_neg (by omega)]
      rw [List.getElem?_append_right (by simp; omega), List.getElem?_append_right (by simp; omega)]
      simp
theorem bub_list (a b c : List Nat) (x : Nat) : bubble (a ++ b ++ x :: c).toArray (a.length + b.length) b.length = (a ++ x :: b ++ c).toArray := by
  apply Array.ext_getElem?
  intro k
  rw [getElem?_bubble (by simp) _ (by omega)]
  simp only [List.getElem?_toArray]
  have e : a.length + b.length - b.length = a.length := by omega
  rw [e]
  by_cases h0 : k = a.length
  · rw [if_pos h0]
    subst h0
    rw [List.getElem?_append_right (by simp), List.getElem?_append_left (by simp), List.getElem?_append_right (by omega)]
    simp
  · rw [if_neg h0]
    by_cases h1 : k < a.length
    · rw [if_neg (by omega)]
      rw [List.getElem?_append_left (by simp; omega), List.getElem?_append_left h1, List.getElem?_append_left (by simp; omega), List.getElem?_append_left h1]
    · by_cases h2 : k ≤ a.length + b.length
      · rw [if_pos (by omega)]
        rw [List.getElem?_append_left (by simp; omega), List.getElem?_append_right (by omega), List.getElem?_append_left (by simp; omega), List.getElem?_append_right (by omega)]
        have : k - a.length = (k - 1 - a.length) + 1 := by omega
        rw [this, List.getElem?_cons_succ]
      · rw [if_neg (by omega)]
        rw [List.getElem?_append_right (by simp; omega), List.getElem?_append_right (by simp; omega)]
        have : k - (a ++ b).length = (k - (a ++ x :: b).length) + 1 := by simp; omega
        rw [this, List.getElem?_cons_succ]
theorem gd (l : List Nat) (i : Nat) : l.toArray.getD i 0 = l.getD i 0 := by simp [Array.getD_eq_getD_getElem?, List.getD_eq_getElem?_getD]
def KOk {α : Type} (n : Nat) (ans : Nat → Nat → Bool) : KasT α → (α → Prop) → Prop
  | .ret a, Q => Q a
  | .ask i j k, Q => i < n ∧ j < n ∧ KOk n ans (k (ans i j)) Q
theorem KOk.mono {α : Type} {n : Nat} {ans : Nat → Nat → Bool} {Q Q' : α → Prop} (hq : ∀ a, Q a → Q' a) : ∀ (t : KasT α), KOk n ans t Q → KOk n ans t Q'
  | .ret a, h => hq a h
  | .ask i j k, h => ⟨h.1, h.2.1, KOk.mono hq _ h.2.2⟩
theorem KOk.bind {α β : Type} {n : Nat} {ans : Nat → Nat → Bool} {f : α → KasT β} {Q : β → Prop} : ∀ (t : KasT α), KOk n ans t (fun a => KOk n ans (f a) Q) → KOk n ans (t.bind f) Q
  | .ret a, h => h
  | .ask i j k, h => ⟨h.1, h.2.1, KOk.bind _ h.2.2⟩
def prec (lt : Nat → Nat → Bool) (i j : Nat) : Prop := lt i j = true ∨ (lt j i = false ∧ i < j)
section
variable {lt : Nat → Nat → Bool} {n : Nat}
theorem prec.notlt (S : SO lt) {i j : Nat} (h : prec lt i j) : lt j i = false := by
  rcases h with h | h
  · exact S.asym _ _ h
  · exact h.1
theorem SO.trans' (S : SO lt) {a b c : Nat} (h1 : lt a b = true) (h2 : lt b c = false → False) : lt a c = true := by
  cases e : lt a c with
  | true => rfl
  | false =>
    have h2' : lt b c = true := by
      cases q : lt b c with
      | true => rfl
      | false => exact (h2 q).elim
    have := S.ntrans a c b e (S.asym _ _ h2')
    rw [this] at h1; cases h1
theorem getD_mem {l : List Nat} {i : Nat} (h : i < l.length) : l.getD i 0 ∈ l := by
  rw [List.getD_eq_getElem?_getD, List.getElem?_eq_getElem h]
  exact List.getElem_mem h
theorem mem_lt {u : List Nat} {k x : Nat} (h : u.Perm (List.range k)) (hx : x ∈ u) : x < k := List.mem_range.mp (h.mem_iff.mp hx)
theorem perm_snoc {u : List Nat} {k : Nat} (h : u.Perm (List.range k)) : (u ++ [k]).Perm (List.range (k + 1)) := by
  rw [List.range_succ]; exact h.append_right _
theorem last_ge (S : SO lt) {u : List Nat} (hp : u.Pairwise (prec lt)) {x : Nat} (hx : x ∈ u) : lt (u.getD (u.length - 1) 0) x = false := by
  have hi := List.getElem_of_mem hx
  obtain ⟨i, hi, rfl⟩ := hi
  have hl : u.length - 1 < u.length := by omega
  rw [List.getD_eq_getElem?_getD, List.getElem?_eq_getElem hl]
  show lt u[u.length - 1] u[i] = false
  by_cases q : i = u.length - 1
  · subst q
    cases e : lt u[u.length - 1] u[u.length - 1] with
    | false => rfl
    | true => have := S.asym _ _ e; rw [this] at e; cases e
  · exact (List.pairwise_iff_getElem.mp hp i (u.length - 1) hi hl (by omega)).notlt S
theorem grow (S : SO lt) {u : List Nat} {k : Nat} (hu : u.length = k) (h1 : 1 ≤ k) (hm : u.Perm (List.range k)) (hp : u.Pairwise (prec lt)) (h : lt k (u.getD (k - 1) 0) = false) : (u ++ [k]).Pairwise (prec lt) := by
  rw [List.pairwise_append]
  refine ⟨hp, List.pairwise_singleton .., fun x hx y hy => ?_⟩
  rw [List.mem_singleton] at hy
  subst hy
  refine .inr ⟨S.ntrans _ _ _ h ?_, mem_lt hm hx⟩
  have := last_ge S hp hx
  rwa [hu] at this
theorem range_cons (k f : Nat) : List.range' k (f + 1) = k :: List.range' (k + 1) f := rfl
theorem at_k {u : List Nat} {k f : Nat} (hu : u.length = k) : (u ++ List.range' k (f + 1)).getD k 0 = k := by
  rw [List.getD_eq_getElem?_getD, List.getElem?_append_right (by omega), hu]; simp [range_cons]
theorem at_lt {u c : List Nat} {i : Nat} (hu : i < u.length) : (u ++ c).getD i 0 = u.getD i 0 := by
  rw [List.getD_eq_getElem?_getD, List.getElem?_append_left hu, List.getD_eq_getElem?_getD]
theorem asc_grow (S : SO lt) : ∀ (f : Nat) (u : List Nat) (k : Nat), u.length = k → 1 ≤ k → k + f = n → u.Perm (List.range k) → u.Pairwise (prec lt) →
    KOk n lt (kas_asc (u ++ List.range' k f).toArray f k) (fun r => ∃ u', u'.length = r ∧ r ≤ n ∧ k ≤ r ∧ u' ++ List.range' r (n - r) = u ++ List.range' k f ∧ u'.Perm (List.range r) ∧ u'.Pairwise (prec lt) ∧ (r < n → lt r (u'.getD (r - 1) 0) = true))
  | 0, u, k, hu, h1, hf, hm, hp => ⟨u, hu, by omega, by omega, by rw [show n - k = 0 by omega], hm, hp, fun h => by omega⟩
  | f + 1, u, k, hu, h1, hf, hm, hp => by
    unfold kas_asc
    have ek : (u ++ List.range' k (f + 1)).getD k 0 = k := at_k hu
    have el : (u ++ List.range' k (f + 1)).getD (k - 1) 0 = u.getD (k - 1) 0 := at_lt (by omega)
    rw [gd, gd, ek, el]
    have hx := mem_lt hm (getD_mem (l := u) (i := k - 1) (by omega))
    refine ⟨by omega, by omega, ?_⟩
    cases e : lt k (u.getD (k - 1) 0) with
    | true =>
      dsimp only
      rw [if_pos rfl]
      exact ⟨u, hu, by omega, by omega, by rw [show n - k = f + 1 by omega], hm, hp, fun _ => e⟩
    | false =>
      dsimp only
      rw [if_neg Bool.false_ne_true]
      have ih := asc_grow S f (u ++ [k]) (k + 1) (by simp [hu]) (by omega) (by omega) (perm_snoc hm) (grow S hu h1 hm hp e)
      have eq : u ++ [k] ++ List.range' (k + 1) f = u ++ List.range' k (f + 1) := by rw [range_cons]; simp
      rw [eq] at ih
      exact KOk.mono (fun r ⟨u', a1, a2, a3, a4⟩ => ⟨u', a1, a2, by omega, a4⟩) _ ih
theorem place_ok (S : SO lt) {u : List Nat} {k : Nat} {c : List Nat} (hu : u.length = k) (hm : u.Perm (List.range k)) (hk : k < n) (hp : u.Pairwise (prec lt)) : ∀ (f l r : Nat), l ≤ r → r ≤ k → r - l ≤ f → (∀ x, x < l → lt k (u.getD x 0) = false) → (∀ x, r ≤ x → x < k → lt k (u.getD x 0) = true) →
    KOk n lt (kas_place (u ++ k :: c).toArray k f l r) (fun i => i ≤ k ∧ (∀ x, x < i → lt k (u.getD x 0) = false) ∧ (∀ x, i ≤ x → x < k → lt k (u.getD x 0) = true))
  | 0, l, r, h1, h2, h3, h4, h5 => ⟨by omega, h4, fun x hx => h5 x (by omega)⟩
  | f + 1, l, r, h1, h2, h3, h4, h5 => by
    unfold kas_place
    by_cases q : l ≥ r
    · rw [if_pos q]
      exact ⟨by omega, h4, fun x hx => h5 x (by omega)⟩
    · rw [if_neg q]
      have hmid : (l + r) / 2 < k := by omega
      have ek : (u ++ k :: c).getD k 0 = k := by rw [List.getD_eq_getElem?_getD, List.getElem?_append_right (by omega), hu]; simp
      have el : (u ++ k :: c).getD ((l + r) / 2) 0 = u.getD ((l + r) / 2) 0 := at_lt (by omega)
      rw [gd, gd, ek, el]
      have hx := mem_lt hm (getD_mem (l := u) (i := (l + r) / 2) (by omega))
      refine ⟨by omega, by omega, ?_⟩
      have ord : ∀ x y, x < y → y < k → lt (u.getD y 0) (u.getD x 0) = false := fun x y hxy hy => by
        have hx : x < u.length := by omega
        have hy : y < u.length := by omega
        rw [List.getD_eq_getElem?_getD, List.getElem?_eq_getElem hy, List.getD_eq_getElem?_getD, List.getElem?_eq_getElem hx]
        exact (List.pairwise_iff_getElem.mp hp x y hx hy hxy).notlt S
      cases e : lt k (u.getD ((l + r) / 2) 0) with
      | true =>
        dsimp only
        rw [if_pos rfl]
        refine place_ok S hu hm hk hp f l ((l + r) / 2) (by omega) (by omega) (by omega) h4 (fun x hx hxk => ?_)
        cases e' : lt k (u.getD x 0) with
        | true => rfl
        | false =>
          rcases Nat.eq_or_lt_of_le hx with q' | q'
          · rw [q'] at e; rw [e] at e'; cases e'
          · rw [S.ntrans _ _ _ e' (ord _ _ q' hxk)] at e; cases e
      | false =>
        dsimp only
        rw [if_neg Bool.false_ne_true]
        refine place_ok S hu hm hk hp f ((l + r) / 2 + 1) r (by omega) (by omega) (by omega) (fun x hx => ?_) h5
        rcases Nat.eq_or_lt_of_le (Nat.le_of_lt_succ hx) with q' | q'
        · rw [q']; exact e
        · exact S.ntrans _ _ _ e (ord _ _ q' hmid)
theorem bin_ok (S : SO lt) : ∀ (f : Nat) (u : List Nat) (k : Nat), u.length = k → k + f = n → u.Perm (List.range k) → u.Pairwise (prec lt) →
    KOk n lt (kas_bin f (u ++ List.range' k f).toArray k) (fun p => p.toList.Perm (List.range n) ∧ p.toList.Pairwise (prec lt))
  | 0, u, k, hu, hf, hm, hp => by
    have : k = n := by omega
    subst this
    have e : (u ++ List.range' k 0).toArray.toList = u := by simp
    show (u ++ List.range' k 0).toArray.toList.Perm _ ∧ (u ++ List.range' k 0).toArray.toList.Pairwise _
    rw [e]
    exact ⟨hm, hp⟩
  | f + 1, u, k, hu, hf, hm, hp => by
    unfold kas_bin
    rw [range_cons]
    refine KOk.bind _ (KOk.mono (fun i ⟨hi, h1, h2⟩ => ?_) _ (place_ok S hu hm (by omega) hp k 0 k (by omega) (by omega) (by omega) (fun x hx => by omega) (fun x hx hxk => by omega)))
    have eb : bubble (u ++ k :: List.range' (k + 1) f).toArray k (k - i) = (u.take i ++ k :: u.drop i ++ List.range' (k + 1) f).toArray := by
      have := bub_list (u.take i) (u.drop i) (List.range' (k + 1) f) k
      rw [List.take_append_drop] at this
      have e1 : (u.take i).length + (u.drop i).length = k := by simp; omega
      have e2 : (u.drop i).length = k - i := by simp; omega
      rw [e1, e2] at this
      exact this
    rw [eb]
    refine bin_ok S f _ (k + 1) (by simp; omega) (by omega) ?_ ?_
    · refine List.Perm.trans ?_ (perm_snoc hm)
      refine List.perm_middle.trans ?_
      rw [List.take_append_drop]
      exact (List.perm_append_singleton k u).symm
    · have hpu := hp
      rw [← List.take_append_drop i u, List.pairwise_append] at hpu
      rw [List.pairwise_append]
      refine ⟨hpu.1, List.pairwise_cons.mpr ⟨fun y hy => ?_, hpu.2.1⟩, fun x hx y hy => ?_⟩
      · obtain ⟨j, hj, rfl⟩ := List.getElem_of_mem hy
        simp at hj
        have := h2 (i + j) (by omega) (by omega)
        rw [List.getD_eq_getElem?_getD, List.getElem?_eq_getElem (by omega)] at this
        left
        simpa using this
      · rcases List.mem_cons.mp hy with rfl | hy
        · obtain ⟨j, hj, rfl⟩ := List.getElem_of_mem hx
          simp at hj
          have := h1 j (by omega)
          rw [List.getD_eq_getElem?_getD, List.getElem?_eq_getElem (by omega)] at this
          right
          refine ⟨by simpa using this, ?_⟩
          exact mem_lt hm (List.mem_of_mem_take hx)
        · exact hpu.2.2 x hx y hy
/-- the state of the search for a falling run -/
structure DS (lt : Nat → Nat → Bool) (n k q : Nat) (a e : List Nat) : Prop where
  len : (a ++ e).length = k
  elen : e.length = q + 1
  le : k ≤ n
  perm : (a ++ e).Perm (List.range k)
  pa : a.Pairwise (fun x y => prec lt y x)
  pe : e.Pairwise (prec lt)
  eq : ∀ x ∈ e, ∀ y ∈ e, lt x y = false
  cross : ∀ x ∈ a, ∀ y ∈ e, lt y x = true
theorem desc_ok (S : SO lt) : ∀ (f : Nat) (a e : List Nat) (k q : Nat), k + f = n → DS lt n k q a e →
    KOk n lt (kas_desc f (a ++ e ++ List.range' k f).toArray k q) (fun r => ∃ a' e', r.1 = (a' ++ e' ++ List.range' r.2.1 (n - r.2.1)).toArray ∧ DS lt n r.2.1 r.2.2 a' e' ∧ k ≤ r.2.1)
  | 0, a, e, k, q, hf, D => ⟨a, e, by show _ = (a ++ e ++ List.range' k (n - k)).toArray; rw [show n - k = 0 by omega], D, Nat.le_refl _⟩
  | f + 1, a, e, k, q, hf, D => by
    unfold kas_desc
    have hlen := D.len
    have helen := D.elen
    have h0 : a.length + e.length = k := by simpa using hlen
    have ek : (a ++ e ++ List.range' k (f + 1)).getD k 0 = k := at_k hlen
    have hz : (a ++ e).getD (k - 1) 0 ∈ e := by
      have h0 : a.length + e.length = k := by simpa using hlen
      rw [List.getD_eq_getElem?_getD, List.getElem?_append_right (by omega), List.getElem?_eq_getElem (by omega)]
      exact List.getElem_mem _
    have el : (a ++ e ++ List.range' k (f + 1)).getD (k - 1) 0 = (a ++ e).getD (k - 1) 0 := at_lt (by rw [hlen]; omega)
    rw [gd, gd, ek, el]
    generalize (a ++ e).getD (k - 1) 0 = z at hz
    have hzk : z < k := mem_lt D.perm (List.mem_append_right _ hz)
    refine ⟨by omega, by omega, ?_⟩
    have h0 : a.length + e.length = k := by simpa using hlen
    have hka : ∀ x ∈ a, lt k z = true ∨ lt z k = false → lt k x = true := fun x hx hh => by
      have zx := D.cross x hx z hz
      cases q : lt k x with
      | true => rfl
      | false =>
        rcases hh with hh | hh
        · rw [S.ntrans _ _ _ q (S.asym _ _ zx)] at hh; cases hh
        · rw [S.ntrans _ _ _ hh q] at zx; cases zx
    cases c : lt k z with
    | true =>
      dsimp only
      rw [if_pos rfl]
      have hke : ∀ x ∈ e, lt k x = true := fun x hx => by
        cases q : lt k x with
        | true => rfl
        | false => rw [S.ntrans _ _ _ q (D.eq x hx z hz)] at c; cases c
      have D' : DS lt n (k + 1) 0 (a ++ e.reverse) [k] := by
        refine ⟨by simp; omega, rfl, by omega, ?_, ?_, List.pairwise_singleton .., ?_, ?_⟩
        · exact (perm_snoc D.perm).symm.trans ((List.Perm.append_left a (List.reverse_perm e)).append_right [k]).symm |>.symm
        · rw [List.pairwise_append]
          refine ⟨D.pa, List.pairwise_reverse.mpr D.pe, fun x hx y hy => .inl (D.cross x hx y (List.mem_reverse.mp hy))⟩
        · intro x hx y hy
          rw [List.mem_singleton] at hx hy
          rw [hx, hy]
          cases q : lt k k with
          | false => rfl
          | true => have := S.asym _ _ q; rw [this] at q; cases q
        · intro x hx y hy
          rw [List.mem_singleton] at hy
          rw [hy]
          rcases List.mem_append.mp hx with hx' | hx'
          · exact hka x hx' (.inl c)
          · exact hke x (List.mem_reverse.mp hx')
      have er : kas_rev (a ++ e ++ List.range' k (f + 1)).toArray (k - (q + 1)) k = (a ++ e.reverse ++ [k] ++ List.range' (k + 1) f).toArray := by
        have := rev_list a e (List.range' k (f + 1))
        rw [h0, show a.length = k - (q + 1) by omega] at this
        rw [this, range_cons]
        simp
      have ih := desc_ok S f (a ++ e.reverse) [k] (k + 1) 0 (by omega) D'
      by_cases hq : q > 0
      · rw [if_pos hq, er]
        exact KOk.mono (fun r ⟨a', e', x1, x2, x3⟩ => ⟨a', e', x1, x2, by omega⟩) _ ih
      · rw [if_neg hq]
        have ee : e.reverse = e := by
          match e, (show e.length = 1 by omega) with
          | [_], _ => rfl
        rw [ee] at ih
        have e3 : a ++ e ++ [k] ++ List.range' (k + 1) f = a ++ e ++ List.range' k (f + 1) := by rw [range_cons]; simp
        rw [e3] at ih
        exact KOk.mono (fun r ⟨a', e', x1, x2, x3⟩ => ⟨a', e', x1, x2, by omega⟩) _ ih
    | false =>
      dsimp only
      rw [if_neg Bool.false_ne_true]
      refine ⟨by omega, by omega, ?_⟩
      cases d : lt z k with
      | true =>
        dsimp only
        rw [if_pos rfl]
        exact ⟨a, e, by show _ = (a ++ e ++ List.range' k (n - k)).toArray; rw [show n - k = f + 1 by omega], D, Nat.le_refl _⟩
      | false =>
        dsimp only
        rw [if_neg Bool.false_ne_true]
        have kk : lt k k = false := by
          cases q : lt k k with
          | false => rfl
          | true => have := S.asym _ _ q; rw [this] at q; cases q
        have D' : DS lt n (k + 1) (q + 1) a (e ++ [k]) := by
          refine ⟨by simp; omega, by simp; omega, by omega, ?_, D.pa, ?_, ?_, ?_⟩
          · rw [← List.append_assoc]; exact perm_snoc D.perm
          · rw [List.pairwise_append]
            refine ⟨D.pe, List.pairwise_singleton .., fun x hx y hy => ?_⟩
            rw [List.mem_singleton] at hy
            rw [hy]
            exact .inr ⟨S.ntrans _ _ _ c (D.eq z hz x hx), mem_lt D.perm (List.mem_append_right _ hx)⟩
          · intro x hx y hy
            rcases List.mem_append.mp hx with hx' | hx' <;> rcases List.mem_append.mp hy with hy' | hy'
            · exact D.eq x hx' y hy'
            · rw [List.mem_singleton.mp hy']
              exact S.ntrans _ _ _ (D.eq x hx' z hz) d
            · rw [List.mem_singleton.mp hx']
              exact S.ntrans _ _ _ c (D.eq z hz y hy')
            · rw [List.mem_singleton.mp hx', List.mem_singleton.mp hy']
              exact kk
          · intro x hx y hy
            rcases List.mem_append.mp hy with hy' | hy'
            · exact D.cross x hx y hy'
            · rw [List.mem_singleton.mp hy']
              exact hka x hx (.inr d)
        have ih := desc_ok S f a (e ++ [k]) (k + 1) (q + 1) (by omega) D'
        have e3 : a ++ (e ++ [k]) ++ List.range' (k + 1) f = a ++ e ++ List.range' k (f + 1) := by rw [range_cons]; simp
        rw [e3] at ih
        exact KOk.mono (fun r ⟨a', e', x1, x2, x3⟩ => ⟨a', e', x1, x2, by omega⟩) _ ih
/-- what the count of the first run leaves -/
def Run1 (lt : Nat → Nat → Bool) (n : Nat) (r : Nat × Array Nat) : Prop := ∃ u, u.length = r.1 ∧ 1 ≤ r.1 ∧ r.1 ≤ n ∧ r.2 = (u ++ List.range' r.1 (n - r.1)).toArray ∧ u.Perm (List.range r.1) ∧ u.Pairwise (prec lt)
theorem tail3_ok (S : SO lt) {a e : List Nat} {k q : Nat} (D : DS lt n k q a e) : KOk n lt (kas_tail3 k n (a ++ e.reverse ++ List.range' k (n - k)).toArray) (Run1 lt n) := by
  have h0 : a.length + e.length = k := by simpa using D.len
  have hq := D.elen
  have hk := D.le
  have er : kas_rev (a ++ e.reverse ++ List.range' k (n - k)).toArray 0 k = (e ++ a.reverse ++ List.range' k (n - k)).toArray := by
    have := rev_list [] (a ++ e.reverse) (List.range' k (n - k))
    have hl : (a ++ e.reverse).length = k := by simp; omega
    simp only [List.nil_append, List.length_nil, Nat.zero_add, hl] at this
    rw [this, List.reverse_append, List.reverse_reverse]
  unfold kas_tail3
  rw [er]
  have hper : (e ++ a.reverse).Perm (List.range k) := by
    refine List.Perm.trans ?_ D.perm
    exact (List.perm_append_comm).trans ((List.reverse_perm a).append_right e)
  have hpw : (e ++ a.reverse).Pairwise (prec lt) := by
    rw [List.pairwise_append]
    exact ⟨D.pe, List.pairwise_reverse.mpr D.pa, fun x hx y hy => .inl (D.cross y (List.mem_reverse.mp hy) x hx)⟩
  refine KOk.bind _ (KOk.mono (fun r ⟨u, a1, a2, a3, a4, a5, a6, _⟩ => ?_) _ (asc_grow S (n - k) (e ++ a.reverse) k (by simp; omega) (by omega) (by omega) hper hpw))
  exact ⟨u, a1, by show 1 ≤ r; omega, a2, by show _ = (u ++ List.range' r (n - r)).toArray; rw [a4], a5, a6⟩
theorem descPart_ok (S : SO lt) {a : List Nat} {k : Nat} (hk : k < n) (D : DS lt n (k + 1) 0 a [k]) : KOk n lt (kas_descPart k n (a ++ List.range' k (n - k)).toArray) (Run1 lt n) := by
  unfold kas_descPart
  have e3 : a ++ List.range' k (n - k) = a ++ [k] ++ List.range' (k + 1) (n - (k + 1)) := by
    obtain ⟨f, hf⟩ : ∃ f, n - k = f + 1 := ⟨n - k - 1, by omega⟩
    rw [hf, range_cons, show n - (k + 1) = f by omega]
    simp
  rw [e3]
  refine KOk.bind _ (KOk.mono ?_ _ (desc_ok S (n - (k + 1)) a [k] (k + 1) 0 (by omega) D))
  rintro ⟨p, k', q'⟩ ⟨a', e', hp, D', hk'⟩
  simp only at hp D' hk'
  have h0 : a'.length + e'.length = k' := by simpa using D'.len
  have hq := D'.elen
  have er : kas_rev p (k' - (q' + 1)) k' = (a' ++ e'.reverse ++ List.range' k' (n - k')).toArray := by
    have := rev_list a' e' (List.range' k' (n - k'))
    rw [h0, show a'.length = k' - (q' + 1) by omega] at this
    rw [hp, this]
  show KOk n lt (if q' > 0 then kas_tail3 k' n (kas_rev p (k' - (q' + 1)) k') else kas_tail3 k' n p) _
  by_cases h : q' > 0
  · rw [if_pos h, er]
    exact tail3_ok S D'
  · rw [if_neg h]
    have ee : e'.reverse = e' := by
      match e', (show e'.length = 1 by omega) with
      | [_], _ => rfl
    have := tail3_ok S D'
    rw [ee] at this
    rw [hp]
    exact this
theorem count_ok (S : SO lt) (hn : 1 ≤ n) : KOk n lt (kas_count n (List.toArray (List.range n))) (Run1 lt n) := by
  unfold kas_count
  have er : List.range n = [0] ++ List.range' 1 (n - 1) := by
    rw [List.range_eq_range']
    obtain ⟨m, rfl⟩ : ∃ m, n = m + 1 := ⟨n - 1, by omega⟩
    rw [range_cons]
    simp
  have irr : ∀ x, lt x x = false := fun x => by
    cases q : lt x x with
    | false => rfl
    | true => have := S.asym _ _ q; rw [this] at q; cases q
  refine KOk.bind _ (KOk.mono (fun r hr => ?_) _ (show KOk n lt (kas_asc (List.range n).toArray (n - 1) 1) _ by rw [er]; exact asc_grow S (n - 1) [0] 1 rfl (Nat.le_refl _) (by omega) (by exact List.Perm.refl _) (List.pairwise_singleton ..)))
  obtain ⟨u, hu, hrn, h1r, heq, hm, hp, hstop⟩ := hr
  rw [← er] at heq
  have fin : Run1 lt n (r, (List.range n).toArray) := ⟨u, hu, h1r, hrn, by show _ = (u ++ List.range' r (n - r)).toArray; rw [heq], hm, hp⟩
  by_cases hq : r = n
  · rw [if_pos (by simpa using hq)]
    exact fin
  · rw [if_neg (by simpa using hq)]
    have hrn' : r < n := by omega
    have hst := hstop hrn'
    by_cases h1 : r > 1
    · rw [if_pos h1]
      have e0 : (List.range n).getD 0 0 = u.getD 0 0 := by rw [← heq]; exact at_lt (by omega)
      have el : (List.range n).getD (r - 1) 0 = u.getD (r - 1) 0 := by rw [← heq]; exact at_lt (by omega)
      rw [gd, gd, e0, el]
      have m0 := mem_lt hm (getD_mem (l := u) (i := 0) (by omega))
      have ml := mem_lt hm (getD_mem (l := u) (i := r - 1) (by omega))
      refine ⟨by omega, by omega, ?_⟩
      cases c : lt (u.getD 0 0) (u.getD (r - 1) 0) with
      | true =>
        dsimp only
        rw [if_pos rfl]
        exact fin
      | false =>
        dsimp only
        rw [if_neg Bool.false_ne_true]
        have hrev : kas_rev (List.range n).toArray 0 r = (u.reverse ++ List.range' r (n - r)).toArray := by
          have := rev_list [] u (List.range' r (n - r))
          simp only [List.nil_append, List.length_nil, Nat.zero_add, hu] at this
          rw [← heq, this]
        rw [hrev]
        have hall : ∀ x ∈ u, ∀ y ∈ u, lt x y = false := fun x hx y hy => by
          have hf : lt x (u.getD 0 0) = false := by
            obtain ⟨i, hi, rfl⟩ := List.getElem_of_mem hx
            rw [List.getD_eq_getElem?_getD, List.getElem?_eq_getElem (by omega)]
            rcases Nat.eq_zero_or_pos i with q | q
            · subst q; exact irr _
            · exact (List.pairwise_iff_getElem.mp hp 0 i (by omega) hi q).notlt S
          have hl := last_ge S hp hy
          rw [hu] at hl
          exact S.ntrans _ _ _ (S.ntrans _ _ _ hf c) hl
        refine descPart_ok S hrn' ⟨by simp; omega, rfl, by omega, ?_, List.pairwise_reverse.mpr hp, List.pairwise_singleton .., ?_, ?_⟩
        · exact ((List.reverse_perm u).append_right [r]).trans (perm_snoc hm)
        · intro x hx y hy
          rw [List.mem_singleton] at hx hy
          subst hx; subst hy
          exact irr _
        · intro x hx y hy
          rw [List.mem_singleton] at hy
          subst hy
          cases q : lt y x with
          | true => rfl
          | false => rw [S.ntrans _ _ _ q (hall x (List.mem_reverse.mp hx) _ (getD_mem (l := u) (i := y - 1) (by omega)))] at hst; cases hst
    · rw [if_neg h1]
      have hr1 : r = 1 := by omega
      subst hr1
      obtain ⟨x, rfl⟩ : ∃ x, u = [x] := by
        match u, hu with
        | [x], _ => exact ⟨x, rfl⟩
      have hx0 : x = 0 := by
        have := mem_lt hm (List.mem_singleton.mpr rfl)
        omega
      subst hx0
      rw [er]
      refine descPart_ok S hrn' ⟨rfl, rfl, by omega, by exact List.Perm.refl _, List.pairwise_singleton .., List.pairwise_singleton .., ?_, ?_⟩
      · intro x hx y hy
        rw [List.mem_singleton] at hx hy
        subst hx; subst hy
        exact irr _
      · intro x hx y hy
        rw [List.mem_singleton] at hx hy
        subst hx; subst hy
        exact hst
/-- list.sort's tree asks within the places and ends with the stable order -/
theorem sort_ok (S : SO lt) (hn : 1 ≤ n) : KOk n lt (kas_sort n) (fun p => p.toList.Perm (List.range n) ∧ p.toList.Pairwise (prec lt)) := by
  unfold kas_sort
  refine KOk.bind _ (KOk.mono ?_ _ (count_ok S hn))
  rintro ⟨r, p⟩ ⟨u, hu, h1, h2, hp, hm, hs⟩
  simp only at hu h1 h2 hp hm hs
  subst hp
  show KOk n lt (if r < n then kas_bin (n - max r 1) _ (max r 1) else .ret _) _
  rw [show max r 1 = r by omega]
  by_cases h : r < n
  · rw [if_pos h]
    exact bin_ok S (n - r) u r hu (by omega) hm hs
  · rw [if_neg h]
    have : r = n := by omega
    subst this
    have e : (u ++ List.range' r (r - r)).toArray.toList = u := by simp
    show (u ++ List.range' r (r - r)).toArray.toList.Perm _ ∧ (u ++ List.range' r (r - r)).toArray.toList.Pairwise _
    rw [e]
    exact ⟨hm, hs⟩
end
end
section
open PySem PySem.W PyProof.Rows
set_option autoImplicit false
set_option linter.unusedVariables false
section
variable {α β : Type}
/-- the stable sort -/
def ins (c : α → α → Bool) (x : α) : List α → List α
  | [] => [x]
  | y :: ys => if c y x = true then y :: ins c x ys else x :: y :: ys
def isort (c : α → α → Bool) : List α → List α
  | [] => []
  | x :: xs => ins c x (isort c xs)
theorem ins_perm (c : α → α → Bool) (x : α) : ∀ l, (ins c x l).Perm (x :: l)
  | [] => .refl _
  | y :: ys => by
    unfold ins
    split
    · exact ((ins_perm c x ys).cons y).trans (.swap ..)
    · exact .refl _
theorem isort_perm (c : α → α → Bool) : ∀ l, (isort c l).Perm l
  | [] => .refl _
  | x :: xs => (ins_perm c x _).trans ((isort_perm c xs).cons x)
theorem ins_map (f : α → β) {c : α → α → Bool} {e : β → β → Bool} (x : α) : ∀ l, (∀ y ∈ l, c y x = e (f y) (f x)) → (ins c x l).map f = ins e (f x) (l.map f)
  | [], _ => rfl
  | y :: ys, h => by
    unfold ins
    rw [List.map_cons]
    simp only [h y (.head _)]
    split
    · rw [List.map_cons, ins_map f x ys fun z hz => h z (.tail _ hz)]
    · rfl
theorem isort_map (f : α → β) {c : α → α → Bool} {e : β → β → Bool} : ∀ l, (∀ y ∈ l, ∀ x ∈ l, c y x = e (f y) (f x)) → (isort c l).map f = isort e (l.map f)
  | [], _ => rfl
  | x :: xs, h => by
    rw [isort, List.map_cons, isort, ins_map f x _ fun y hy => h y (.tail _ ((isort_perm c xs).mem_iff.mp hy)) x (.head _), isort_map f xs fun y hy z hz => h y (.tail _ hy) z (.tail _ hz)]
theorem isort_len (c : α → α → Bool) (l : List α) : (isort c l).length = l.length := (isort_perm c l).length_eq
def prR (c : α → α → Bool) (R : α → α → Prop) (x y : α) : Prop := c x y = true ∨ (c y x = false ∧ R x y)
theorem prR.notlt {c : α → α → Bool} {R : α → α → Prop} (S : SO c) {x y : α} (h : prR c R x y) : c y x = false := by
  rcases h with h | h
  · exact S.asym _ _ h
  · exact h.1
theorem ins_sorted {c : α → α → Bool} (S : SO c) {R : α → α → Prop} (x : α) : ∀ l : List α, l.Pairwise (prR c R) → (∀ y ∈ l, R x y) → (ins c x l).Pairwise (prR c R)
  | [], _, _ => List.pairwise_singleton ..
  | y :: ys, h, hx => by
    have h' := List.pairwise_cons.mp h
    unfold ins
    cases e : c y x with
    | true =>
      rw [if_pos rfl]
      refine List.pairwise_cons.mpr ⟨fun z hz => ?_, ins_sorted S x ys h'.2 fun z hz => hx z (.tail _ hz)⟩
      rcases List.mem_cons.mp ((ins_perm c x ys).mem_iff.mp hz) with rfl | hz
      · exact .inl e
      · exact h'.1 z hz
    | false =>
      rw [if_neg Bool.false_ne_true]
      refine List.pairwise_cons.mpr ⟨fun z hz => ?_, h⟩
      rcases List.mem_cons.mp hz with rfl | hz'
      · exact .inr ⟨e, hx _ (.head _)⟩
      · exact .inr ⟨S.ntrans _ _ _ ((h'.1 z hz').notlt S) e, hx _ (.tail _ hz')⟩
theorem isort_sorted {c : α → α → Bool} (S : SO c) {R : α → α → Prop} : ∀ l : List α, l.Pairwise R → (isort c l).Pairwise (prR c R)
  | [], _ => .nil
  | x :: xs, h => by
    have h' := List.pairwise_cons.mp h
    exact ins_sorted S x _ (isort_sorted S xs h'.2) fun y hy => h'.1 y ((isort_perm c xs).mem_iff.mp hy)
theorem pw_unique {r : α → α → Prop} (asym : ∀ x y, r x y → ¬ r y x) : ∀ {l₁ l₂ : List α}, l₁.Perm l₂ → l₁.Pairwise r → l₂.Pairwise r → l₁ = l₂
  | [], l₂, hp, _, _ => (List.nil_perm.mp hp).symm
  | x :: xs, [], hp, _, _ => absurd hp.length_eq (by simp)
  | x :: xs, y :: ys, hp, h1, h2 => by
    have h1' := List.pairwise_cons.mp h1
    have h2' := List.pairwise_cons.mp h2
    have hxy : x = y := by
      rcases List.mem_cons.mp (hp.mem_iff.mp (.head _)) with e | hx
      · exact e
      · rcases List.mem_cons.mp (hp.mem_iff.mpr (.head _ : y ∈ y :: ys)) with e | hy
        · exact e.symm
        · exact absurd (h1'.1 y hy) (asym _ _ (h2'.1 x hx))
    subst hxy
    rw [pw_unique asym (List.perm_cons _ |>.mp hp) h1'.2 h2'.2]
end
section
variable {lt : Nat → Nat → Bool}
theorem prec_asym (S : SO lt) : ∀ x y, prec lt x y → ¬ prec lt y x := fun x y h h' => by
  rcases h with h | h
  · rw [h'.notlt S] at h; cases h
  · rcases h' with h' | h'
    · rw [h.1] at h'; cases h'
    · omega
theorem prec_total (S : SO lt) {x y : Nat} (h : ¬ prec lt x y) (hne : x ≠ y) : prec lt y x := by
  cases e : lt y x with
  | true => exact .inl e
  | false =>
    cases e' : lt x y with
    | true => exact absurd (.inl e') h
    | false =>
      rcases Nat.lt_or_ge x y with q | q
      · exact absurd (.inr ⟨e, q⟩) h
      · exact .inr ⟨e', by omega⟩
theorem prec_trans (S : SO lt) {x y z : Nat} (h1 : prec lt x y) (h2 : prec lt y z) : prec lt x z := by
  cases e : lt x z with
  | true => exact .inl e
  | false =>
    rcases h1 with h1 | h1
    · rw [S.ntrans _ _ _ e (h2.notlt S)] at h1; cases h1
    · rcases h2 with h2 | h2
      · have := S.ntrans _ _ _ h1.1 e
        rw [this] at h2; cases h2
      · exact .inr ⟨S.ntrans _ _ _ h2.1 h1.1, by omega⟩
theorem isort_range (S : SO lt) (n : Nat) : (isort lt (List.range n)).Pairwise (prec lt) := isort_sorted S (R := fun x y => x < y) _ List.pairwise_lt_range
/-- the stable sort is the one order of the places -/
theorem isort_of {n : Nat} (S : SO lt) {p : List Nat} (hp : p.Perm (List.range n)) (hs : p.Pairwise (prec lt)) : p = isort lt (List.range n) :=
  pw_unique (prec_asym S) (hp.trans (isort_perm lt _).symm) hs (isort_range S n)
/-- the least n of the first m places -/
structure Sel (lt : Nat → Nat → Bool) (m n : Nat) (T : List Nat) : Prop where
  nodup : T.Nodup
  len : T.length = n
  mem : ∀ i ∈ T, i < m
  closed : ∀ i ∈ T, ∀ j, j < m → j ∉ T → prec lt i j
theorem Sel.perm {m n : Nat} {T U : List Nat} (H : Sel lt m n T) (p : U.Perm T) : Sel lt m n U :=
  ⟨p.nodup_iff.mpr H.nodup, by rw [p.length_eq]; exact H.len, fun i hi => H.mem i (p.mem_iff.mp hi), fun i hi j hj hn => H.closed i (p.mem_iff.mp hi) j hj fun q => hn (p.mem_iff.mpr q)⟩
theorem Sel.start (n : Nat) : Sel lt n n (List.range n) := ⟨List.nodup_range, List.length_range, fun i hi => List.mem_range.mp hi, fun i _ j hj hn => absurd (List.mem_range.mpr hj) hn⟩
theorem Sel.keep (S : SO lt) {m n t : Nat} {T : List Nat} (H : Sel lt m n T) (ht : ∀ i ∈ T, i = t ∨ prec lt i t) (h : lt m t = false) : Sel lt (m + 1) n T :=
  ⟨H.nodup, H.len, fun i hi => Nat.lt_succ_of_lt (H.mem i hi), fun i hi j hj hn => by
    rcases Nat.lt_succ_iff_lt_or_eq.mp hj with q | q
    · exact H.closed i hi j q hn
    · rw [q]
      refine .inr ⟨?_, H.mem i hi⟩
      rcases ht i hi with e | e
      · rw [e]; exact h
      · exact S.ntrans _ _ _ h (e.notlt S)⟩
theorem Sel.swap (S : SO lt) {m n t : Nat} {T : List Nat} (H : Sel lt m n T) (htm : t ∈ T) (ht : ∀ i ∈ T, i = t ∨ prec lt i t) (h : lt m t = true) : Sel lt (m + 1) n (m :: T.erase t) := by
  have hmT : m ∉ T.erase t := fun q => Nat.lt_irrefl _ (H.mem m (List.mem_of_mem_erase q))
  refine ⟨List.nodup_cons.mpr ⟨hmT, H.nodup.erase t⟩, ?_, ?_, ?_⟩
  · rw [List.length_cons, List.length_erase_of_mem htm, H.len]
    have : 0 < T.length := List.length_pos_of_mem htm
    have := H.len
    omega
  · intro i hi
    rcases List.mem_cons.mp hi with rfl | hi
    · exact Nat.lt_succ_self _
    · exact Nat.lt_succ_of_lt (H.mem i (List.mem_of_mem_erase hi))
  · intro i hi j hj hn
    have hj' : j < m := by
      rcases Nat.lt_succ_iff_lt_or_eq.mp hj with q | q
      · exact q
      · exact absurd (q ▸ .head _) hn
    have it : prec lt i t := by
      rcases List.mem_cons.mp hi with rfl | hi
      · exact .inl h
      · rcases ht i (List.mem_of_mem_erase hi) with e | e
        · subst e; exact absurd hi (List.Nodup.not_mem_erase H.nodup)
        · exact e
    by_cases q : j = t
    · rw [q]; exact it
    · have hjT : j ∉ T := fun hj => hn (.tail _ ((List.mem_erase_of_ne q).mpr hj))
      exact prec_trans S it (H.closed t htm j hj' hjT)
theorem Sel.take (S : SO lt) {m n : Nat} {T : List Nat} (H : Sel lt m n T) (hs : T.Pairwise (prec lt)) : T = (isort lt (List.range m)).take n := by
  have e : T ++ isort lt ((List.range m).filter (fun i => decide (i ∉ T))) = isort lt (List.range m) := by
    refine isort_of S ?_ ?_
    · refine List.Perm.trans (List.Perm.append_left _ (isort_perm ..)) ?_
      have h1 : T.Perm ((List.range m).filter (fun i => decide (i ∈ T))) := by
        refine (List.perm_ext_iff_of_nodup H.nodup (List.nodup_range.filter _)).mpr fun i => ?_
        simp only [List.mem_filter, List.mem_range, decide_eq_true_eq]
        exact ⟨fun h => ⟨H.mem i h, h⟩, fun h => h.2⟩
      refine (h1.append_right _).trans ?_
      have := List.filter_append_perm (fun i => decide (i ∈ T)) (List.range m)
      refine List.Perm.trans (List.Perm.append_left _ (List.Perm.of_eq ?_)) this
      apply List.filter_congr
      intro i _
      simp
    · rw [List.pairwise_append]
      refine ⟨hs, isort_sorted S (R := fun x y => x < y) _ (List.pairwise_lt_range.filter _), fun i hi j hj => ?_⟩
      have := (isort_perm lt _).mem_iff.mp hj
      simp only [List.mem_filter, List.mem_range, decide_eq_true_eq] at this
      exact H.closed i hi j this.1 this.2
  rw [← e, List.take_append_of_le_length (by rw [H.len]; exact Nat.le_refl _), List.take_of_length_le (by rw [H.len]; exact Nat.le_refl _)]
end
/-- a list is its places' map -/
theorem map_range (xs : List Int) : (List.range xs.length).map (fun i => xs.getD i 0) = xs := by
  apply List.ext_getElem?
  intro i
  rw [List.getElem?_map]
  by_cases h : i < xs.length
  · rw [List.getElem?_range h]
    simp [h]
  · rw [List.getElem?_eq_none (by simp; omega), List.getElem?_eq_none (by omega)]; rfl
/-- the places' order by c -/
def onP (c : Int → Int → Bool) (xs : List Int) (i j : Nat) : Bool := c (xs.getD i 0) (xs.getD j 0)
theorem onP_so {c : Int → Int → Bool} (S : SO c) (xs : List Int) : SO (onP c xs) := ⟨fun a b h => S.asym _ _ h, fun a b d h1 h2 => S.ntrans _ _ _ h1 h2⟩
theorem isort_places (c : Int → Int → Bool) (xs : List Int) : (isort (onP c xs) (List.range xs.length)).map (fun i => xs.getD i 0) = isort c xs := by
  rw [isort_map (c := onP c xs) (e := c) (fun i => xs.getD i 0) _ fun _ _ _ _ => rfl, map_range]
def flp (c : Int → Int → Bool) (x y : Int) : Bool := c y x
theorem flp_so {c : Int → Int → Bool} (S : SO c) : SO (flp c) := ⟨fun a b h => S.asym _ _ h, fun a b d h1 h2 => S.ntrans _ _ _ h2 h1⟩
/-- turned about and by the other order -/
theorem isort_rev {c : Int → Int → Bool} (S : SO c) (xs : List Int) : isort (flp c) xs.reverse = (isort c xs).reverse := by
  have h1 : isort (flp c) xs.reverse = (isort (fun i j => onP c xs j i) (List.range xs.length).reverse).map (fun i => xs.getD i 0) := by
    rw [isort_map (c := fun i j => onP c xs j i) (e := flp c) (fun i => xs.getD i 0) _ fun _ _ _ _ => rfl, List.map_reverse, map_range]
  have S' : SO (fun i j => onP c xs j i) := ⟨fun a b h => S.asym _ _ h, fun a b d h1 h2 => S.ntrans _ _ _ h2 h1⟩
  have h2 : (isort (fun i j => onP c xs j i) (List.range xs.length).reverse).reverse = isort (onP c xs) (List.range xs.length) := by
    refine isort_of (onP_so S xs) ?_ ?_
    · exact (List.reverse_perm _).trans ((isort_perm ..).trans (List.reverse_perm _))
    · rw [List.pairwise_reverse]
      exact isort_sorted S' (R := fun x y => y < x) _ (List.pairwise_reverse.mpr List.pairwise_lt_range)
  rw [h1, ← isort_places, ← h2, List.map_reverse, List.reverse_reverse]
/-- both halves together -/
theorem halves {c : Int → Int → Bool} (S : SO c) (xs : List Int) (k : Nat) (hk : k ≤ xs.length) :
    (isort c xs).take k ++ ((isort (flp c) xs.reverse).take (xs.length - k)).reverse = isort c xs := by
  rw [isort_rev S, List.take_reverse, List.reverse_reverse, isort_len]
  rw [show xs.length - (xs.length - k) = k by omega, List.take_append_drop]
theorem perm_map_ex {α β : Type} [DecidableEq α] (g : α → β) : ∀ {l : List β} {T : List α}, l.Perm (T.map g) → ∃ U : List α, U.Perm T ∧ l = U.map g
  | [], T, h => ⟨[], by have := h.length_eq; simp at this; have : T = [] := List.length_eq_zero_iff.mp this.symm; rw [this], rfl⟩
  | a :: l, T, h => by
    obtain ⟨t, ht, rfl⟩ := List.mem_map.mp (h.mem_iff.mp (.head _))
    have hT := List.perm_cons_erase ht
    have h' : (g t :: l).Perm (g t :: (T.erase t).map g) := h.trans (hT.map g)
    obtain ⟨U, hU, rfl⟩ := perm_map_ex g ((List.perm_cons _).mp h')
    exact ⟨t :: U, (hU.cons t).trans hT.symm, rfl⟩
/-- which way: false: the least ones, true: the greatest ones -/
def kc (fl : Bool) (x y : List Nat) : Bool := if fl = true then decide (y < x) else decide (x < y)
def oc (fl : Bool) (x y : Int) : Prop := if fl = true then y < x else x < y
def pr (fl : Bool) (x y : Item) : Bool := if fl = true then ilt y x else ilt x y
theorem kc_so (fl : Bool) : SO (kc fl) := by
  have base : SO (fun x y : List Nat => decide (x < y)) := ⟨fun a b h => by simp at h ⊢; exact List.not_lt.mp (List.lt_asymm h), fun a b c h1 h2 => by simp at h1 h2 ⊢; exact List.le_trans h2 h1⟩
  cases fl with
  | false => exact base
  | true => exact ⟨fun a b h => base.asym _ _ h, fun a b c h1 h2 => base.ntrans _ _ _ h2 h1⟩
theorem pr_so (fl : Bool) : SO (pr fl) := by
  cases fl with
  | false => exact ilt_so
  | true => exact ⟨fun a b h => ilt_so.asym _ _ h, fun a b c h1 h2 => ilt_so.ntrans _ _ _ h2 h1⟩
theorem pr_iff (fl : Bool) {x y : Item} (h : x.2.1 ≠ y.2.1) : pr fl x y = true ↔ kc fl x.1 y.1 = true ∨ (kc fl y.1 x.1 = false ∧ oc fl x.2.1 y.2.1) := by
  cases fl with
  | false =>
    show ilt x y = true ↔ decide (x.1 < y.1) = true ∨ (decide (y.1 < x.1) = false ∧ x.2.1 < y.2.1)
    rw [ilt_iff]
    constructor
    · rintro (q | ⟨q, q'⟩)
      · exact .inl (by simpa using q)
      · exact .inr ⟨by rw [q]; simp, by omega⟩
    · rintro (q | ⟨q, q'⟩)
      · exact .inl (by simpa using q)
      · by_cases q2 : x.1 < y.1
        · exact .inl q2
        · exact .inr ⟨lt_total q2 (by simpa using q), .inl q'⟩
  | true =>
    show ilt y x = true ↔ decide (y.1 < x.1) = true ∨ (decide (x.1 < y.1) = false ∧ y.2.1 < x.2.1)
    rw [ilt_iff]
    constructor
    · rintro (q | ⟨q, q'⟩)
      · exact .inl (by simpa using q)
      · exact .inr ⟨by rw [q]; simp, by omega⟩
    · rintro (q | ⟨q, q'⟩)
      · exact .inl (by simpa using q)
      · by_cases q2 : y.1 < x.1
        · exact .inl q2
        · exact .inr ⟨lt_total q2 (by simpa using q), .inl q'⟩
theorem oc_ne {fl : Bool} {x y : Int} (h : oc fl x y) : x ≠ y := by
  unfold oc at h; split at h <;> omega
theorem oc_trans {fl : Bool} {x y z : Int} (h : oc fl x y) (h' : oc fl y z) : oc fl x z := by
  unfold oc at *; split at h <;> simp_all <;> omega
/-- the ints' order by a key -/
def cK (fl : Bool) (kf : Int → List Nat) (a b : Int) : Bool := kc fl (kf a) (kf b)
theorem cK_so (fl : Bool) (kf : Int → List Nat) : SO (cK fl kf) := ⟨fun a b h => (kc_so fl).asym _ _ h, fun a b d h1 h2 => (kc_so fl).ntrans _ _ _ h1 h2⟩
theorem cK_flp (fl : Bool) (kf : Int → List Nat) : flp (cK fl kf) = cK (!fl) kf := by
  funext a b
  cases fl <;> rfl
/-- the heap holds the least n of the first m -/
def HInv (fl : Bool) (kf : Int → List Nat) (xs : List Int) (m n : Nat) (its : List Item) (o : Int) : Prop :=
  ∃ (T : List Nat) (g : Nat → Item), Sel (onP (cK fl kf) xs) m n T ∧ its.Perm (T.map g) ∧ (∀ i ∈ T, (g i).1 = kf (xs.getD i 0) ∧ (g i).2.2 = xs.getD i 0) ∧ (∀ i ∈ T, ∀ j ∈ T, i < j → oc fl (g i).2.1 (g j).2.1) ∧ (∀ i ∈ T, oc fl (g i).2.1 o)
theorem oc_inj {fl : Bool} {T : List Nat} {g : Nat → Item} (H : ∀ i ∈ T, ∀ j ∈ T, i < j → oc fl (g i).2.1 (g j).2.1) {i j : Nat} (hi : i ∈ T) (hj : j ∈ T) (hne : i ≠ j) : (g i).2.1 ≠ (g j).2.1 := by
  rcases Nat.lt_or_ge i j with q | q
  · exact oc_ne (H i hi j hj q)
  · exact (oc_ne (H j hj i hi (by omega))).symm
theorem pr_prec {fl : Bool} {kf : Int → List Nat} {xs : List Int} {T : List Nat} {g : Nat → Item} (K : ∀ i ∈ T, (g i).1 = kf (xs.getD i 0) ∧ (g i).2.2 = xs.getD i 0)
    (H : ∀ i ∈ T, ∀ j ∈ T, i < j → oc fl (g i).2.1 (g j).2.1) {i j : Nat} (hi : i ∈ T) (hj : j ∈ T) (hne : i ≠ j) : pr fl (g i) (g j) = true ↔ prec (onP (cK fl kf) xs) i j := by
  rw [pr_iff fl (oc_inj H hi hj hne), (K i hi).1, (K j hj).1]
  show _ ↔ kc fl (kf (xs.getD i 0)) (kf (xs.getD j 0)) = true ∨ (kc fl (kf (xs.getD j 0)) (kf (xs.getD i 0)) = false ∧ i < j)
  constructor
  · rintro (q | ⟨q, q'⟩)
    · exact .inl q
    · refine .inr ⟨q, ?_⟩
      rcases Nat.lt_or_ge i j with r | r
      · exact r
      · have := H j hj i hi (by omega)
        unfold oc at this q'
        split at this <;> simp_all <;> omega
  · rintro (q | ⟨q, q'⟩)
    · exact .inl q
    · exact .inr ⟨q, H i hi j hj q'⟩
section
variable {fl : Bool} {kf : Int → List Nat} {xs : List Int} {m n : Nat} {its : List Item} {o : Int}
theorem HInv.perm {its' : List Item} (H : HInv fl kf xs m n its o) (p : its'.Perm its) : HInv fl kf xs m n its' o :=
  let ⟨T, g, h1, h2, h3⟩ := H; ⟨T, g, h1, p.trans h2, h3⟩
theorem HInv.len (H : HInv fl kf xs m n its o) : its.length = n := by
  obtain ⟨T, g, h1, h2, h3⟩ := H
  rw [h2.length_eq, List.length_map, h1.len]
/-- the top and the next thing -/
theorem HInv.top {top : Item} {rest : List Item} (H : HInv fl kf xs m n (top :: rest) o) (ht : ∀ x ∈ top :: rest, pr fl top x = false) :
    (cK fl kf (xs.getD m 0) top.2.2 = kc fl (kf (xs.getD m 0)) top.1) ∧
    (kc fl (kf (xs.getD m 0)) top.1 = false → HInv fl kf xs (m + 1) n (top :: rest) o) ∧
    (kc fl (kf (xs.getD m 0)) top.1 = true → ∀ o', oc fl o o' → HInv fl kf xs (m + 1) n ((kf (xs.getD m 0), o, xs.getD m 0) :: rest) o') := by
  obtain ⟨T, g, hS, hp, hK, hO, hB⟩ := H
  have S := onP_so (cK_so fl kf) xs
  obtain ⟨t, htT, rfl⟩ := List.mem_map.mp (hp.mem_iff.mp (.head _))
  have htop : ∀ i ∈ T, i = t ∨ prec (onP (cK fl kf) xs) i t := fun i hi => by
    by_cases q : i = t
    · exact .inl q
    · right
      have h1 := ht (g i) (hp.mem_iff.mpr (List.mem_map.mpr ⟨i, hi, rfl⟩))
      refine prec_total S (fun h => ?_) (Ne.symm q)
      rw [(pr_prec hK hO htT hi (Ne.symm q)).mpr h] at h1; cases h1
  have hk := hK t htT
  refine ⟨by unfold cK; rw [hk.1, hk.2], fun h => ?_, fun h o' ho => ?_⟩
  · refine ⟨T, g, hS.keep S htop ?_, hp, hK, hO, hB⟩
    show kc fl (kf (xs.getD m 0)) (kf (xs.getD t 0)) = false
    rw [← hk.1]; exact h
  · have hr : rest.Perm ((T.erase t).map g) := (List.perm_cons _).mp (hp.trans ((List.perm_cons_erase htT).map g))
    have hmT : ∀ i ∈ T, i ≠ m := fun i hi => Nat.ne_of_lt (hS.mem i hi)
    have hg : ∀ i ∈ T.erase t, (if i = m then (kf (xs.getD m 0), o, xs.getD m 0) else g i) = g i := fun i hi => if_neg (hmT i (List.mem_of_mem_erase hi))
    refine ⟨m :: T.erase t, fun i => if i = m then (kf (xs.getD m 0), o, xs.getD m 0) else g i, hS.swap S htT htop ?_, ?_, ?_, ?_, ?_⟩
    · show kc fl (kf (xs.getD m 0)) (kf (xs.getD t 0)) = true
      rw [← hk.1]; exact h
    · rw [List.map_cons]
      simp only [if_true]
      refine List.Perm.cons _ (hr.trans (List.Perm.of_eq ?_))
      exact List.map_congr_left fun i hi => (hg i hi).symm
    · intro i hi
      rcases List.mem_cons.mp hi with rfl | hi
      · simp
      · simp only [hg i hi]; exact hK i (List.mem_of_mem_erase hi)
    · intro i hi j hj hij
      rcases List.mem_cons.mp hi with rfl | hi
      · rcases List.mem_cons.mp hj with rfl | hj
        · omega
        · have := hS.mem j (List.mem_of_mem_erase hj); omega
      · simp only [hg i hi]
        rcases List.mem_cons.mp hj with hj' | hj'
        · rw [hj']
          simp only [if_true]; exact hB i (List.mem_of_mem_erase hi)
        · simp only [hg j hj']; exact hO i (List.mem_of_mem_erase hi) j (List.mem_of_mem_erase hj') hij
    · intro i hi
      rcases List.mem_cons.mp hi with rfl | hi
      · simp only [if_true]; exact ho
      · simp only [hg i hi]; exact oc_trans (hB i (List.mem_of_mem_erase hi)) ho
/-- the heap in order -/
theorem HInv.sorted (H : HInv fl kf xs xs.length n its o) {S : List Item} (hp : S.Perm its) (hs : S.Pairwise (fun x y => pr fl y x = false)) : S.map (·.2.2) = (isort (cK fl kf) xs).take n := by
  obtain ⟨T, g, hS, hp', hK, hO, hB⟩ := H
  obtain ⟨U, hU, rfl⟩ := perm_map_ex g (hp.trans hp')
  have So := onP_so (cK_so fl kf) xs
  have hSU := hS.perm hU
  have hpw : U.Pairwise (prec (onP (cK fl kf) xs)) := by
    rw [List.pairwise_map] at hs
    have hnd := hSU.nodup
    refine (hs.and hnd).imp_of_mem ?_
    rintro i j hi hj ⟨h1, h2⟩
    have hi := hU.mem_iff.mp hi
    have hj := hU.mem_iff.mp hj
    refine prec_total So (fun h => ?_) h2.symm
    rw [(pr_prec hK hO hj hi h2.symm).mpr h] at h1; cases h1
  have e := hSU.take So hpw
  rw [List.map_map, ← isort_places, ← List.map_take, ← e]
  refine List.map_congr_left fun i hi => ?_
  exact (hK i (hU.mem_iff.mp hi)).2
theorem HInv.start (ord : Nat → Int) (hord : ∀ i j, i < j → oc fl (ord i) (ord j)) (n : Nat) : HInv fl kf xs n n ((List.range n).map fun i => (kf (xs.getD i 0), ord i, xs.getD i 0)) (ord n) :=
  ⟨List.range n, fun i => (kf (xs.getD i 0), ord i, xs.getD i 0), Sel.start n, .refl _, fun i _ => ⟨rfl, rfl⟩, fun i _ j _ h => hord i j h, fun i hi => hord i n (List.mem_range.mp hi)⟩
end
end
section
set_option maxRecDepth 100000
set_option autoImplicit false
set_option linter.unusedVariables false
section
variable {prog : Program} {w : World} {A : Around} {h b : Heap} {env : Env}
theorem Rn.method {o : Expr} {name : Str} {apos pos : Pos} {args : List Expr} {kws : List Keyword} {T id : String} {P : Value → Heap → Prop} (pa : PlainAttrs T) (slot : Slot T name id)
    (hty : typeOf (.builtin id) = Pure.pure (.type "method_descriptor"))
    (R : Rn prog w A h (eval o env) (fun ov h₁ => (∀ s : Shared, s.heap = h₁ → s.TypeIs ov T ∧ (∀ a, ov = .ref a → ∃ ob, h₁.get? a = some ob ∧ ob.dict = Option.none)) ∧
      Rn prog w A h₁ (callWith pos (.builtin id) [ov] (backTo pos (starEach args env)) (backToKw pos (keywordEach kws env))) P))
    (hbase : attributeBase o name env (eval o env) = eval o env := by rfl)
    (hform : methodCallForm (args.length + kws.length) (backTo pos (starEach args env)) (backToKw pos (keywordEach kws env)) = true := by rfl)
    (hline : (apos.endLine == pos.line) = true := by rfl) :
    Rn prog w A h (eval (.Call (.Attribute o name apos) args kws pos) env) P := by
  refine Rn.of fun s Q E e kk => ?_
  subst e
  rw [arm_eval_Call, hbase]
  refine wpAny_bind (R.use fun ov h₁ tk₁ q₁ => ?_)
  obtain ⟨hT, hd⟩ := q₁.1 { s with heap := h₁, toks := tk₁ } rfl
  refine wpAny_bind (wpAny_standAt ?_)
  have hpos : methodCallPos true o env apos pos = Pure.pure pos := by unfold methodCallPos; simp [hline]
  unfold methodCall
  rw [hform]
  refine wpAny_bind (wpAny_holding (getMethod_builtin hT pa slot hty hd ?_))
  exact wpAny_bind (wpAny_of_eq hpos (Rn.use (s := { s with heap := h₁, toks := tk₁ }) q₁.2 fun v h₂ tk₂ q₂ => kk _ h₂ tk₂ q₂))
theorem Rn.cwM0 {id : String} {pos : Pos} {ov : Value} {P : Value → Heap → Prop} (R : Rn prog w A h (call (.builtin id) [ov]) P) :
    Rn prog w A h (callWith pos (.builtin id) [ov] (backTo pos (starEach [] env)) (backToKw pos (keywordEach [] env))) P := by
  refine Rn.of fun s Q E e kk => callWith_builtin_kwB rfl rfl (PySem.evalArgs_none ?_)
  subst e
  exact R.use fun v h₁ tk₁ q₁ => kk _ h₁ tk₁ q₁
theorem Rn.cwMK {id : String} {pos : Pos} {ov : Value} {kws : List Keyword} {P : Value → Heap → Prop}
    (R : Rn prog w A h (evalAll ((backToKw pos (keywordEach kws env)).map (·.2))) (fun kvs h₂ => Rn prog w A h₂ (call (.builtin id) [ov] (((backToKw pos (keywordEach kws env)).filterMap (·.1)).zip kvs)) P))
    (hall : (backToKw pos (keywordEach kws env)).all (·.1.isSome) = true := by rfl)
    (hkw : (backToKw pos (keywordEach kws env)).any (·.1.isNone) = false := by rfl) :
    Rn prog w A h (callWith pos (.builtin id) [ov] (backTo pos (starEach [] env)) (backToKw pos (keywordEach kws env))) P := by
  refine Rn.of fun s Q E e kk => callWith_builtin_kwB rfl hkw (evalArgs_kw_nil hall ?_)
  subst e
  exact R.use fun kvs h₁ tk₁ q₁ => Rn.use (s := { s with heap := h₁, toks := tk₁ }) q₁ fun v h₂ tk₂ q₂ => kk _ h₂ tk₂ q₂
theorem Rn.cwM1 {id : String} {pos : Pos} {ov : Value} {e : Expr} {P : Value → Heap → Prop}
    (R : Rn prog w A h (eval e env) (fun v h₁ => Rn prog w A h₁ (call (.builtin id) [ov, v]) P))
    (he : backTo pos (starEach [e] env) = [(false, eval e env)] := by rfl) :
    Rn prog w A h (callWith pos (.builtin id) [ov] (backTo pos (starEach [e] env)) (backToKw pos (keywordEach [] env))) P := by
  refine Rn.of fun s Q E es kk => callWith_builtin_kwB (by rw [he]; rfl) rfl ?_
  subst es
  rw [he]
  refine evalArgs_plain ?_
  refine Calls.spliced_cons ?_
  exact R.use fun v h₁ tk₁ q₁ => Calls.spliced_nil <| Rn.use (s := { s with heap := h₁, toks := tk₁ }) q₁ fun v h₂ tk₂ q₂ => kk _ h₂ tk₂ q₂
theorem Lst.meth {l : Addr} {vs : List Value} (H : Lst h l vs) (s : Shared) (e : s.heap = h) : s.TypeIs (.ref l) "list" ∧ (∀ a, Value.ref l = .ref a → ∃ ob, h.get? a = some ob ∧ ob.dict = Option.none) := by
  subst e
  refine ⟨H.isList.typeIs, fun a e => ?_⟩
  cases e
  obtain ⟨n, e⟩ := H
  exact ⟨_, e, rfl⟩
theorem oneLt_bool {c d : Bool} {s : Shared} {E : Value → Shared → Prop} {Q : Bool → Shared → Prop} (hq : Q (decide (c.toNat < d.toNat)) s) : wpAny (model prog w) A (oneLt' true (.bool c) (.bool d)) Q E s := by
  rw [oneLt'_eq]
  simp only [if_true]
  refine wpAny_bind (wpAny_cRoomFor_byValue rfl ?_)
  refine wpAny_bind (wpAny_callSpecialIfBound?_slot (typeIs_bool' s c) F.slot_bool_lt (call_gives F.slot_bool_lt (typeIs_bool' s c) F.entry_int_lt (F.args_int_lt_2 _ _) (gives_int_lt_bools c d) ?_))
  refine wpAny_truthy_bool ?_
  cases c <;> cases d <;> exact hq
theorem Pv.oneK {κ : Nat} {k k' : List Nat} {v v' : Value} (bb : Bool) (H : IsK κ k v) (H' : IsK κ k' v') : Pv prog w A h (oneLt' bb v v') (· = decide (k < k')) := by
  cases bb with
  | false =>
    refine Rn.of fun s Q E e kk => ?_
    subst e
    refine kat_one _ _ (Rn.use (Pv.ltK H H') ?_)
    rintro a h' tk ⟨rfl, rfl⟩
    exact kk _ _ tk ⟨rfl, rfl⟩
  | true =>
    unfold IsK at H H'
    split at H
    · obtain ⟨c, rfl, rfl⟩ := H
      obtain ⟨c', rfl, rfl⟩ := H'
      refine Rn.of fun s Q E e kk => ?_
      subst e
      refine oneLt_bool (kk _ _ s.toks ⟨rfl, ?_⟩)
      cases c <;> cases c' <;> decide
    · obtain ⟨n, t, rfl, rfl⟩ := H
      obtain ⟨n', t', rfl, rfl⟩ := H'
      refine Rn.of fun s Q E e kk => ?_
      subst e
      refine oneLt_int (kk _ _ s.toks ⟨rfl, ?_⟩)
      show decide ((n : Int) < (n' : Int)) = decide ([n] < [n'])
      rw [decide_eq_decide, List.cons_lt_cons_iff]
      constructor
      · intro q; exact .inl (Int.ofNat_lt.mp q)
      · rintro (q | ⟨_, q⟩)
        · exact Int.ofNat_lt.mpr q
        · exact absurd q (List.lt_irrefl _)
    · obtain ⟨n, t, rfl, rfl⟩ := H
      rename_i h1 h2
      have H' : ∃ (x : Str) (t : Tok), v' = .str x t ∧ k' = x.cps.toList := by
        split at H'
        · exact absurd rfl h1
        · exact absurd rfl h2
        · exact H'
      obtain ⟨n', t', rfl, rfl⟩ := H'
      refine Rn.of fun s Q E e kk => ?_
      subst e
      exact oneLt_str (kk _ _ s.toks ⟨rfl, rfl⟩)
def kTy (κ : Nat) : Value := match κ with
  | 0 => .type "bool"
  | 1 => .type "int"
  | _ => .type "str"
theorem kTy_ne (κ : Nat) : (kTy κ != Value.type "tuple") = true ∧ (kTy κ == kTy κ) = true := by
  unfold kTy
  split <;> decide
theorem IsK.looks {M : Model} {κ : Nat} {k : List Nat} {v : Value} (H : IsK κ k v) : Looks M h (typeOf v) (kTy κ) := by
  unfold IsK at H
  unfold kTy
  split at H
  · obtain ⟨c, rfl, rfl⟩ := H; exact Looks.of_pure rfl
  · obtain ⟨n, t, rfl, rfl⟩ := H; exact Looks.of_pure rfl
  · rename_i h1 h2
    obtain ⟨x, t, rfl, rfl⟩ := H
    first
    | exact Looks.of_pure rfl
    | (split
       · exact absurd rfl h1
       · exact absurd rfl h2
       · exact Looks.of_pure rfl)
theorem Pv.oneI {a c : Int} {t u : Tok} : Pv prog w A h (oneLt' false (.int a t) (.int c u)) (· = decide (a < c)) := by
  refine Rn.of fun s Q E e kk => ?_
  subst e
  refine kat_one _ _ (Rn.use Pv.ltI ?_)
  rintro a h' tk ⟨rfl, rfl⟩
  exact kk _ _ tk ⟨rfl, rfl⟩
theorem Pv.keyTup {κ : Nat} {v u : Value} {it it' : Item} (H : TupK h κ v it) (H' : TupK h κ u it') : Pv prog w A h (keyLt' (tuples' true) v u) (· = ilt it it') := by
  obtain ⟨a, kv, t, x, rfl, ⟨o, ho, hc, n, hd⟩, hk⟩ := H
  obtain ⟨a', kv', t', x', rfl, ⟨o', ho', hc', n', hd'⟩, hk'⟩ := H'
  refine Rn.of fun s Q E e kk => ?_
  subst e
  have fin : ∀ tk c, c = ilt it it' → Q c { s with toks := tk } := fun tk c hc => kk _ _ tk ⟨rfl, hc⟩
  refine kat_lt ho hd ho' hd' (kat_cons (Rn.use (Pv.eqK hk hk') ?_))
  rintro c h' tk ⟨rfl, rfl⟩
  by_cases q : it.1 = it'.1
  · rw [decide_eq_true q]
    refine kat_yes (kat_cons (Rn.use (s := { s with toks := tk }) (Pv.eqBI) ?_))
    rintro c h' tk₂ ⟨rfl, rfl⟩
    by_cases q2 : it.2.1 = it'.2.1
    · rw [decide_eq_true q2]
      refine kat_yes (kat_cons (Rn.use (s := { s with toks := tk₂ }) (Pv.eqBI) ?_))
      rintro c h' tk₃ ⟨rfl, rfl⟩
      by_cases q3 : it.2.2 = it'.2.2
      · rw [decide_eq_true q3]
        refine kat_yes (kat_nil (fin _ _ ?_))
        unfold ilt
        rw [q, q2, q3]
        simp [List.lt_irrefl]
      · rw [decide_eq_false q3]
        refine kat_no (Rn.use (s := { s with toks := tk₃ }) Pv.oneI ?_)
        · rintro r h' tk ⟨rfl, rfl⟩
          refine fin _ _ ?_
          unfold ilt
          rw [q, q2]
          simp [List.lt_irrefl]
    · rw [decide_eq_false q2]
      refine kat_no (Rn.use (s := { s with toks := tk₂ }) Pv.oneI ?_)
      · rintro r h' tk ⟨rfl, rfl⟩
        refine fin _ _ ?_
        unfold ilt
        rw [q]
        simp [List.lt_irrefl, q2]
  · rw [decide_eq_false q]
    refine kat_no (Rn.use (s := { s with toks := tk }) (Pv.oneK _ hk hk') ?_)
    rintro r h' tk ⟨rfl, rfl⟩
    refine fin _ _ ?_
    unfold ilt
    simp [q]
theorem kasWp_of {α : Type} {n : Nat} {ans : Nat → Nat → Bool} {cmp : Nat → Nat → (Bool → Shared → Prop) → Shared → Prop} {Q : α → Prop} {G : α → Shared → Prop} {g : Array GenState} {d : Drawn} {os : OsState}
    (hc : ∀ i j C tk, i < n → j < n → (∀ tk', C (ans i j) ⟨h, g, d, tk', os⟩) → cmp i j C ⟨h, g, d, tk, os⟩) (hG : ∀ a tk, Q a → G a ⟨h, g, d, tk, os⟩) :
    ∀ (t : KasT α) (tk : Nat), KOk n ans t Q → t.kasWp cmp G ⟨h, g, d, tk, os⟩
  | .ret a, tk, H => hG a tk H
  | .ask i j k, tk, H => hc i j _ tk H.1 H.2.1 fun tk' => kasWp_of hc hG (k (ans i j)) tk' H.2.2
theorem katTups_of {κ : Nat} (dec : Value → Item) : ∀ (vs : List Value), (∀ v ∈ vs, TupK h κ v (dec v)) → ∃ fs : List Value, fs.length = vs.length ∧ KatTups h vs fs ∧ ∀ f ∈ fs, ∃ k, IsK κ k f
  | [], _ => ⟨[], rfl, KatTups.nil, fun f hf => (nomatch hf)⟩
  | v :: vs, H => by
    obtain ⟨fs, h1, h2, h3⟩ := katTups_of dec vs fun v hv => H v (.tail _ hv)
    obtain ⟨a, kv, t, x, e, ⟨o, ho, hc, n, hd⟩, hk⟩ := H v (.head _)
    rw [e]
    refine ⟨kv :: fs, by simp [h1], KatTups.cons ho hc hd rfl h2, fun f hf => ?_⟩
    rcases List.mem_cons.mp hf with rfl | hf
    · exact ⟨_, hk⟩
    · exact h3 f hf
theorem sort_plain_rev (a : Addr) : Builtin.«list.sort» ⟨[.ref a], []⟩ = Builtin.«list.sort» ⟨[.ref a], [(Str.ofString "reverse", .bool false)]⟩ := by
  rw [list_sort_rev]; rfl
theorem getD_mem' {α : Type} {l : List α} {i : Nat} {d : α} (h : i < l.length) : l.getD i d ∈ l := by
  rw [List.getD_eq_getElem?_getD, List.getElem?_eq_getElem h]
  exact List.getElem_mem h
theorem map_getD {α : Type} (d : α) (xs : List α) : (List.range xs.length).map (fun i => xs.getD i d) = xs := by
  apply List.ext_getElem?
  intro i
  rw [List.getElem?_map]
  by_cases h : i < xs.length
  · rw [List.getElem?_range h]
    simp [h]
  · rw [List.getElem?_eq_none (by simp; omega), List.getElem?_eq_none (by omega)]; rfl
theorem katRev_perm {α : Type} (bb : Bool) (l : List α) : (katRev bb l).Perm l := by
  cases bb
  · exact .refl _
  · exact List.reverse_perm _
theorem katRev_pw {α : Type} {r : α → α → Prop} (bb : Bool) {l : List α} (H : l.Pairwise r) : (katRev bb l).Pairwise (fun x y => if bb = true then r y x else r x y) := by
  cases bb
  · simpa [katRev] using H
  · simpa [katRev] using List.pairwise_reverse.mpr H
theorem Rn.sortTree {κ : Nat} {l : Addr} {vs : List Value} {bb : Bool} {P : PySem.Fin → Heap → Prop} (H : Lst h l vs) (dec : Value → Item) (hv : ∀ v ∈ vs, TupK h κ v (dec v)) (h2 : 2 ≤ vs.length) (h64 : vs.length < 64)
    (kk : ∀ h' us, Lst h' l us → us.Perm vs → us.Pairwise (fun x y => pr bb (dec y) (dec x) = false) → Heap.ExtBut l h h' → P (.done (.ret .none)) h') :
    Rn prog w A h (Builtin.«list.sort» ⟨[.ref l], [(Str.ofString "reverse", .bool bb)]⟩) P := by
  refine Rn.of fun s Q E es k => ?_
  subst es
  obtain ⟨n, ho⟩ := id H
  have ho : s.heap.get? l = some (seqObj "list" vs.toArray n) := ho
  have ha : l < s.heap.objs.size := Heap.lt_size ho
  rw [list_sort_rev]
  refine wpAny_bind (listItems_at ho rfl ?_)
  refine wpAny_bind (listUpdate_at ho rfl ?_ (by rw [List.size_toArray, sizeLine_eq]; omega) (Nat.zero_le _))
  obtain ⟨e1, ho1⟩ : ∃ e1, (s.heap.update l (Obj.mapSeq fun _ => #[])).get? l = some (seqObj "list" #[] e1) := ⟨_, get?_update_seq ho (fun _ => #[])⟩
  refine wpAny_bind (seqEpoch_at ho1 rfl ?_)
  refine wpAny_bind (wpAny_newTuple ?_ (by show vs.length ≤ _; rw [sizeLine_eq]; omega))
  refine wpAny_bind (wpAny_newList ?_ (Nat.zero_le _))
  refine wpAny_holding ?_
  have s1 : Heap.SameBut l s.heap (s.heap.update l (Obj.mapSeq fun _ => (#[] : Array Value))) := Heap.SameBut.update ..
  have ho6 : (((s.heap.update l (Obj.mapSeq fun _ => #[])).push (seqObj "tuple" vs.toArray 0)).push (seqObj "list" #[] 0)).get? l = some (seqObj "list" #[] e1) := Heap.get?_push_of_some _ (Heap.get?_push_of_some _ ho1)
  have x6 : Heap.ExtBut l s.heap (((s.heap.update l (Obj.mapSeq fun _ => #[])).push (seqObj "tuple" vs.toArray 0)).push (seqObj "list" #[] 0)) := fun b o hb e => Heap.get?_push_of_some _ (Heap.get?_push_of_some _ (s1.extBut b o hb e))
  show wpAny (model prog w) A _ Q E { s with heap := ((s.heap.update l (Obj.mapSeq fun _ => #[])).push (seqObj "tuple" vs.toArray 0)).push (seqObj "list" #[] 0) }
  generalize ((s.heap.update l (Obj.mapSeq fun _ => #[])).push (seqObj "tuple" vs.toArray 0)).push (seqObj "list" #[] 0) = h6 at ho6 x6
  dsimp only
  have step : ∀ t : Sem PySem.Fin, wpAny (model prog w) A t Q E { s with heap := h6 } → wpAny (model prog w) A (if bb = true then (do let _ ← PySem.rule "list.sort.reverse"; t) else t) Q E { s with heap := h6 } := by
    intro t ht
    split
    · exact wpAny_bind (wpAny_rule ht)
    · exact ht
  refine step _ ?_
  have hn2 : ¬ vs.toArray.size < 2 := by rw [List.size_toArray]; omega
  rw [if_neg hn2, if_neg hn2]
  have hv6 : ∀ v ∈ vs, TupK h6 κ v (dec v) := fun v hx => (hv v hx).ext x6 H
  obtain ⟨fs, hfl, hfs, hfk⟩ := katTups_of dec vs hv6
  have nek := kTy_ne κ
  refine wpAny_bind (kat_kind (s := { s with heap := h6 }) (T := kTy κ) hfs (by omega) (fun v hx => let ⟨k, hk⟩ := hfk v hx; hk.looks) nek.2 ?_)
  rw [nek.1, kat_pairs bb rfl]
  have hlr : (katRev bb vs).length = vs.length := kat_len bb vs
  have hvr : ∀ v ∈ katRev bb vs, TupK h6 κ v (dec v) := fun v hx => hv6 v ((katRev_perm bb vs).mem_iff.mp hx)
  let ans : Nat → Nat → Bool := fun i j => ilt (dec ((katRev bb vs).getD i Value.none)) (dec ((katRev bb vs).getD j Value.none))
  have So : SO ans := ⟨fun a b h => ilt_so.asym _ _ h, fun a b c h1 h2 => ilt_so.ntrans _ _ _ h1 h2⟩
  have ask : (kas_sort (katRev bb vs).length).kasWp (kas_ask prog w A (tuples' true) (katRev bb vs)) (fun p s' => ∃ tk, s' = { s with heap := h6, toks := tk } ∧ p.toList.Perm (List.range (katRev bb vs).length) ∧ p.toList.Pairwise (prec ans)) { s with heap := h6 } := by
    refine kasWp_of (h := h6) (g := s.gens) (d := s.drawn) (os := s.os) (n := (katRev bb vs).length) (ans := ans) (Q := fun p => p.toList.Perm (List.range (katRev bb vs).length) ∧ p.toList.Pairwise (prec ans)) (fun i j C tk hi hj hC => ?_) (fun a tk q => ⟨tk, rfl, q⟩) _ s.toks (sort_ok So (by omega))
    unfold kas_ask
    refine Rn.use (s := { s with heap := h6, toks := tk }) (Pv.keyTup (hvr _ (getD_mem' hi)) (hvr _ (getD_mem' hj))) ?_
    rintro a h' tk' ⟨rfl, rfl⟩
    exact hC tk'
  refine wpAny_bind (wpAny_mono (kat_run (Q := fun st' s' => ∃ p : Array Nat, p.size = (katRev bb vs).length ∧ arrOf st' = p.map (kas_item ((katRev bb vs).toArray.zip (katRev bb vs).toArray)) ∧ failedOf st' = none ∧
      ∃ tk, s' = { s with heap := h6, toks := tk } ∧ p.toList.Perm (List.range (katRev bb vs).length) ∧ p.toList.Pairwise (prec ans))
    rfl (by rw [hlr]; exact h2) (by rw [hlr]; exact h64) (fun p' st' s' a1 a2 a3 a4 => ⟨p', a1, a2, a3, a4⟩) ask) ?_ fun _ _ e => e)
  rintro ⟨⟨⟩, st'⟩ s' ⟨p, hp, har, hf, tk, rfl, hperm, hpw⟩
  dsimp only
  have hout := kat_snds rfl har
  generalize hus : p.toList.map (fun i => (katRev bb vs).getD i Value.none) = out at hout
  have hop : out.Perm (katRev bb vs) := by
    rw [← hus]
    have := hperm.map (fun i => (katRev bb vs).getD i Value.none)
    rwa [map_getD] at this
  have hopw : out.Pairwise (fun x y => ilt (dec y) (dec x) = false) := by
    rw [← hus, List.pairwise_map]
    exact hpw.imp fun h => h.notlt So
  rw [hout, kat_outs]
  refine wpAny_bind (seqEpoch_at ho6 rfl ?_)
  have hlo : (katRev bb out).length = vs.length := by rw [kat_len, hop.length_eq, hlr]
  refine wpAny_bind (listUpdate_at ho6 rfl ?_ (Nat.zero_le _) (by rw [List.size_toArray, hlo, sizeLine_eq]; omega))
  rw [hf]
  simp only [bne_self_eq_false, Bool.false_eq_true, if_false]
  obtain ⟨c2, hc2⟩ : ∃ c2, (h6.update l (Obj.mapSeq fun _ => List.toArray (katRev bb out))).get? l = some (seqObj "list" (List.toArray (katRev bb out)) c2) := ⟨_, get?_update_seq ho6 fun _ => List.toArray (katRev bb out)⟩
  have s2 : Heap.SameBut l h6 (h6.update l (Obj.mapSeq fun _ => List.toArray (katRev bb out))) := Heap.SameBut.update ..
  refine wpAny_pure (k _ _ tk (kk _ (katRev bb out) ⟨c2, hc2⟩ ?_ ?_ fun b o hb e => s2.extBut b o hb (x6 b o hb e)))
  · exact (katRev_perm bb out).trans (hop.trans (katRev_perm bb vs))
  · refine (katRev_pw bb hopw).imp fun {x y} hxy => ?_
    cases bb
    · simpa [pr] using hxy
    · simpa [pr] using hxy
theorem Rn.sortT {κ : Nat} {l : Addr} {vs : List Value} {P : Value → Heap → Prop} (H : Lst h l vs) (dec : Value → Item) (hv : ∀ v ∈ vs, TupK h κ v (dec v)) (h2 : 2 ≤ vs.length) (h64 : vs.length < 64)
    (kk : ∀ h' us, Lst h' l us → us.Perm vs → us.Pairwise (fun x y => pr false (dec y) (dec x) = false) → Heap.ExtBut l h h' → P .none h') : Rn prog w A h (call (.builtin "list.sort") [.ref l]) P := by
  refine Rn.of fun s Q E es k => ?_
  subst es
  refine wpAny_call_entry PyProof.Rows.slot_list_sort H.isList.typeIs PyProof.Rows.entry_list_sort ?_ (args_list_sort _)
  rw [sort_plain_rev]
  exact Rn.use (Rn.sortTree (P := fun f h' => f = .done (.ret .none) ∧ P .none h') H dec hv h2 h64 fun h' us a1 a2 a3 a4 => ⟨rfl, kk h' us a1 a2 a3 a4⟩) fun f h' tk q => ⟨_, q.1, k _ h' tk q.2⟩
theorem Rn.sortTR {κ : Nat} {l : Addr} {vs : List Value} {P : Value → Heap → Prop} {bb : Bool} (H : Lst h l vs) (dec : Value → Item) (hv : ∀ v ∈ vs, TupK h κ v (dec v)) (h2 : 2 ≤ vs.length) (h64 : vs.length < 64)
    (kk : ∀ h' us, Lst h' l us → us.Perm vs → us.Pairwise (fun x y => pr bb (dec y) (dec x) = false) → Heap.ExtBut l h h' → P .none h') : Rn prog w A h (call (.builtin "list.sort") [.ref l] [(Str.ofString "reverse", .bool bb)]) P := by
  refine Rn.of fun s Q E es k => ?_
  subst es
  refine wpAny_call_entry_kw PyProof.Rows.slot_list_sort H.isList.typeIs PyProof.Rows.entry_list_sort ?_ (args_list_sort_rev _ _)
  exact Rn.use (Rn.sortTree (P := fun f h' => f = .done (.ret .none) ∧ P .none h') H dec hv h2 h64 fun h' us a1 a2 a3 a4 => ⟨rfl, kk h' us a1 a2 a3 a4⟩) fun f h' tk q => ⟨_, q.1, k _ h' tk q.2⟩
end
end
section
set_option maxRecDepth 100000
set_option autoImplicit false
set_option linter.unusedVariables false
/-- the values are these ints -/
def Ints (is : List Int) (vs : List Value) : Prop := vs.length = is.length ∧ ∀ (i : Nat) v, vs[i]? = some v → IsI (is.getD i 0) v
theorem Ints.at {is : List Int} {vs : List Value} (H : Ints is vs) {i : Nat} (hi : i < vs.length) : IsI (is.getD i 0) (vs.getD i .none) := H.2 i _ (getD_lt hi)
theorem Ints.pick {is : List Int} {vs : List Value} (H : Ints is vs) {p : List Nat} (hp : ∀ i ∈ p, i < vs.length) : Ints (p.map fun i => is.getD i 0) (p.map fun i => vs.getD i .none) := by
  refine ⟨by simp, fun i v e => ?_⟩
  rw [List.getElem?_map] at e
  cases q : p[i]? with
  | none => rw [q] at e; cases e
  | some j =>
    rw [q] at e
    cases e
    rw [List.getD_eq_getElem?_getD, List.getElem?_map, q]
    exact H.at (hp j (List.mem_of_getElem? q))
theorem Ints.rev {is : List Int} {vs : List Value} (H : Ints is vs) : Ints is.reverse vs.reverse := by
  refine ⟨by simp [H.1], fun i v e => ?_⟩
  have hi : i < vs.length := by have := (List.getElem?_eq_some_iff.mp e).1; simpa using this
  rw [List.getElem?_reverse hi] at e
  rw [List.getD_eq_getElem?_getD, List.getElem?_reverse (by rw [← H.1]; exact hi), ← H.1, ← List.getD_eq_getElem?_getD]
  exact H.2 _ _ e
theorem Ints.take {is : List Int} {vs : List Value} (H : Ints is vs) (n : Nat) : Ints (is.take n) (vs.take n) := by
  refine ⟨by simp [H.1], fun i v e => ?_⟩
  have hi := (List.getElem?_eq_some_iff.mp e).1
  have hi : i < n := by simp at hi; omega
  rw [List.getElem?_take_of_lt hi] at e
  rw [List.getD_eq_getElem?_getD, List.getElem?_take_of_lt hi, ← List.getD_eq_getElem?_getD]
  exact H.2 _ _ e
theorem Ints.app {is js : List Int} {vs us : List Value} (H : Ints is vs) (H' : Ints js us) : Ints (is ++ js) (vs ++ us) := by
  refine ⟨by simp [H.1, H'.1], fun i v e => ?_⟩
  by_cases hi : i < vs.length
  · rw [List.getElem?_append_left hi] at e
    rw [List.getD_eq_getElem?_getD, List.getElem?_append_left (by rw [← H.1]; exact hi), ← List.getD_eq_getElem?_getD]
    exact H.2 _ _ e
  · rw [List.getElem?_append_right (by omega)] at e
    rw [List.getD_eq_getElem?_getD, List.getElem?_append_right (by rw [← H.1]; omega), ← List.getD_eq_getElem?_getD, ← H.1]
    exact H'.2 _ _ e
theorem Ints.katRev {is : List Int} {vs : List Value} (bb : Bool) (H : Ints is vs) : Ints (katRev bb is) (katRev bb vs) := by
  cases bb
  · exact H
  · exact H.rev
theorem at_ltV {u c : List Value} {i : Nat} {d : Value} (hu : i < u.length) : (u ++ c).getD i d = u.getD i d := by
  rw [List.getD_eq_getElem?_getD, List.getElem?_append_left hu, List.getD_eq_getElem?_getD]
/-- what lies at f gives an int's key -/
def KeyF (prog : Program) (w : World) (b : Heap) (f : Addr) (κ : Nat) (kf : Int → List Nat) : Prop :=
  (∃ n dV, FnAt b f n dV) ∧ ∀ (A : Around) (h : Heap) (m : Int) (t : Tok), Ok 6 A → Kp b h → Rn prog w A h (call (.ref f) [.int m t]) (fun v h' => IsK κ (kf m) v ∧ Kp h h')
section
variable {prog : Program} {w : World} {A : Around} {h b : Heap} {env : Env}
theorem Rn.forUnit {P : PUnit → Heap → Prop} {body : Value → PUnit → Sem (ForInStep PUnit)} (xs : List Value) (I : List Value → Heap → Prop)
    (step : ∀ done x rest h, xs = done ++ x :: rest → I done h → Rn prog w A h (body x ⟨⟩) (fun r h' => r = .yield ⟨⟩ ∧ I (done ++ [x]) h')) (kk : ∀ h', I xs h' → P ⟨⟩ h') :
    ∀ (rest done : List Value) (h : Heap), xs = done ++ rest → I done h → Rn prog w A h (forIn rest PUnit.unit body) P
  | [], done, h, e, H => Rn.eq List.forIn_nil (Rn.pure (kk h (by rw [e, List.append_nil]; exact H)))
  | x :: rest, done, h, e, H => by
    refine Rn.eq (List.forIn_cons ..) (Rn.bind ((step done x rest h e H).mono ?_))
    rintro r h' ⟨rfl, H'⟩
    exact Rn.forUnit xs I step kk rest (done ++ [x]) h' (by rw [e]; simp) H'
theorem Rn.keyTree {κ : Nat} {kf : Int → List Nat} {l f : Addr} {vs : List Value} {is : List Int} {bb : Bool} {P : PySem.Fin → Heap → Prop} (hA : Ok 6 A) (K : Kp b h) (F : KeyF prog w b f κ kf) (hbl : b.get? l = none) (H : Lst h l vs) (hi : Ints is vs)
    (h2 : 2 ≤ vs.length) (h64 : vs.length < 64)
    (kk : ∀ h' us, Lst h' l us → Ints (isort (cK bb kf) is) us → Heap.ExtBut l h h' → P (.done (.ret .none)) h') :
    Rn prog w A h (ksk_tree l (.ref f) bb) P := by
  refine Rn.of fun s Q E es k => ?_
  subst es
  obtain ⟨n, ho⟩ := id H
  have ho : s.heap.get? l = some (seqObj "list" vs.toArray n) := ho
  have ha : l < s.heap.objs.size := Heap.lt_size ho
  unfold ksk_tree
  refine wpAny_bind (listItems_at ho rfl ?_)
  refine wpAny_bind (listUpdate_at ho rfl ?_ (by rw [List.size_toArray, sizeLine_eq]; omega) (Nat.zero_le _))
  obtain ⟨e1, ho1⟩ : ∃ e1, (s.heap.update l (Obj.mapSeq fun _ => #[])).get? l = some (seqObj "list" #[] e1) := ⟨_, get?_update_seq ho (fun _ => #[])⟩
  refine wpAny_bind (seqEpoch_at ho1 rfl ?_)
  refine wpAny_bind (wpAny_newTuple ?_ (by show vs.length ≤ _; rw [sizeLine_eq]; omega))
  refine wpAny_bind (wpAny_newList ?_ (Nat.zero_le _))
  refine wpAny_holding ?_
  have s1 : Heap.SameBut l s.heap (s.heap.update l (Obj.mapSeq fun _ => (#[] : Array Value))) := Heap.SameBut.update ..
  have ho6 : (((s.heap.update l (Obj.mapSeq fun _ => #[])).push (seqObj "tuple" vs.toArray 0)).push (seqObj "list" #[] 0)).get? l = some (seqObj "list" #[] e1) := Heap.get?_push_of_some _ (Heap.get?_push_of_some _ ho1)
  have x6 : Heap.ExtBut l s.heap (((s.heap.update l (Obj.mapSeq fun _ => #[])).push (seqObj "tuple" vs.toArray 0)).push (seqObj "list" #[] 0)) := fun b o hb e => Heap.get?_push_of_some _ (Heap.get?_push_of_some _ (s1.extBut b o hb e))
  have hk6 : (((s.heap.update l (Obj.mapSeq fun _ => #[])).push (seqObj "tuple" vs.toArray 0)).push (seqObj "list" #[] 0)).get? ((s.heap.update l (Obj.mapSeq fun _ => #[])).push (seqObj "tuple" vs.toArray 0)).objs.size = some (seqObj "list" #[] 0) := Heap.get?_push_size _ rfl
  have hkS : s.heap.objs.size ≤ ((s.heap.update l (Obj.mapSeq fun _ => (#[] : Array Value))).push (seqObj "tuple" vs.toArray 0)).objs.size := by rw [size_push', Heap.size_update]; exact Nat.le_succ _
  show wpAny (model prog w) A (ksk_rest l (.ref f) bb vs.toArray e1 (.ref ((s.heap.update l (Obj.mapSeq fun _ => (#[] : Array Value))).push (seqObj "tuple" vs.toArray 0)).objs.size)) Q E { s with heap := ((s.heap.update l (Obj.mapSeq fun _ => #[])).push (seqObj "tuple" vs.toArray 0)).push (seqObj "list" #[] 0) }
  generalize ((s.heap.update l (Obj.mapSeq fun _ => (#[] : Array Value))).push (seqObj "tuple" vs.toArray 0)).objs.size = kS at hk6 hkS
  generalize ((s.heap.update l (Obj.mapSeq fun _ => #[])).push (seqObj "tuple" vs.toArray 0)).push (seqObj "list" #[] 0) = h6 at ho6 x6 hk6
  have hlk : l ≠ kS := Nat.ne_of_lt (Nat.lt_of_lt_of_le ha hkS)
  have K6 : Kp b h6 := K.ext x6 hbl
  have hbk : b.get? kS = none := by
    cases e : b.get? kS with
    | none => rfl
    | some o => exact absurd (Heap.lt_size (K _ _ e)) (Nat.not_lt.mpr hkS)
  refine Rn.use (s := { s with heap := h6 }) (P := fun fin h' => fin = .done (.ret .none) ∧ P fin h') ?_ fun fin h' tk q => k _ h' tk q.2
  unfold ksk_rest
  refine Rn.bind (Rn.rule ?_)
  refine Rn.bind ?_
  first
    | rw [List.forIn_toArray]
    | (rw [← Array.forIn_toList]; simp only [List.toList_toArray])
    | rw [← Array.forIn_toList]
  refine Rn.forUnit vs (fun done h' => ∃ (ks : List Value) (c : Nat), h'.get? kS = some (seqObj "list" ks.toArray c) ∧ ks.length = done.length ∧ (∀ i, i < ks.length → IsK κ (kf (is.getD i 0)) (ks.getD i .none)) ∧ (∀ a o, a ≠ kS → h6.get? a = some o → h'.get? a = some o))
    ?_ ?_ vs [] h6 rfl ⟨[], 0, hk6, rfl, fun i hi => by simp at hi, fun a o _ e => e⟩
  · rintro done x rest h7 hvs ⟨ks, c, hks, hlen, hkk, hkeep⟩
    have hx : vs[done.length]? = some x := by rw [hvs, List.getElem?_append_right (Nat.le_refl _)]; simp
    have hdl : done.length < vs.length := (List.getElem?_eq_some_iff.mp hx).1
    obtain ⟨t, rfl⟩ := hi.2 _ _ hx
    have K7 : Kp b h7 := fun a o e => hkeep a o (fun q => by subst q; rw [hbk] at e; cases e) (K6 a o e)
    refine Rn.bind (Rn.attempt ((F.2 A h7 _ t hA K7).mono ?_))
    rintro v h8 ⟨hv, k8⟩
    refine Rn.bind ?_
    refine Rn.of fun s Q E es k => ?_
    subst es
    have hks8 := k8 _ _ hks
    have ea : ks.toArray.push v = (ks ++ [v]).toArray := by simp
    obtain ⟨c2, hc2⟩ : ∃ c2, (s.heap.update kS (Obj.mapSeq (·.push v))).get? kS = some (seqObj "list" (ks ++ [v]).toArray c2) := ⟨_, by rw [← ea]; exact get?_update_seq hks8 (·.push v)⟩
    have s2 : Heap.SameBut kS s.heap (s.heap.update kS (Obj.mapSeq (·.push v))) := Heap.SameBut.update ..
    refine listUpdate_at hks8 rfl (k _ _ s.toks (Rn.pure ⟨rfl, ks ++ [v], c2, hc2, by simp [hlen], fun i hi => ?_, fun a o ha e => s2.extBut a o ha (k8 a o (hkeep a o ha e))⟩)) (by rw [List.size_toArray, sizeLine_eq]; omega) (Nat.le_trans (Nat.le_of_eq (Array.size_push ..)) (by rw [List.size_toArray, sizeLine_eq]; omega))
    by_cases q : i < ks.length
    · rw [at_ltV q]; exact hkk i q
    · have : i = done.length := by simp at hi; omega
      subst this
      have e : (ks ++ [v]).getD done.length Value.none = v := by rw [List.getD_eq_getElem?_getD, List.getElem?_append_right (by omega), hlen]; simp
      rw [e]; exact hv
  · rintro h7 ⟨ks, c, hks, hlen, hkk, hkeep⟩
    have hl7 : h7.get? l = some (seqObj "list" #[] e1) := hkeep _ _ hlk ho6
    refine Rn.bind (Rn.of fun s Q E es k => ?_)
    subst es
    refine listItems_at hks rfl (k _ _ s.toks ?_)
    clear k
    unfold ksk_end
    try dsimp only
    have step : ∀ t : Sem PySem.Fin, ∀ P', Rn prog w A s.heap t P' → Rn prog w A s.heap (if bb = true then (do let _ ← PySem.rule "list.sort.reverse"; t) else t) P' := by
      intro t P' ht
      split
      · exact Rn.bind (Rn.rule ht)
      · exact ht
    refine step _ _ ?_
    have hn2 : ¬ vs.toArray.size < 2 := by rw [List.size_toArray]; omega
    rw [if_neg hn2, if_neg hn2]
    have nek := kTy_ne κ
    have hkl : ∀ v ∈ ks, ∃ k, IsK κ k v := fun v hv => by
      obtain ⟨i, hi, rfl⟩ := List.getElem_of_mem hv
      have := hkk i hi
      have e : ks.getD i Value.none = ks[i] := by rw [List.getD_eq_getElem?_getD, List.getElem?_eq_getElem hi]; rfl
      rw [e] at this
      exact ⟨_, this⟩
    refine Rn.bind (Rn.of fun s1 Q E es1 k => ?_)
    refine kas_kind (T := kTy κ) (by omega) (fun v hv => let ⟨k, hk⟩ := hkl v hv; hk.looks) nek.1 nek.2 ?_
    have := k oneType' s1.heap s1.toks
    refine this ?_
    clear this k
    rw [es1]
    rw [kat_pairs bb (by rw [hlen])]
    have hlr : (katRev bb ks).length = (katRev bb vs).length := by rw [kat_len, kat_len, hlen]
    have hlv : (katRev bb vs).length = vs.length := kat_len bb vs
    let ans : Nat → Nat → Bool := onP (cK false kf) (katRev bb is)
    have So : SO ans := onP_so (cK_so false kf) _
    have hiR := hi.katRev bb
    have hkR : ∀ i, i < vs.length → IsK κ (kf ((katRev bb is).getD i 0)) ((katRev bb ks).getD i .none) := fun i hi' => by
      cases bb
      · exact hkk i (by omega)
      · show IsK κ (kf (is.reverse.getD i 0)) (ks.reverse.getD i .none)
        have hil := hi.1
        rw [List.getD_eq_getElem?_getD, List.getElem?_reverse (by omega), List.getD_eq_getElem?_getD, List.getElem?_reverse (by omega), ← List.getD_eq_getElem?_getD, ← List.getD_eq_getElem?_getD, ← hil, ← hlen]
        exact hkk _ (by omega)
    refine Rn.bind (Rn.of fun s' Q E es k => ?_)
    have ask : (kas_sort (katRev bb vs).length).kasWp (kas_ask prog w A oneType' (katRev bb ks)) (fun p s'' => ∃ tk, s'' = { s' with toks := tk } ∧ p.toList.Perm (List.range (katRev bb vs).length) ∧ p.toList.Pairwise (prec ans)) s' := by
      refine kasWp_of (h := s'.heap) (g := s'.gens) (d := s'.drawn) (os := s'.os) (n := (katRev bb vs).length) (ans := ans) (Q := fun p => p.toList.Perm (List.range (katRev bb vs).length) ∧ p.toList.Pairwise (prec ans)) (fun i j C tk hi hj hC => ?_) (fun a tk q => ⟨tk, rfl, q⟩) _ s'.toks (sort_ok So (by omega))
      unfold kas_ask
      rw [keyLt'_oneType]
      refine Rn.use (s := { s' with toks := tk }) (Pv.oneK true (hkR i (by omega)) (hkR j (by omega))) ?_
      rintro a h' tk' ⟨rfl, rfl⟩
      exact hC tk'
    refine wpAny_mono (kat_run (Q := fun st' s'' => ∃ p : Array Nat, p.size = (katRev bb vs).length ∧ arrOf st' = p.map (kas_item ((katRev bb ks).toArray.zip (katRev bb vs).toArray)) ∧ failedOf st' = none ∧
        ∃ tk, s'' = { s' with toks := tk } ∧ p.toList.Perm (List.range (katRev bb vs).length) ∧ p.toList.Pairwise (prec ans))
      hlr (by omega) (by omega) (fun p' st' s' a1 a2 a3 a4 => ⟨p', a1, a2, a3, a4⟩) ask) ?_ fun _ _ e => e
    rintro ⟨⟨⟩, st'⟩ s'' ⟨p, hp, har, hf, tk, rfl, hperm, hpw⟩
    refine k _ s'.heap tk ?_
    rw [es]
    clear k
    dsimp only
    have hout := kat_snds hlr har
    have hpl : p.toList = isort ans (List.range (katRev bb is).length) := isort_of So (by rw [← hiR.1]; exact hperm) hpw
    have hII : Ints (isort (cK false kf) (katRev bb is)) (p.toList.map (fun i => (katRev bb vs).getD i Value.none)) := by
      rw [← isort_places (cK false kf) (katRev bb is), ← hpl]
      exact hiR.pick fun i hi => List.mem_range.mp (hperm.mem_iff.mp hi)
    generalize hus : p.toList.map (fun i => (katRev bb vs).getD i Value.none) = out at hout hII
    have hfin : Ints (isort (cK bb kf) is) (katRev bb out) := by
      cases bb
      · exact hII
      · have e : isort (cK true kf) is = (isort (cK false kf) is.reverse).reverse := by
          have := isort_rev (c := cK true kf) (cK_so true kf) is
          rw [cK_flp] at this
          rw [show cK false kf = cK (!true) kf from rfl, this, List.reverse_reverse]
        rw [e]
        exact hII.rev
    refine Rn.of fun s3 Q E es3 k => ?_
    unfold ksk_tail
    try dsimp only
    have hlo : (katRev bb out).length = vs.length := by rw [hfin.1, isort_len, hi.1]
    have hks3 : s3.heap.get? kS = some (seqObj "list" ks.toArray c) := by rw [es3]; exact hks
    have hl3 : s3.heap.get? l = some (seqObj "list" #[] e1) := by rw [es3]; exact hl7
    rw [hout, kat_outs]
    refine wpAny_bind (listUpdate_at hks3 rfl ?_ (by rw [List.size_toArray, sizeLine_eq]; omega) (Nat.zero_le _))
    refine wpAny_bind (wpAny_letGo ?_)
    have s4 : Heap.SameBut kS s3.heap (s3.heap.update kS (Obj.mapSeq fun _ => (#[] : Array Value))) := Heap.SameBut.update ..
    have hl4 : (s3.heap.update kS (Obj.mapSeq fun _ => (#[] : Array Value))).get? l = some (seqObj "list" #[] e1) := s4.extBut _ _ hlk hl3
    refine wpAny_bind (seqEpoch_at hl4 rfl ?_)
    refine wpAny_bind (listUpdate_at hl4 rfl ?_ (Nat.zero_le _) (by rw [List.size_toArray, hlo, sizeLine_eq]; omega))
    rw [hf]
    simp only [bne_self_eq_false, Bool.false_eq_true, if_false]
    obtain ⟨c2, hc2⟩ : ∃ c2, ((s3.heap.update kS (Obj.mapSeq fun _ => (#[] : Array Value))).update l (Obj.mapSeq fun _ => List.toArray (katRev bb out))).get? l = some (seqObj "list" (List.toArray (katRev bb out)) c2) := ⟨_, get?_update_seq hl4 fun _ => List.toArray (katRev bb out)⟩
    have s5 : Heap.SameBut l (s3.heap.update kS (Obj.mapSeq fun _ => (#[] : Array Value))) ((s3.heap.update kS (Obj.mapSeq fun _ => (#[] : Array Value))).update l (Obj.mapSeq fun _ => List.toArray (katRev bb out))) := Heap.SameBut.update ..
    refine wpAny_pure (k _ _ s3.toks ⟨rfl, kk _ (katRev bb out) ⟨c2, hc2⟩ hfin fun a o hb e => ?_⟩)
    have hak : a ≠ kS := fun q => by
      subst q
      exact absurd (Heap.lt_size e) (Nat.not_lt.mpr hkS)
    exact s5.extBut a o hb (s4.extBut a o hak (by rw [es3]; exact hkeep a o hak (x6 a o hb e)))
theorem Rn.sortedK {κ : Nat} {kf : Int → List Nat} {l f : Addr} {vs : List Value} {is : List Int} {bb : Bool} {kw : List (Str × Value)} {P : Value → Heap → Prop} (hA : Ok 8 A) (K : Kp b h) (F : KeyF prog w b f κ kf) (H : Lst h l vs) (hi : Ints is vs)
    (h2 : 2 ≤ vs.length) (h64 : vs.length < 64)
    (ha1 : argsOk "sorted" ⟨[.ref l], kw⟩) (ha2 : ∀ x, argsOk "list.sort" ⟨[.ref x], kw⟩) (ht : ∀ x, Builtin.«list.sort» ⟨[.ref x], kw⟩ = ksk_tree x (.ref f) bb)
    (kk : ∀ D h' us, h.get? D = none → Lst h' D us → Ints (isort (cK bb kf) is) us → Kp h h' → P (.ref D) h') :
    Rn prog w A h (call (.builtin "sorted") [.ref l] kw) P := by
  refine Rn.of fun s Q E es k => ?_
  subst es
  refine call_function_entry_kw kind_sorted plain_sorted entry_sorted ha1 ?_
  unfold Builtin.«sorted»
  refine wpAny_bind (m := checkCount "sorted" 1 1 _) (wpAny_pure ?_)
  refine wpAny_bind (collect_list H.isList ?_ (by rw [sizeLine_eq]; omega))
  refine wpAny_bind (wpAny_newList ?_ (by rw [sizeLine_eq]; omega))
  have hsz : ((s.heap.push (seqObj "list" #[] 0)).update s.heap.objs.size (Obj.mapSeq (· ++ vs.toArray))).objs.size = s.heap.objs.size + 1 := by
    rw [Heap.size_update, size_push']
  have hoL : (((s.heap.push (seqObj "list" #[] 0)).update s.heap.objs.size (Obj.mapSeq (· ++ vs.toArray))).push (seqObj "list" vs.toArray 0)).get? (s.heap.objs.size + 1) = some (seqObj "list" vs.toArray 0) := by
    rw [← hsz]; exact Heap.get?_push_size _ rfl
  have keep : Kp s.heap (((s.heap.push (seqObj "list" #[] 0)).update s.heap.objs.size (Obj.mapSeq (· ++ vs.toArray))).push (seqObj "list" vs.toArray 0)) := fun b o q => by
    have hlt : b < s.heap.objs.size := Heap.lt_size q
    rw [Heap.get?_push_ne _ _ _ (by rw [hsz]; exact Nat.ne_of_lt (Nat.lt_succ_of_lt hlt)), Heap.get?_update_ne _ _ _ _ (Nat.ne_of_lt hlt), Heap.get?_push_ne _ _ _ (Nat.ne_of_lt hlt)]
    exact q
  have fr : s.heap.get? (s.heap.objs.size + 1) = none := by
    cases e : s.heap.get? (s.heap.objs.size + 1) with
    | none => rfl
    | some o => exact absurd (Heap.lt_size e) (Nat.not_lt.mpr (Nat.le_succ _))
  have frb : b.get? (s.heap.objs.size + 1) = none := by
    cases e : b.get? (s.heap.objs.size + 1) with
    | none => rfl
    | some o => rw [K _ _ e] at fr; cases fr
  show wpAny _ _ _ _ _ { s with heap := ((s.heap.push (seqObj "list" #[] 0)).update s.heap.objs.size (Obj.mapSeq (· ++ vs.toArray))).push (seqObj "list" vs.toArray 0) }
  rw [hsz]
  refine wpAny_bind (wpAny_holding (wpAny_call_entry_kw PyProof.Rows.slot_list_sort ⟨_, hoL, rfl⟩ PyProof.Rows.entry_list_sort ?_ (ha2 _)))
  show wpAny (model prog w) A.in1.in1 (Builtin.«list.sort» ⟨[.ref (s.heap.objs.size + 1)], kw⟩) _ _ _
  rw [ht]
  refine Rn.use (s := { s with heap := ((s.heap.push (seqObj "list" #[] 0)).update s.heap.objs.size (Obj.mapSeq (· ++ vs.toArray))).push (seqObj "list" vs.toArray 0) })
    (Rn.keyTree (P := fun fin h' => fin = .done (.ret .none) ∧ P (.ref (s.heap.objs.size + 1)) h') hA.in1.in1 (K.trans keep) F frb ⟨0, hoL⟩ hi h2 h64 fun h' us a1 a2 a3 => ⟨rfl, kk _ h' us fr a1 a2 fun a o e => a3 a o (fun q => by subst q; rw [fr] at e; cases e) (keep a o e)⟩) ?_
  rintro fin h' tk ⟨rfl, q⟩
  exact ⟨_, rfl, wpAny_pure ⟨_, rfl, k _ h' tk q⟩⟩
end
end
section
set_option maxRecDepth 100000
set_option autoImplicit false
set_option linter.unusedVariables false
section
variable {prog : Program} {w : World} {A : Around} {h b : Heap} {env : Env}
theorem RnC.blt {id : String} {B : Builtin} {args : Args} {P : Flow → Heap → Prop} (hb : entryFor table id = some B) (hp : plainId id = true)
    (R : Rn prog w A.in1 h (B args) (fun fin h' => match fin with | .done f => P f h' | .again c' => c'.quiet = true ∧ RnC prog w A h' c' P)) : RnC prog w A h (.builtin id args) P := by
  intro g d tk os
  refine codeAny_builtin hb ?_
  rw [Around.under_plainId hp _]
  refine wpAny_mono (R g d tk os) (fun fin s' q => ?_) (fun _ _ f => f.elim)
  obtain ⟨h', tk', rfl, q⟩ := q
  cases fin with
  | done f => exact ⟨f, h', tk', rfl, rfl, q⟩
  | again c' => exact ⟨q.1, q.2 g d tk' os⟩
theorem Rn.callFn {id : String} {B : Builtin} {args : List Value} {kw : List (Str × Value)} {P : Value → Heap → Prop} (hk : builtinKind id = none) (hp : plainId id = true) (hb : entryFor table id = some B) (ha : argsOk id ⟨args, kw⟩)
    (R : Rn prog w A.in1 h (B ⟨args, kw⟩) (fun fin h' => match fin with | .done f => ∃ v, f = .ret v ∧ P v h' | .again c' => c'.quiet = true ∧ RnC prog w A h' c' (fun f h'' => ∃ v, f = .ret v ∧ P v h''))) :
    Rn prog w A h (call (.builtin id) args kw) P := by
  refine Rn.of fun s Q E es k => ?_
  subst es
  refine kmk_tree hk hp hb ha (R.use fun fin h' tk q => ?_)
  cases fin with
  | done f => obtain ⟨v, rfl, q⟩ := q; exact k _ h' tk q
  | again c' =>
    refine ⟨q.1, codeAny_mono (q.2 s.gens s.drawn tk s.os) fun r s' hr => ?_⟩
    obtain ⟨f, h2, tk2, rfl, rfl, v, rfl, q⟩ := hr
    exact k _ h2 tk2 q
theorem Rn.seqIt {l : Addr} {o : Obj} {xs : Array Value} {n : Nat} {P : Option (Array Value) → Heap → Prop} (ho : h.get? l = some o) (hd : o.data = .seq xs n) (H : P (some xs) h) : Rn prog w A h (seqItems? (.ref l)) P :=
  Rn.of fun s Q E e k => by subst e; exact wpAny_seqItems ho hd (k _ _ s.toks H)
theorem Rn.letGo {vs us : List Value} {P : Unit → Heap → Prop} (H : P () h) : Rn prog w A h (PySem.letGo vs us) P :=
  Rn.of fun s Q E e k => by subst e; exact wpAny_letGo (k _ _ s.toks H)
theorem Rn.updSeq {l : Addr} {xs : Array Value} {n : Nat} {g : Array Value → Array Value} {P : Unit → Heap → Prop} (ho : h.get? l = some (seqObj "list" xs n)) (h1 : xs.size < 64) (h2 : (g xs).size < 64)
    (k : ∀ h' c, h'.get? l = some (seqObj "list" (g xs) c) → Heap.SameBut l h h' → P () h') : Rn prog w A h (updateSeq l g) P :=
  Rn.of fun s Q E e kk => by
    subst e
    exact wpAny_updateSeq ho rfl (kk _ _ s.toks (k _ _ (get?_update_seq ho g) (Heap.SameBut.update ..))) (by rw [sizeLine_eq]; omega) (by rw [sizeLine_eq]; omega)
theorem Pv.gtK {κ : Nat} {k k' : List Nat} {v v' : Value} (H : IsK κ k v) (H' : IsK κ k' v') : Pv prog w A h (compareOp .Gt v v') (· = .bool (decide (k' < k))) := by
  unfold IsK at H H'
  split at H
  · obtain ⟨c, rfl, rfl⟩ := H
    obtain ⟨c', rfl, rfl⟩ := H'
    refine Rn.of fun s _ _ e kk => ?_
    subst e
    refine gt_bool (kk _ _ s.toks ⟨rfl, ?_⟩)
    cases c <;> cases c' <;> rfl
  · obtain ⟨n, t, rfl, rfl⟩ := H
    obtain ⟨n', t', rfl, rfl⟩ := H'
    refine Pv.gtI.mono fun a e => ?_
    rw [e]
    have : decide ((n : Int) > (n' : Int)) = decide ([n'] < [n]) := by
      rw [decide_eq_decide, List.cons_lt_cons_iff]
      constructor
      · intro q; exact .inl (Int.ofNat_lt.mp q)
      · rintro (q | ⟨_, q⟩)
        · exact Int.ofNat_lt.mpr q
        · exact absurd q (List.lt_irrefl _)
    rw [this]
  · obtain ⟨x, t, rfl, rfl⟩ := H
    rename_i h1 h2
    have H' : ∃ (x : Str) (t : Tok), v' = .str x t ∧ k' = x.cps.toList := by
      split at H'
      · exact absurd rfl h1
      · exact absurd rfl h2
      · exact H'
    obtain ⟨x', t', rfl, rfl⟩ := H'
    refine Rn.of fun s _ _ e kk => ?_
    subst e
    exact PySem.P.gt_str (kk _ _ s.toks ⟨rfl, rfl⟩)
/-- the best of the first j -/
def Best (fl : Bool) (kf : Int → List Nat) (is : List Int) (i j : Nat) : Prop := i < j ∧ ∀ j', j' < j → j' ≠ i → prec (onP (cK fl kf) is) i j'
theorem Best.fin {fl : Bool} {kf : Int → List Nat} {is : List Int} {i : Nat} (H : Best fl kf is i is.length) : (isort (cK fl kf) is).take 1 = [is.getD i 0] := by
  have S : Sel (onP (cK fl kf) is) is.length 1 [i] := ⟨List.nodup_cons.mpr ⟨by simp, List.nodup_nil⟩, rfl, fun x hx => by rw [List.mem_singleton.mp hx]; exact H.1, fun x hx j hj hn => by
    rw [List.mem_singleton.mp hx]
    exact H.2 j hj fun q => hn (by rw [q]; exact .head _)⟩
  have e := S.take (onP_so (cK_so fl kf) is) (List.pairwise_singleton ..)
  rw [← isort_places, ← List.map_take, ← e]
  rfl
theorem Best.step {fl : Bool} {kf : Int → List Nat} {is : List Int} {i j : Nat} (H : Best fl kf is i j) :
    (kc fl (kf (is.getD j 0)) (kf (is.getD i 0)) = true → Best fl kf is j (j + 1)) ∧ (kc fl (kf (is.getD j 0)) (kf (is.getD i 0)) = false → Best fl kf is i (j + 1)) := by
  have S := onP_so (cK_so fl kf) is
  constructor
  · intro h
    have hji : prec (onP (cK fl kf) is) j i := .inl h
    refine ⟨Nat.lt_succ_self _, fun j' hj hne => ?_⟩
    have hj' : j' < j := by omega
    by_cases q : j' = i
    · rw [q]; exact hji
    · exact prec_trans S hji (H.2 j' hj' q)
  · intro h
    refine ⟨Nat.lt_succ_of_lt H.1, fun j' hj hne => ?_⟩
    by_cases q : j' = j
    · rw [q]; exact .inr ⟨h, H.1⟩
    · exact H.2 j' (by omega) hne
theorem min_args (a v u : Value) : argsOk "min" ⟨[a], [(Str.ofString "default", v), (Str.ofString "key", u)]⟩ := by unfold argsOk; kernel_rfl
theorem RnC.minLoop {κ : Nat} {kf : Int → List Nat} {I q S l : Addr} {is : List Int} {d : Value} {h₀ : Heap} {P : Value → Heap → Prop} (hA : Ok 8 A) (F : KeyF prog w b q κ kf) (hbI : b.get? I = none) (hbS : b.get? S = none) (hSI : S ≠ I) (hlS : l ≠ S) (K₀ : Kp b h₀)
    (kk : ∀ h' v i, Best false kf is i is.length → IsI (is.getD i 0) v → (∀ a o, a ≠ I → a ≠ S → h₀.get? a = some o → h'.get? a = some o) → P v h') :
    ∀ (ys : List Value) (h : Heap) (i : Nat) (vb kb : Value) (c : Nat), (∀ (j : Nat) v, ys[j]? = some v → IsI (is.getD (is.length - ys.length + j) 0) v) → ys.length ≤ is.length → SrcL h I l ys → h.get? S = some (seqObj "list" #[vb, kb] c) → IsI (is.getD i 0) vb → IsK κ (kf (is.getD i 0)) kb →
      Best false kf is i (is.length - ys.length) → (∀ a o, a ≠ I → a ≠ S → h₀.get? a = some o → h.get? a = some o) →
      RnC prog w A h (.builtin "min.loop" ⟨[.ref I, .ref q, .ref S], [(Str.ofString "default", d)]⟩) (fun f h' => ∃ v, f = .ret v ∧ P v h') := by
  have hname : (toString "min" ++ toString ".loop" : String) = "min.loop" := by decide
  intro ys
  induction ys with
  | nil =>
    intro h i vb kb c hys hle hS hb hv hk hbest hkeep
    refine RnC.blt PySem.F.entry_min_loop PySem.F.plain_min_loop ?_
    show Rn prog w A.in1 h (seqItems? (.ref S) >>= _) _
    refine Rn.bind (Rn.seqIt hb rfl ?_)
    show Rn prog w A.in1 h (tryCatch (pyNext (.ref I)) _ >>= _) _
    refine Rn.bind (Rn.tryCatch (Rn.endSrc (show A.in1.handled = none from hA.1) hS.src fun h₁ x₁ => ?_))
    show Rn prog w A.in1 h₁ (updateSeq S (fun _ => #[]) >>= _) _
    refine Rn.bind (Rn.updSeq (x₁ _ _ hSI hb) (by simp) (by simp) fun h₂ c₂ hS₂ s₂ => ?_)
    refine Rn.bind (Rn.letGo (Rn.pure ⟨vb, rfl, kk h₂ vb i (by simpa using hbest) hv fun a o ha hs e => s₂.extBut a o hs (x₁ a o ha (hkeep a o ha hs e))⟩))
  | cons y ys ih =>
    intro h i vb kb c hys hle hS hb hv hk hbest hkeep
    refine RnC.blt PySem.F.entry_min_loop PySem.F.plain_min_loop ?_
    show Rn prog w A.in1 h (seqItems? (.ref S) >>= _) _
    refine Rn.bind (Rn.seqIt hb rfl ?_)
    show Rn prog w A.in1 h (tryCatch (pyNext (.ref I)) _ >>= _) _
    refine Rn.bind (Rn.tryCatch (Rn.nextSrcL hS fun h₁ S₁ s₁ => ?_))
    have hy := hys 0 y rfl
    have hlen : (y :: ys).length = ys.length + 1 := rfl
    rw [hlen] at hle hbest hy
    obtain ⟨t, rfl⟩ := hy
    have hj : is.length - ys.length = is.length - (ys.length + 1) + 1 := by omega
    rw [Nat.add_zero]
    have hk₁ : ∀ a o, a ≠ I → a ≠ S → h₀.get? a = some o → h₁.get? a = some o := fun a o ha hs e => s₁.extBut a o ha (hkeep a o ha hs e)
    have K₁ : Kp b h₁ := fun a o e => hk₁ a o (fun q => by subst q; rw [hbI] at e; cases e) (fun q => by subst q; rw [hbS] at e; cases e) (K₀ a o e)
    have hb₁ := s₁.extBut _ _ hSI hb
    generalize hm : is.getD (is.length - (ys.length + 1)) 0 = m
    show Rn prog w A.in1 h₁ (tryCatch (holding [.int m t] (call (.ref q) [.int m t])) _ >>= _) _
    refine Rn.bind (Rn.tryCatch (Rn.holding ((F.2 A.in1 h₁ m t (hA.in1.le (by decide)) K₁).mono ?_)))
    rintro kv h₂ ⟨hkv, k₂⟩
    have hb₂ := k₂ _ _ hb₁
    show Rn prog w A.in1 h₂ (tryCatch (holding [.int m t, kv] (richCompare .Lt kv kb >>= _)) _ >>= _) _
    refine Rn.bind (Rn.tryCatch (Rn.holding (Rn.bind (Pv.val (show Pv prog w A.in1 h₂ (richCompare .Lt kv kb) _ from Pv.ltK hkv hk) ?_))))
    refine Rn.bind (Rn.holding (Rn.truthyB (Rn.bind (Rn.letGo (Rn.pure ?_)))))
    have hys' : ∀ (j : Nat) v, ys[j]? = some v → IsI (is.getD (is.length - ys.length + j) 0) v := fun j v e => by
      have := hys (j + 1) v e
      rw [hlen] at this
      rw [hj, show is.length - (ys.length + 1) + 1 + j = is.length - (ys.length + 1) + (j + 1) by omega]
      exact this
    have hkc : kc false (kf (is.getD (is.length - (ys.length + 1)) 0)) (kf (is.getD i 0)) = decide (kf m < kf (is.getD i 0)) := by rw [hm]; rfl
    have st := hbest.step
    rw [hkc, ← hj] at st
    by_cases q : kf m < kf (is.getD i 0)
    · have hd : decide (kf m < kf (is.getD i 0)) = true := decide_eq_true q
      rw [hd]
      rw [if_pos rfl]
      refine Rn.bind (Rn.updSeq hb₂ (by simp) (by simp) fun h₃ c₃ hS₃ s₃ => ?_)
      refine Rn.bind (Rn.letGo ?_)
      rw [hname]
      refine Rn.pure ⟨plainId_quiet PySem.F.plain_min_loop _, ih h₃ (is.length - (ys.length + 1)) (.int m t) kv c₃ hys' (by omega) ((S₁.keeps k₂).ext s₃.extBut hSI.symm hlS) hS₃ ⟨t, by rw [hm]⟩ (by rw [hm]; exact hkv) (st.1 hd) fun a o ha hs e => s₃.extBut a o hs (k₂ a o (hk₁ a o ha hs e))⟩
    · have hd : decide (kf m < kf (is.getD i 0)) = false := decide_eq_false q
      rw [hd]
      rw [if_neg Bool.false_ne_true]
      refine Rn.bind (Rn.letGo ?_)
      rw [hname]
      refine Rn.pure ⟨plainId_quiet PySem.F.plain_min_loop _, ih h₂ i vb kb c hys' (by omega) (S₁.keeps k₂) hb₂ hv hk (st.2 hd) fun a o ha hs e => k₂ a o (hk₁ a o ha hs e)⟩
theorem Rn.minK {κ : Nat} {kf : Int → List Nat} {I q : Addr} {is : List Int} {ys : List Value} {d : Value} {P : Value → Heap → Prop} (hA : Ok 8 A) (F : KeyF prog w b q κ kf) (K : Kp b h) (hbI : b.get? I = none) (hS : Src h I ys) (hi : Ints is ys) (hne : 0 < ys.length)
    (kk : ∀ h' v, Ints ((isort (cK false kf) is).take 1) [v] → Heap.ExtBut I h h' → P v h') : Rn prog w A h (call (.builtin "min") [.ref I] [(Str.ofString "default", d), (Str.ofString "key", .ref q)]) P := by
  have hname : (toString "min" ++ toString ".loop" : String) = "min.loop" := by decide
  obtain ⟨l, us, hSL, hl⟩ := hS.toL
  refine Rn.callFn PySem.F.kind_min PySem.F.plain_min PySem.F.entry_min (min_args _ _ _) ?_
  show Rn prog w A.in1 h (Builtin.Builtins.bindParams "min" ["key", "default"] 0 ⟨[], [(Str.ofString "default", d), (Str.ofString "key", .ref q)]⟩ >>= _) _
  refine Rn.bind (Rn.eq (show Builtin.Builtins.bindParams "min" ["key", "default"] 0 ⟨[], [(Str.ofString "default", d), (Str.ofString "key", .ref q)]⟩ = Pure.pure [some (.ref q), some d] from rfl) (Rn.pure ?_))
  refine Rn.bind (Rn.pure ?_)
  refine Rn.bind (Pv.val (Pv.iterSrc hS) ?_)
  have new : ∀ P : Value → Heap → Prop, (∀ S h', h.get? S = none → (∀ a, a < h.objs.size → a ≠ S) → h'.get? S = some (seqObj "list" #[] 0) → Kp h h' → P (.ref S) h') → Rn prog w A.in1 h (newList []) P := fun P k => Rn.of fun s Q E e k2 => by
    subst e
    exact wpAny_newList (k2 _ _ s.toks (k _ _ (fresh_size _) (fun a ha => Nat.ne_of_lt ha) (Heap.get?_push_size _ rfl) (Kp.push _ _))) (Nat.zero_le _)
  refine Rn.bind (new _ fun S h₁ hSf hlt hS₁ k₁ => ?_)
  rw [hname]
  have hbS : b.get? S = none := by
    cases e : b.get? S with
    | none => rfl
    | some o => rw [K _ _ e] at hSf; cases hSf
  have hSI : S ≠ I := (hlt I hS.lt).symm
  have hlS : l ≠ S := hlt l hl.lt
  refine Rn.pure ⟨plainId_quiet PySem.F.plain_min_loop _, ?_⟩
  match ys, hne with
  | y :: ys, _ =>
  have hlen : is.length = ys.length + 1 := hi.1.symm
  refine RnC.blt PySem.F.entry_min_loop PySem.F.plain_min_loop ?_
  show Rn prog w A.in1 h₁ (seqItems? (.ref S) >>= _) _
  refine Rn.bind (Rn.seqIt hS₁ rfl ?_)
  show Rn prog w A.in1 h₁ (MonadExcept.tryCatch (pyNext (.ref I)) _ >>= _) _
  refine Rn.bind (Rn.tryCatch (Rn.nextSrcL (hSL.keeps k₁) fun h₂ S₂ s₂ => ?_))
  obtain ⟨t, rfl⟩ := hi.2 0 _ rfl
  have K₂ : Kp b h₂ := fun a o e => s₂.extBut a o (fun q => by subst q; rw [hbI] at e; cases e) (k₁ a o (K a o e))
  show Rn prog w A.in1 h₂ (MonadExcept.tryCatch (PySem.holding [.int (is.getD 0 0) t] (call (.ref q) [.int (is.getD 0 0) t])) _ >>= _) _
  refine Rn.bind (Rn.tryCatch (Rn.holding ((F.2 A.in1 h₂ _ t (hA.in1.le (by decide)) K₂).mono ?_)))
  rintro kv h₃ ⟨hkv, k₃⟩
  have hS₃ := k₃ _ _ (s₂.extBut _ _ hSI hS₁)
  show Rn prog w A.in1 h₃ (updateSeq S (fun _ => #[.int (is.getD 0 0) t, kv]) >>= _) _
  refine Rn.bind (Rn.updSeq hS₃ (by simp) (by simp) fun h₄ c₄ hS₄ s₄ => ?_)
  rw [hname]
  have e1 : is.length - ys.length = 1 := by omega
  refine Rn.pure ⟨plainId_quiet PySem.F.plain_min_loop _, RnC.minLoop (is := is) (h₀ := h) hA F hbI hbS hSI hlS K (fun h' v i hB hv hk => ?_) ys h₄ 0 _ kv c₄ (fun j v e => ?_) (by omega) ((S₂.keeps k₃).ext s₄.extBut hSI.symm hlS) hS₄ ⟨t, rfl⟩ hkv ?_ fun a o ha hs e => s₄.extBut a o hs (k₃ a o (s₂.extBut a o ha (k₁ a o e)))⟩
  · refine kk h' v ?_ fun a o ha e => hk a o ha (fun q => by subst q; rw [hSf] at e; cases e) e
    rw [hB.fin]
    refine ⟨rfl, fun j u e => ?_⟩
    cases j with
    | zero => cases e; exact hv
    | succ j => simp at e
  · rw [e1, Nat.add_comm]; exact hi.2 (j + 1) v e
  · rw [e1]
    exact ⟨Nat.zero_lt_one, fun j hj hne => absurd hj (by omega)⟩
theorem max_args (a v u : Value) : argsOk "max" ⟨[a], [(Str.ofString "default", v), (Str.ofString "key", u)]⟩ := by unfold argsOk; kernel_rfl
theorem RnC.maxLoop {κ : Nat} {kf : Int → List Nat} {I q S l : Addr} {is : List Int} {d : Value} {h₀ : Heap} {P : Value → Heap → Prop} (hA : Ok 8 A) (F : KeyF prog w b q κ kf) (hbI : b.get? I = none) (hbS : b.get? S = none) (hSI : S ≠ I) (hlS : l ≠ S) (K₀ : Kp b h₀)
    (kk : ∀ h' v i, Best true kf is i is.length → IsI (is.getD i 0) v → (∀ a o, a ≠ I → a ≠ S → h₀.get? a = some o → h'.get? a = some o) → P v h') :
    ∀ (ys : List Value) (h : Heap) (i : Nat) (vb kb : Value) (c : Nat), (∀ (j : Nat) v, ys[j]? = some v → IsI (is.getD (is.length - ys.length + j) 0) v) → ys.length ≤ is.length → SrcL h I l ys → h.get? S = some (seqObj "list" #[vb, kb] c) → IsI (is.getD i 0) vb → IsK κ (kf (is.getD i 0)) kb →
      Best true kf is i (is.length - ys.length) → (∀ a o, a ≠ I → a ≠ S → h₀.get? a = some o → h.get? a = some o) →
      RnC prog w A h (.builtin "max.loop" ⟨[.ref I, .ref q, .ref S], [(Str.ofString "default", d)]⟩) (fun f h' => ∃ v, f = .ret v ∧ P v h') := by
  have hname : (toString "max" ++ toString ".loop" : String) = "max.loop" := by decide
  intro ys
  induction ys with
  | nil =>
    intro h i vb kb c hys hle hS hb hv hk hbest hkeep
    refine RnC.blt PySem.F.entry_max_loop PySem.F.plain_max_loop ?_
    show Rn prog w A.in1 h (seqItems? (.ref S) >>= _) _
    refine Rn.bind (Rn.seqIt hb rfl ?_)
    show Rn prog w A.in1 h (tryCatch (pyNext (.ref I)) _ >>= _) _
    refine Rn.bind (Rn.tryCatch (Rn.endSrc (show A.in1.handled = none from hA.1) hS.src fun h₁ x₁ => ?_))
    show Rn prog w A.in1 h₁ (updateSeq S (fun _ => #[]) >>= _) _
    refine Rn.bind (Rn.updSeq (x₁ _ _ hSI hb) (by simp) (by simp) fun h₂ c₂ hS₂ s₂ => ?_)
    refine Rn.bind (Rn.letGo (Rn.pure ⟨vb, rfl, kk h₂ vb i (by simpa using hbest) hv fun a o ha hs e => s₂.extBut a o hs (x₁ a o ha (hkeep a o ha hs e))⟩))
  | cons y ys ih =>
    intro h i vb kb c hys hle hS hb hv hk hbest hkeep
    refine RnC.blt PySem.F.entry_max_loop PySem.F.plain_max_loop ?_
    show Rn prog w A.in1 h (seqItems? (.ref S) >>= _) _
    refine Rn.bind (Rn.seqIt hb rfl ?_)
    show Rn prog w A.in1 h (tryCatch (pyNext (.ref I)) _ >>= _) _
    refine Rn.bind (Rn.tryCatch (Rn.nextSrcL hS fun h₁ S₁ s₁ => ?_))
    have hy := hys 0 y rfl
    have hlen : (y :: ys).length = ys.length + 1 := rfl
    rw [hlen] at hle hbest hy
    obtain ⟨t, rfl⟩ := hy
    have hj : is.length - ys.length = is.length - (ys.length + 1) + 1 := by omega
    rw [Nat.add_zero]
    have hk₁ : ∀ a o, a ≠ I → a ≠ S → h₀.get? a = some o → h₁.get? a = some o := fun a o ha hs e => s₁.extBut a o ha (hkeep a o ha hs e)
    have K₁ : Kp b h₁ := fun a o e => hk₁ a o (fun q => by subst q; rw [hbI] at e; cases e) (fun q => by subst q; rw [hbS] at e; cases e) (K₀ a o e)
    have hb₁ := s₁.extBut _ _ hSI hb
    generalize hm : is.getD (is.length - (ys.length + 1)) 0 = m
    show Rn prog w A.in1 h₁ (tryCatch (holding [.int m t] (call (.ref q) [.int m t])) _ >>= _) _
    refine Rn.bind (Rn.tryCatch (Rn.holding ((F.2 A.in1 h₁ m t (hA.in1.le (by decide)) K₁).mono ?_)))
    rintro kv h₂ ⟨hkv, k₂⟩
    have hb₂ := k₂ _ _ hb₁
    show Rn prog w A.in1 h₂ (tryCatch (holding [.int m t, kv] (richCompare .Gt kv kb >>= _)) _ >>= _) _
    refine Rn.bind (Rn.tryCatch (Rn.holding (Rn.bind (Pv.val (show Pv prog w A.in1 h₂ (richCompare .Gt kv kb) _ from Pv.gtK hkv hk) ?_))))
    refine Rn.bind (Rn.holding (Rn.truthyB (Rn.bind (Rn.letGo (Rn.pure ?_)))))
    have hys' : ∀ (j : Nat) v, ys[j]? = some v → IsI (is.getD (is.length - ys.length + j) 0) v := fun j v e => by
      have := hys (j + 1) v e
      rw [hlen] at this
      rw [hj, show is.length - (ys.length + 1) + 1 + j = is.length - (ys.length + 1) + (j + 1) by omega]
      exact this
    have hkc : kc true (kf (is.getD (is.length - (ys.length + 1)) 0)) (kf (is.getD i 0)) = decide (kf (is.getD i 0) < kf m) := by rw [hm]; rfl
    have st := hbest.step
    rw [hkc, ← hj] at st
    by_cases q : kf (is.getD i 0) < kf m
    · have hd : decide (kf (is.getD i 0) < kf m) = true := decide_eq_true q
      rw [hd]
      rw [if_pos rfl]
      refine Rn.bind (Rn.updSeq hb₂ (by simp) (by simp) fun h₃ c₃ hS₃ s₃ => ?_)
      refine Rn.bind (Rn.letGo ?_)
      rw [hname]
      refine Rn.pure ⟨plainId_quiet PySem.F.plain_max_loop _, ih h₃ (is.length - (ys.length + 1)) (.int m t) kv c₃ hys' (by omega) ((S₁.keeps k₂).ext s₃.extBut hSI.symm hlS) hS₃ ⟨t, by rw [hm]⟩ (by rw [hm]; exact hkv) (st.1 hd) fun a o ha hs e => s₃.extBut a o hs (k₂ a o (hk₁ a o ha hs e))⟩
    · have hd : decide (kf (is.getD i 0) < kf m) = false := decide_eq_false q
      rw [hd]
      rw [if_neg Bool.false_ne_true]
      refine Rn.bind (Rn.letGo ?_)
      rw [hname]
      refine Rn.pure ⟨plainId_quiet PySem.F.plain_max_loop _, ih h₂ i vb kb c hys' (by omega) (S₁.keeps k₂) hb₂ hv hk (st.2 hd) fun a o ha hs e => k₂ a o (hk₁ a o ha hs e)⟩
theorem Rn.maxK {κ : Nat} {kf : Int → List Nat} {I q : Addr} {is : List Int} {ys : List Value} {d : Value} {P : Value → Heap → Prop} (hA : Ok 8 A) (F : KeyF prog w b q κ kf) (K : Kp b h) (hbI : b.get? I = none) (hS : Src h I ys) (hi : Ints is ys) (hne : 0 < ys.length)
    (kk : ∀ h' v, Ints ((isort (cK true kf) is).take 1) [v] → Heap.ExtBut I h h' → P v h') : Rn prog w A h (call (.builtin "max") [.ref I] [(Str.ofString "default", d), (Str.ofString "key", .ref q)]) P := by
  have hname : (toString "max" ++ toString ".loop" : String) = "max.loop" := by decide
  obtain ⟨l, us, hSL, hl⟩ := hS.toL
  refine Rn.callFn PySem.F.kind_max PySem.F.plain_max PySem.F.entry_max (max_args _ _ _) ?_
  show Rn prog w A.in1 h (Builtin.Builtins.bindParams "max" ["key", "default"] 0 ⟨[], [(Str.ofString "default", d), (Str.ofString "key", .ref q)]⟩ >>= _) _
  refine Rn.bind (Rn.eq (show Builtin.Builtins.bindParams "max" ["key", "default"] 0 ⟨[], [(Str.ofString "default", d), (Str.ofString "key", .ref q)]⟩ = Pure.pure [some (.ref q), some d] from rfl) (Rn.pure ?_))
  refine Rn.bind (Rn.pure ?_)
  refine Rn.bind (Pv.val (Pv.iterSrc hS) ?_)
  have new : ∀ P : Value → Heap → Prop, (∀ S h', h.get? S = none → (∀ a, a < h.objs.size → a ≠ S) → h'.get? S = some (seqObj "list" #[] 0) → Kp h h' → P (.ref S) h') → Rn prog w A.in1 h (newList []) P := fun P k => Rn.of fun s Q E e k2 => by
    subst e
    exact wpAny_newList (k2 _ _ s.toks (k _ _ (fresh_size _) (fun a ha => Nat.ne_of_lt ha) (Heap.get?_push_size _ rfl) (Kp.push _ _))) (Nat.zero_le _)
  refine Rn.bind (new _ fun S h₁ hSf hlt hS₁ k₁ => ?_)
  rw [hname]
  have hbS : b.get? S = none := by
    cases e : b.get? S with
    | none => rfl
    | some o => rw [K _ _ e] at hSf; cases hSf
  have hSI : S ≠ I := (hlt I hS.lt).symm
  have hlS : l ≠ S := hlt l hl.lt
  refine Rn.pure ⟨plainId_quiet PySem.F.plain_max_loop _, ?_⟩
  match ys, hne with
  | y :: ys, _ =>
  have hlen : is.length = ys.length + 1 := hi.1.symm
  refine RnC.blt PySem.F.entry_max_loop PySem.F.plain_max_loop ?_
  show Rn prog w A.in1 h₁ (seqItems? (.ref S) >>= _) _
  refine Rn.bind (Rn.seqIt hS₁ rfl ?_)
  show Rn prog w A.in1 h₁ (MonadExcept.tryCatch (pyNext (.ref I)) _ >>= _) _
  refine Rn.bind (Rn.tryCatch (Rn.nextSrcL (hSL.keeps k₁) fun h₂ S₂ s₂ => ?_))
  obtain ⟨t, rfl⟩ := hi.2 0 _ rfl
  have K₂ : Kp b h₂ := fun a o e => s₂.extBut a o (fun q => by subst q; rw [hbI] at e; cases e) (k₁ a o (K a o e))
  show Rn prog w A.in1 h₂ (MonadExcept.tryCatch (PySem.holding [.int (is.getD 0 0) t] (call (.ref q) [.int (is.getD 0 0) t])) _ >>= _) _
  refine Rn.bind (Rn.tryCatch (Rn.holding ((F.2 A.in1 h₂ _ t (hA.in1.le (by decide)) K₂).mono ?_)))
  rintro kv h₃ ⟨hkv, k₃⟩
  have hS₃ := k₃ _ _ (s₂.extBut _ _ hSI hS₁)
  show Rn prog w A.in1 h₃ (updateSeq S (fun _ => #[.int (is.getD 0 0) t, kv]) >>= _) _
  refine Rn.bind (Rn.updSeq hS₃ (by simp) (by simp) fun h₄ c₄ hS₄ s₄ => ?_)
  rw [hname]
  have e1 : is.length - ys.length = 1 := by omega
  refine Rn.pure ⟨plainId_quiet PySem.F.plain_max_loop _, RnC.maxLoop (is := is) (h₀ := h) hA F hbI hbS hSI hlS K (fun h' v i hB hv hk => ?_) ys h₄ 0 _ kv c₄ (fun j v e => ?_) (by omega) ((S₂.keeps k₃).ext s₄.extBut hSI.symm hlS) hS₄ ⟨t, rfl⟩ hkv ?_ fun a o ha hs e => s₄.extBut a o hs (k₃ a o (s₂.extBut a o ha (k₁ a o e)))⟩
  · refine kk h' v ?_ fun a o ha e => hk a o ha (fun q => by subst q; rw [hSf] at e; cases e) e
    rw [hB.fin]
    refine ⟨rfl, fun j u e => ?_⟩
    cases j with
    | zero => cases e; exact hv
    | succ j => simp at e
  · rw [e1, Nat.add_comm]; exact hi.2 (j + 1) v e
  · rw [e1]
    exact ⟨Nat.zero_lt_one, fun j hj hne => absurd hj (by omega)⟩
end
end
section
set_option maxRecDepth 100000
set_option autoImplicit false
set_option linter.unusedVariables false
/-- all stands but that the frames' slots may turn -/
def KpF (fs : List Addr) (h h' : Heap) : Prop := (∀ b o, b ∉ fs → h.get? b = some o → h'.get? b = some o) ∧ (∀ b o, h.get? b = some o → ∃ sl, h'.get? b = some { o with slots := sl })
theorem KpF.of {fs : List Addr} {h h' : Heap} (k : Kp h h') : KpF fs h h' := ⟨fun b o _ e => k b o e, fun b o e => ⟨o.slots, k b o e⟩⟩
theorem KpF.trans {fs : List Addr} {a b c : Heap} (x : KpF fs a b) (y : KpF fs b c) : KpF fs a c :=
  ⟨fun d o hd e => y.1 d o hd (x.1 d o hd e), fun d o e => let ⟨_, e₁⟩ := x.2 d o e; let ⟨sl, e₂⟩ := y.2 d _ e₁; ⟨sl, e₂⟩⟩
theorem KpF.mono {fs gs : List Addr} {h h' : Heap} (x : KpF fs h h') (hs : ∀ a ∈ fs, a ∈ gs) : KpF gs h h' := ⟨fun b o hb e => x.1 b o (fun q => hb (hs b q)) e, x.2⟩
theorem KpF.ns {fs : List Addr} {h h' : Heap} {a : Addr} {m : Str → Option Value} (x : KpF fs h h') (hn : h.Ns a m) : h'.Ns a m := by
  obtain ⟨o, es, ep, ho, hd, r⟩ := hn
  obtain ⟨sl, hs⟩ := x.2 a o ho
  exact ⟨_, es, ep, hs, hd, r⟩
theorem KpF.loc {fs : List Addr} {h h' : Heap} {a : Addr} {ls : List (Str × Value)} (x : KpF fs h h') (hn : Loc h a ls) : Loc h' a ls := let ⟨m, hn, hm⟩ := hn; ⟨m, x.ns hn, hm⟩
theorem KpF.base {fs : List Addr} {b h h' : Heap} (K : Kp b h) (x : KpF fs h h') (hf : ∀ a ∈ fs, b.get? a = none) : Kp b h' := fun a o e => x.1 a o (fun q => by rw [hf a q] at e; cases e) (K a o e)
/-- the frames of the calls below -/
structure Fms (b : Heap) (A : Around) (h : Heap) (fs : List Addr) : Prop where
  ex : ∃ envs, A.frames = some envs ∧ envs.filterMap (·.frame) = fs ∧ h.FunFrames b envs
  ns : ∀ a ∈ fs, ∃ m, h.Ns a m
theorem Fms.new {b : Heap} {A : Around} {h : Heap} {fs : List Addr} (F : Fms b A h fs) : ∀ a ∈ fs, b.get? a = none := by
  obtain ⟨envs, _, rfl, hF⟩ := F.ex
  exact fun a ha => (hF.mem ha).1
theorem Fms.keepF {b : Heap} {A : Around} {h h' : Heap} {fs gs : List Addr} (F : Fms b A h fs) (k : KpF gs h h') : Fms b A h' fs :=
  ⟨let ⟨envs, h1, h2, h3⟩ := F.ex; ⟨envs, h1, h2, h3.of_keeps fun a o e _ => let ⟨sl, e'⟩ := k.2 a o e; ⟨_, e', rfl⟩⟩, fun a ha => let ⟨m, hm⟩ := F.ns a ha; ⟨m, k.ns hm⟩⟩
theorem Fms.keeps {b : Heap} {A : Around} {h h' : Heap} {fs : List Addr} (F : Fms b A h fs) (k : Kp h h') : Fms b A h' fs := F.keepF (gs := fs) (.of k)
theorem Fms.ext {b : Heap} {A : Around} {h h' : Heap} {fs : List Addr} {c : Addr} (F : Fms b A h fs) (k : Heap.ExtBut c h h') (hc : c ∉ fs) : Fms b A h' fs := by
  obtain ⟨⟨envs, h1, h2, h3⟩, hn⟩ := F
  have ne : ∀ a ∈ fs, a ≠ c := fun a ha q => hc (q ▸ ha)
  refine ⟨⟨envs, h1, h2, ?_⟩, fun a ha => let ⟨m, hm⟩ := hn a ha; ⟨m, hm.extBut k (ne a ha)⟩⟩
  subst h2
  clear h1 hn
  induction envs with
  | nil => trivial
  | cons env rest ih =>
    obtain ⟨hk, ⟨L, o, hf, hnn, ho, hd⟩, hr⟩ := h3
    have e1 : (env :: rest).filterMap (·.frame) = L :: rest.filterMap (·.frame) := by rw [List.filterMap_cons, hf]
    rw [e1] at hc ne
    exact ⟨hk, ⟨L, o, hf, hnn, k L o (ne L (.head _)) ho, hd⟩, ih hr (fun q => hc (.tail _ q)) (fun a ha => ne a (.tail _ ha))⟩
theorem Fms.deeper {b : Heap} {A : Around} {h₀ h : Heap} {fs : List Addr} {L : Addr} {X : Addr → Prop} {ls : List (Str × Value)} {env : Env} (F : Fms b A h fs) (K : Kp b h₀) (S : St h₀ X L h ls) (hf : env.frame = some L) (hk : env.scope.kind = .function) : Fms b (A.deeper env) h (L :: fs) := by
  obtain ⟨⟨envs, h1, h2, h3⟩, hn⟩ := F
  obtain ⟨m, hm, _⟩ := S.loc
  refine ⟨⟨env :: envs, Around.frames_deeper h1, by rw [List.filterMap_cons, hf, h2], ?_⟩, fun a ha => ?_⟩
  · refine ⟨by rw [hk]; decide, ?_, h3⟩
    obtain ⟨o, es, ep, ho, hd, _⟩ := id hm
    refine ⟨L, o, hf, ?_, ho, fun vs q => by rw [hd] at q; cases q⟩
    cases e : b.get? L with
    | none => rfl
    | some ob => exact absurd (Heap.lt_size (K _ _ e)) (Nat.not_lt.mpr S.new)
  · rcases List.mem_cons.mp ha with rfl | ha
    · exact ⟨m, hm⟩
    · exact hn a ha
theorem Fms.notL {b : Heap} {A : Around} {h : Heap} {fs : List Addr} {l : Addr} {vs : List Value} (F : Fms b A h fs) (H : Lst h l vs) : l ∉ fs := fun q => by
  obtain ⟨m, o, es, ep, ho, hd, _⟩ := F.ns l q
  obtain ⟨n, e⟩ := H
  rw [e] at ho; cases ho; cases hd
theorem Fms.notFields {b : Heap} {A : Around} {h : Heap} {fs : List Addr} {l : Addr} {o : Obj} {vs : Array Value} (F : Fms b A h fs) (e : h.get? l = some o) (hd' : o.data = .fields vs) : l ∉ fs := fun q => by
  obtain ⟨m, o, es, ep, ho, hd, _⟩ := F.ns l q
  rw [e] at ho; cases ho; rw [hd] at hd'; cases hd'
section
variable {prog : Program} {w : World} {A : Around} {E : Value → Shared → Prop} {s : Shared}
theorem lri_no_len : typeLookup (.type "list_reverseiterator") "__len__" = pure none := by rw [typeLookup_type, builtinLookup_eq_fast]; kernel_rfl
theorem len_err {I l : Addr} {i : Int} {Q : Value → Shared → Prop} (hh : A.handled = none) (hI : s.heap.IsRevIter I l i)
    (h : ∀ h' tk e, Heap.NewExc s.heap h' e "TypeError" → E (.ref e) { s with heap := h', toks := tk }) : wpAny (model prog w) A (call (.builtin "len") [.ref I]) Q E s := by
  refine call_function_entry kind_len plain_len entry_len (args_len1 _) ?_
  unfold Builtin.«len»
  refine wpAny_bind (wpAny_of_eq (a := Value.ref I) rfl ?_)
  refine wpAny_bind (wpAny_callSpecial?_none hI.typeIs lri_no_len ?_)
  refine wpAny_bind (wpAny_rule ?_)
  refine wpAny_bind (wpAny_typeNameOf' hI.typeIs (by decide) ?_)
  exact wpAny_raiseErrorMade plainExc_TypeError hh h (by decide +kernel)
/-- the frame is noted in a new exception -/
theorem note_new {b : Heap} {env : Env} {outer : List Env} {L e : Addr} {oe : Obj} {vs : Array Value} {Q : Unit → Shared → Prop} (hfr : A.frames = some (env :: outer)) (hl : s.heap.FunFrames b (env :: outer)) (hf : env.frame = some L)
    (he : s.heap.get? e = some oe) (hd : oe.data = .fields vs) (h1 : vs[1]? = some .none)
    (h : ∀ h' tb pl, IsPlace pl → (∀ c o, c ≠ e → c ∉ (env :: outer).filterMap (·.frame) → s.heap.get? c = some o → h'.get? c = some o) → (∀ c o, c ≠ e → s.heap.get? c = some o → ∃ sl, h'.get? c = some { o with slots := sl }) →
      s.heap.get? tb = none → tb ≠ e → h'.get? e = some (oe.mapFields (·.setIfInBounds 1 (.ref tb))) → h'.get? tb = some { cls := .type "traceback", dict := none, data := .fields ([Value.none, .ref L, .none, rawInt L, .none] ++ (if pl.isEmpty then List.replicate 6 Value.none else pl)).toArray } →
      Q () { s with heap := h' }) :
    wpAny (model prog w) A (noteFrame (.ref e) env) Q E s := by
  have hsz : 1 < vs.size := (Array.getElem?_eq_some_iff.mp h1).1
  have hene : e ∉ (env :: outer).filterMap (·.frame) := fun hm => by
    obtain ⟨_, o, ho, hnf⟩ := hl.mem hm
    rw [he] at ho; injection ho with ho; subst ho; exact hnf vs hd
  unfold noteFrame
  simp only [hf]
  refine wpAny_bind (wpAny_field he hd h1 ?_)
  rw [if_neg (by decide)]
  refine wpAny_bind (wpAny_frameOf_fun hfr hl hf fun h₁ hs₁ => ?_)
  refine wpAny_bind (wpAny_entryPlaceOf fun pl hpl => ?_)
  unfold EntryCells.newEntry newFields
  refine wpAny_bind (wpAny_newObj_type ?_ (hpl.sizeOk5 _ _ _ _ _))
  have he₁ : h₁.get? e = some oe := (hs₁.2.1 e hene).trans he
  have he₂ := Heap.get?_push_of_some (h := h₁) { cls := .type "traceback", dict := none, data := .fields ([Value.none, .ref L, .none, rawInt L, .none] ++ (if pl.isEmpty then List.replicate 6 Value.none else pl)).toArray } he₁
  refine wpAny_setField he₂ hd hsz ?_
  have hTe : h₁.objs.size ≠ e := Nat.ne_of_gt (Heap.lt_size he₁)
  have hd₃ := Obj.data_mapFields hd (·.setIfInBounds 1 (Value.ref h₁.objs.size))
  refine h _ h₁.objs.size pl hpl (fun c o hce hcf hc => ?_) (fun c o hce hc => ?_) (Heap.get?_none_of_le (by rw [hs₁.1]; exact Nat.le_refl _)) hTe (Heap.get?_update_self _ he₂ (Obj.isFreed_of_fields hd₃)) ?_
  · rw [Heap.get?_update_other _ _ (Ne.symm hce)]
    exact Heap.get?_push_of_some _ ((hs₁.2.1 c hcf).trans hc)
  · obtain ⟨sl, hsl⟩ := hs₁.2.2 c o hc
    refine ⟨sl, ?_⟩
    rw [Heap.get?_update_other _ _ (Ne.symm hce)]
    exact Heap.get?_push_of_some _ hsl
  · rw [Heap.get?_update_other _ _ (Ne.symm hTe)]
    exact Heap.get?_push_size h₁ rfl
end
section
variable {prog : Program} {w : World} {A : Around} {h b : Heap} {env : Env}
theorem Rn.tryOk {body orelse : List Stmt} {h₀ : ExceptHandler} {hs : List ExceptHandler} {pos : Pos} {P : Flow → Heap → Prop}
    (R : Rn prog w A h (execs body env) (fun f h₁ => match f with | .next => Rn prog w A h₁ (execs orelse env) P | f => P f h₁)) : Rn prog w A h (exec (.Try body (h₀ :: hs) orelse [] pos) env) P := by
  refine Rn.of fun s Q E es k => wpAny_Try_except ?_
  subst es
  refine R.use fun f h₁ tk q => ?_
  cases f with
  | next => exact Rn.use (s := { s with heap := h₁, toks := tk }) q fun f h₂ tk₂ q₂ => k _ h₂ tk₂ q₂
  | brk => exact k _ h₁ tk q
  | cont => exact k _ h₁ tk q
  | ret v => exact k _ h₁ tk q
theorem exc_sub1 : isSubtype (.type "TypeError") (.type "BaseException") = Pure.pure true := by rw [isSubtype_type]; kernel_rfl
theorem exc_sub2 : isSubtype (.type "AttributeError") (.type "BaseException") = Pure.pure true := by rw [isSubtype_type]; kernel_rfl
theorem exc_nt1 : isSubtype (.type ((Manifest.find? "TypeError").elim "type" fun x => x.metatype)) (.type "tuple") = Pure.pure false := by rw [isSubtype_type]; kernel_rfl
theorem exc_nt2 : isSubtype (.type ((Manifest.find? "AttributeError").elim "type" fun x => x.metatype)) (.type "tuple") = Pure.pure false := by rw [isSubtype_type]; kernel_rfl
theorem exc_s1 : isSubtype (.type "TypeError") (.type "TypeError") = Pure.pure true := by rw [isSubtype_type]; kernel_rfl
theorem exc_s2 : isSubtype (.type "TypeError") (.type "AttributeError") = Pure.pure false := by rw [isSubtype_type]; kernel_rfl
theorem Rn.tryLen {I l : Addr} {i : Int} {fs : List Addr} {L : Addr} {x y : Str} {p1 p2 p3 p4 p5 q1 q2 q3 q4 q5 q6 : Pos} {kk : Nat} {orelse : List Stmt} {P : Flow → Heap → Prop} (hA : A.handled = none) (W : Wd b) (K : Kp b h)
    (Fm : Fms b A h fs) (hfr : ∃ outer, A.frames = some (env :: outer)) (hfL : env.frame = some L) (hI : h.IsRevIter I l i) (hy : Pv prog w A h (eval (.Name y p3) env) (· = .ref I))
    (k : ∀ h', KpF fs h h' → P .next h')
    (hlen : ∀ A h, Kp b h → Pv prog w A h (eval (.Name "len" p2) env) (· = .builtin "len"))
    (hte : ∀ A h, Kp b h → Pv prog w A h (eval (.Name "TypeError" q1) env) (· = .type "TypeError")) (hat : ∀ A h, Kp b h → Pv prog w A h (eval (.Name "AttributeError" q2) env) (· = .type "AttributeError"))
    (hsw : swapsWith (.Call (.Name "len" p2) [.Name y p3] [] p4) (some (.Name x p1)) p5.line env = Pure.pure false := by rfl) :
    Rn prog w A h (exec (.Try [.Assign [.Name x p1] (.Call (.Name "len" p2) [.Name y p3] [] p4) p5] [.ExceptHandler (some (.Tuple [.Name "TypeError" q1, .Name "AttributeError" q2] kk q3)) none [.Pass q4] q5] orelse [] q6) env) P := by
  refine Rn.of fun s Q E es k2 => wpAny_Try_except ?_
  subst es
  rw [execs_cons]
  refine wpAny_bind (wpAny_Assign_Name ?_ hsw)
  show wpAny _ A (do callWith p4 (← eval (.Name "len" p2) env) [] (backTo p4 (starEach [.Name y p3] env)) (backToKw p4 (keywordEach [] env))) _ _ s
  refine wpAny_bind (Rn.use (hlen A _ K) ?_)
  rintro _ _ tk ⟨rfl, rfl⟩
  refine PyProof.Rows.callWith_builtin1 (args_cons ?_)
  refine Rn.use (s := { s with toks := tk }) hy ?_
  rintro _ _ tk₁ ⟨rfl, rfl⟩
  refine Calls.spliced_nil ?_
  refine len_err hA hI fun h₁ tk₂ e hx => ?_
  obtain ⟨ob, t, he, hcls, hd⟩ := hx.there
  obtain ⟨outer, hfr⟩ := hfr
  obtain ⟨⟨envs, g1, g2, g3⟩, gn⟩ := Fm
  rw [hfr] at g1
  injection g1 with g1
  subst g1
  have g3' : h₁.FunFrames b (env :: outer) := g3.of_keeps fun a o ho _ => ⟨o, hx.keeps a o ho, rfl⟩
  refine note_new (s := { s with heap := h₁, toks := tk₂ }) hfr g3' hfL he hd rfl fun h₂ tb pl hpl x2 x2' htb htbe he₂ htb₂ => ?_
  have hde : (ob.mapFields (·.setIfInBounds 1 (.ref tb))).data = .fields (#[t, .ref tb, .none, .none, .bool false, .none] : Array Value) := by
    obtain ⟨c, d, dt, sl⟩ := ob; obtain rfl : dt = _ := hd; rfl
  have hclse : (ob.mapFields (·.setIfInBounds 1 (.ref tb))).cls = .type "TypeError" := by
    obtain ⟨c, d, dt, sl⟩ := ob; cases dt <;> exact hcls
  have hsz : 3 < (([Value.none, .ref L, .none, rawInt L, .none] ++ (if pl.isEmpty then List.replicate 6 Value.none else pl)).toArray).size := by
    simp only [List.size_toArray, List.length_append, List.length_cons, List.length_nil]; omega
  refine wpAny_setFlight_none (s := { s with heap := h₂, toks := tk₂ }) he₂ hde rfl htb₂ rfl hsz ?_
  have ebt : ∀ c, c ≠ tb → (h₂.update tb (Obj.mapFields (·.setIfInBounds 3 .none))).get? c = h₂.get? c := fun c hc => Heap.get?_update_ne _ _ _ _ hc
  have he₃ := (ebt e htbe.symm).trans he₂
  have htb₃ := Heap.get?_update_self (Obj.mapFields (·.setIfInBounds 3 Value.none)) htb₂ (Obj.isFreed_of_fields (Obj.data_mapFields rfl _))
  have olde : ∀ c o, s.heap.get? c = some o → c ≠ e := fun c o ho q => by rw [q, hx.new] at ho; cases ho
  have oldt : ∀ c o, s.heap.get? c = some o → c ≠ tb := fun c o ho q => by rw [q] at ho; rw [hx.keeps _ _ ho] at htb; cases htb
  have kf : KpF fs s.heap (h₂.update tb (Obj.mapFields (·.setIfInBounds 3 .none))) := by
    refine ⟨fun c o hc ho => ?_, fun c o ho => ?_⟩
    · rw [ebt c (oldt c o ho)]
      exact x2 c o (olde c o ho) (by rw [g2]; exact hc) (hx.keeps c o ho)
    · rw [ebt c (oldt c o ho)]
      exact x2' c o (olde c o ho) (hx.keeps c o ho)
  have fnew : ∀ a ∈ fs, b.get? a = none := fun a ha => (g3.mem (by rw [g2]; exact ha)).1
  have K₃ : Kp b (h₂.update tb (Obj.mapFields (·.setIfInBounds 3 .none))) := KpF.base K kf fnew
  generalize h₂.update tb (Obj.mapFields (·.setIfInBounds 3 .none)) = h₃ at he₃ htb₃ kf K₃
  clear ebt
  refine wpAny_handleBy_tup2 exc_sub1 exc_nt1 exc_sub2 exc_nt2 exc_s1 exc_s2 ?_
  refine Rn.use (s := { s with heap := h₃, toks := tk₂ }) (P := fun v h' => ∃ T, v = .ref T ∧ Tup h' T [.type "TypeError", .type "AttributeError"] ∧ Kp h₃ h') ?_ ?_
  · refine Rn.tupleE (Rn.argsCons (Pv.val (hte _ _ K₃) (Rn.argsCons (Pv.val (hat _ _ K₃) (Rn.argsNil ⟨by decide, fun T h' _ hT k' _ => ⟨T, rfl, hT, k'⟩⟩)))))
  · rintro v h₄ tk₄ ⟨T, rfl, hT, k₄⟩
    refine ⟨T, rfl, hT, ⟨_, k₄ _ _ he₃, hclse⟩, ?_⟩
    refine (if_pos (show (true || false) = true from rfl)).mpr ?_
    refine wpAny_setFlight_none (s := { s with heap := h₄, toks := tk₄ }) (k₄ _ _ he₃) hde rfl (k₄ _ _ htb₃) (Obj.data_mapFields rfl _) (by simpa using hsz) ?_
    refine Rn.use (s := { s with heap := h₄.update tb (Obj.mapFields (·.setIfInBounds 3 .none)), toks := tk₄ }) (Rn.cons (Rn.pass (Rn.nil (P := fun f h' => f = .next ∧ h' = h₄.update tb (Obj.mapFields (·.setIfInBounds 3 .none))) ⟨rfl, rfl⟩))) ?_
    rintro f h' tk' ⟨rfl, rfl⟩
    have kf₄ := kf.trans (.of k₄)
    refine k2 _ _ tk' (k _ ⟨fun c o hc ho => ?_, fun c o ho => ?_⟩)
    · rw [Heap.get?_update_ne _ _ _ _ (oldt c o ho)]
      exact kf₄.1 c o hc ho
    · rw [Heap.get?_update_ne _ _ _ _ (oldt c o ho)]
      exact kf₄.2 c o ho
end
end
section
set_option maxRecDepth 100000
set_option autoImplicit false
set_option linter.unusedVariables false
namespace F2
theorem mro_object : mroOf (.type "object") = pure [.type "object"] := by kernel_rfl
theorem lookup_object_new : typeLookup (.type "object") "__new__" = pure (some (.builtin "object.__new__")) := by rw [typeLookup_type, builtinLookup_eq_fast]; kernel_rfl
theorem slot_object_init : Slot "object" "__init__" "object.__init__" :=
  .of (owner := "object") (n := "__init__") (by rw [typeLookup_type, builtinLookup_eq_fast]; kernel_rfl) (by decide +kernel) (by decide +kernel) (by decide +kernel)
    (by first | exact .inl (by decide +kernel) | exact .inr (by decide +kernel)) (by rw [isSubtype_type]; kernel_rfl)
theorem called_object : TypeCalled "object" "object.__new__" "object.__init__" :=
  ⟨by decide +kernel, by decide +kernel, ⟨_, _, mro_object⟩, madeBy_type mro_object lookup_object_new (by decide +kernel), by decide +kernel, by rw [isSubtype_type]; kernel_rfl, slot_object_init⟩
end F2
section
variable {prog : Program} {w : World} {A : Around} {E : Value → Shared → Prop} {s : Shared}
theorem meets_object_new : Meets (Builtin.«object.__new__» ⟨[.type "object"], []⟩) (fun _ R s => R (.ok (.ret (.ref s.heap.objs.size))) { s with heap := s.heap.push { cls := .type "object", data := .plain } }) :=
  .of_wp fun prog w A R s h => by
    obtain ⟨hp, g, d, tk, os⟩ := s
    have hm := F2.mro_object
    have hl := F2.lookup_object_new
    have hb := F2.called_object.made
    wp_walk
    exact ⟨_, rfl, h⟩
theorem call_object {Q : Value → Shared → Prop} (h : Q (.ref s.heap.objs.size) { s with heap := s.heap.push { cls := .type "object", data := .plain } }) : wpAny (model prog w) A (call (.type "object") []) Q E s := by
  refine callType_meets F2.called_object (Q₁ := fun obj s₁ => s₁.TypeIs obj "object" ∧ Q obj s₁) (by kernel_rfl) (by kernel_rfl) PySem.F.entry_object_new F.entry_object_init meets_object_new ?_ ?_
  · exact ⟨⟨_, Heap.get?_push_size _ rfl, rfl⟩, h⟩
  · rintro obj s₁ ⟨hT, hq⟩
    refine ⟨hT, by unfold argsOk; rw [signature?_of (id := "object.__init__") (n := ['_', '_', 't', 'i', 'n', 'i', '_', '_']) (o := ['t', 'c', 'e', 'j', 'b', 'o']) (by kernel_rfl) F.owner_object]; kernel_rfl, _, Meets.of_wp (S := fun _ R s => R (.ok (.ret .none)) s) fun prog w A R s hs => wpAny_pure ⟨_, rfl, hs⟩, ⟨rfl, hq⟩⟩
end
section
variable {prog : Program} {w : World} {A : Around} {h b : Heap} {env : Env}
theorem Rn.objectC {pos : Pos} {P : Value → Heap → Prop} (k : ∀ o h', h.get? o = none → Kp h h' → P (.ref o) h') : Rn prog w A h (callWith pos (.type "object") [] (backTo pos (starEach [] env)) []) P := by
  refine Rn.of fun s Q E e kk => PySem.callWith_type rfl (PySem.evalArgs_none ?_)
  subst e
  exact call_object (kk _ _ s.toks (k _ _ (fresh_size _) (Kp.push _ _)))
theorem Rn.iterC {x : Value} {P : Value → Heap → Prop} (R : ∀ A', Rn prog w A' h (pyIter x) P) : Rn prog w A h (call (.builtin "iter") [x]) P := by
  refine Rn.callFn (by decide +kernel) (by decide +kernel) kdk_entry_iter (kdk_args_iter _) ?_
  unfold Builtin.«iter»
  refine Rn.bind (Rn.eq (show someArgs "iter" 1 2 ⟨[x], []⟩ = Pure.pure [x] by first | rfl | kernel_rfl!) (Rn.pure ?_))
  exact Rn.bind ((R _).mono fun v h' q => Rn.pure ⟨v, rfl, q⟩)
theorem Pv.isNone {a : Addr} : Pv prog w A h (compareOp .Is (.ref a) .none) (· = .bool false) := Rn.of fun s Q E e k => by subst e; exact is_ref_none (k _ _ s.toks ⟨rfl, rfl⟩)
theorem Pv.isIR {a : Addr} {i : Int} {t : Tok} : Pv prog w A h (compareOp .Is (.int i t) (.ref a)) (· = .bool false) := Rn.of fun s Q E e k => by subst e; exact wpAny_is_other rfl (by intro q; cases q) (k _ _ s.toks ⟨rfl, rfl⟩)
theorem Rn.ifExp {test body orelse : Expr} {pos : Pos} {P : Value → Heap → Prop}
    (R : Rn prog w A h (isTrue test env (eval test env)) (fun c h₁ => if c = true then Rn prog w A h₁ (eval body env) P else Rn prog w A h₁ (eval orelse env) P)) : Rn prog w A h (eval (.IfExp test body orelse pos) env) P := by
  refine Rn.of fun s Q E e kk => wpAny_IfExp ?_
  subst e
  refine R.use fun c h₁ tk₁ q₁ => ?_
  cases c
  · exact Rn.use (s := { s with heap := h₁, toks := tk₁ }) (by simpa using q₁) fun v h₃ tk₃ q₃ => kk v h₃ tk₃ q₃
  · exact Rn.use (s := { s with heap := h₁, toks := tk₁ }) (by simpa using q₁) fun v h₃ tk₃ q₃ => kk v h₃ tk₃ q₃
theorem Pv.truthyL {l : Addr} {vs : List Value} (H : Lst h l vs) (hsz : vs.length < 1000) : Pv prog w A h (truthy (.ref l)) (· = !vs.isEmpty) :=
  Rn.of fun s Q E e kk => by
    subst e
    refine wpAny_truthy_list H.isList (by simp; omega) (kk _ _ _ ⟨rfl, ?_⟩)
    cases vs <;> rfl
theorem Rn.sliceE {lower upper step : Option Expr} {p : Pos} {P : Value → Heap → Prop}
    (R : Rn prog w A h (evalPart lower env) (fun l h₁ => Rn prog w A h₁ (evalPart upper env) (fun u h₂ => Rn prog w A h₂ (evalPart step env) (fun st h₃ => ∀ sl h', h₃.get? sl = none → h'.IsSliceOf sl l u st → Kp h₃ h' → P (.ref sl) h')))) :
    Rn prog w A h (eval (.Slice lower upper step p) env) P := by
  refine Rn.of fun s Q E e kk => wpAny_Slice ?_
  subst e
  exact R.use fun a h₁ tk₁ q₁ => Rn.use (s := { s with heap := h₁, toks := tk₁ }) q₁ fun b h₂ tk₂ q₂ => Rn.use (s := { s with heap := h₂, toks := tk₂ }) q₂ fun v h₃ tk₃ q₃ => kk _ _ tk₃ (q₃ _ _ (fresh_size _) (Heap.IsSliceOf.new ..) (Kp.push _ _))
theorem Rn.partN {P : Value → Heap → Prop} (H : P .none h) : Rn prog w A h (evalPart none env) P := Rn.pure H
theorem Rn.partS {e : Expr} {P : Value → Heap → Prop} (R : Rn prog w A h (eval e env) P) : Rn prog w A h (evalPart (some e) env) P := R
theorem Rn.sliceT {value slice : Expr} {ops : List Value} {l sl : Addr} {vs : List Value} {vl vu vt : Value} {lo hi st : Option Int} {P : Value → Heap → Prop} (H : Lst h l vs) (hs : h.IsSliceOf sl vl vu vt) (pl : IsPart vl lo) (pu : IsPart vu hi) (ps : IsPart vt st)
    (h0 : st ≠ some 0) (hsz : vs.length < 1000) (k : ∀ D h', h.get? D = none → Lst h' D (slicePick vs.toArray lo hi st).toList → Kp h h' → P (.ref D) h')
    (hsub : subscripted slice false (.ref l) (.ref sl) = operate ops (getItem (.ref l) (.ref sl)) := by with_unfolding_all rfl) : Rn prog w A h (subscriptTail value slice (.ref l) (.ref sl)) P := by
  refine Rn.of fun s Q E e kk => ?_
  subst e
  refine tail_any H.isList.typeIs slot_list_getitem.lookup (wpAny_getItem_list_slice H.isList hs pl pu ps h0 (kk _ _ s.toks (k _ _ (fresh_size _) ⟨0, ?_⟩ (Kp.push _ _))) (by rw [List.size_toArray, sizeLine_eq]; omega)) hsub
  rw [Heap.get?_push_size _ rfl]
theorem pick_upto (vs : List Value) (n : Nat) : (slicePick vs.toArray none (some (n : Int)) none).toList = vs.take n := by rw [slicePick_upto']
theorem pick_rev (vs : List Value) : (slicePick vs.toArray none none (some (-1))).toList = vs.reverse := by rw [krv_pick]
theorem pick_mem {vs : List Value} {lo hi st : Option Int} {v : Value} (h : v ∈ (slicePick vs.toArray lo hi st).toList) : v ∈ vs := by
  unfold slicePick at h
  simp only [List.toList_toArray, List.mem_filterMap] at h
  obtain ⟨i, _, h⟩ := h
  rw [List.getElem?_toArray] at h
  exact List.mem_of_getElem? h
end
end
section
set_option maxRecDepth 100000
set_option maxHeartbeats 1000000
set_option autoImplicit false
set_option linter.unusedVariables false
/-- what stands, and what may have turned -/
def KpX (X : Addr → Prop) (fs : List Addr) (h h' : Heap) : Prop := (∀ a o, ¬ X a → a ∉ fs → h.get? a = some o → h'.get? a = some o) ∧ (∀ a m, a ∈ fs → h.Ns a m → h'.Ns a m)
/-- what is iterated: a list, or one read from its end -/
inductive Inp (h : Heap) (I : Addr) (vs : List Value) (X : Addr → Prop) : Prop where
  | list : Lst h I vs → Inp h I vs X
  | rev (l : Addr) (us : List Value) : h.IsRevIter I l ((us.length : Int) - 1) → Lst h l us → l ≠ I → X I → vs = us.reverse → Inp h I vs X
theorem Inp.keeps {h h' : Heap} {I : Addr} {vs : List Value} {X : Addr → Prop} (H : Inp h I vs X) (k : Kp h h') : Inp h' I vs X := by
  cases H with
  | list a => exact .list (a.keeps k)
  | rev l us a b c d e => exact .rev l us (let ⟨o, e, r⟩ := a; ⟨o, k _ _ e, r⟩) (b.keeps k) c d e
/-- an object with fields or things in a row -/
def Dat (h : Heap) (c : Addr) : Prop := ∃ o, h.get? c = some o ∧ ((∃ xs n, o.data = .seq xs n) ∨ ∃ xs, o.data = .fields xs)
theorem Lst.dat {h : Heap} {l : Addr} {vs : List Value} (H : Lst h l vs) : Dat h l := let ⟨n, e⟩ := H; ⟨_, e, .inl ⟨_, n, rfl⟩⟩
theorem Src.dat {h : Heap} {I : Addr} {xs : List Value} (S : Src h I xs) : Dat h I := by
  cases S with
  | fwd l us i a _ _ _ => obtain ⟨o, ho, _, hd⟩ := a; exact ⟨o, ho, .inr ⟨_, hd⟩⟩
  | rev l us i a _ _ _ _ => obtain ⟨o, ho, _, hd⟩ := a; exact ⟨o, ho, .inr ⟨_, hd⟩⟩
theorem Dat.fields {h : Heap} {c : Addr} {o : Obj} {xs : Array Value} (e : h.get? c = some o) (hd : o.data = .fields xs) : Dat h c := ⟨o, e, .inr ⟨xs, hd⟩⟩
theorem Dat.seq {h : Heap} {c : Addr} {o : Obj} {xs : Array Value} {n : Nat} (e : h.get? c = some o) (hd : o.data = .seq xs n) : Dat h c := ⟨o, e, .inl ⟨xs, n, hd⟩⟩
theorem Dat.keeps {h h' : Heap} {c : Addr} (D : Dat h c) (k : Kp h h') : Dat h' c := let ⟨o, e, r⟩ := D; ⟨o, k _ _ e, r⟩
theorem Dat.ns {h : Heap} {c : Addr} {m : Str → Option Value} (D : Dat h c) (N : h.Ns c m) : False := by
  obtain ⟨o, e, r⟩ := D
  obtain ⟨o', es, ep, ho, hd, _⟩ := N
  rw [e] at ho; cases ho
  rcases r with ⟨xs, n, r⟩ | ⟨xs, r⟩ <;> (rw [hd] at r; cases r)
theorem Dat.cell {h : Heap} {c : Addr} {v : Option Value} (D : Dat h c) (N : h.IsCell c v) : False := by
  obtain ⟨o, e, r⟩ := D
  obtain ⟨o', ho, hd⟩ := N
  rw [e] at ho; cases ho
  rcases r with ⟨xs, n, r⟩ | ⟨xs, r⟩ <;> (rw [hd] at r; cases r)
/-- the values are tuples of these items -/
def dI : Item := ([], 0, 0)
def Tups (h : Heap) (κ : Nat) (us : List Value) (its : List Item) : Prop := us.length = its.length ∧ ∀ (i : Nat) v, us[i]? = some v → TupK h κ v (its.getD i dI)
theorem IsK.uniq {κ : Nat} {k k' : List Nat} {v : Value} (H : IsK κ k v) (H' : IsK κ k' v) : k = k' := by
  unfold IsK at H H'
  split at H
  · obtain ⟨c, rfl, rfl⟩ := H
    obtain ⟨c', e, rfl⟩ := H'
    cases e; rfl
  · obtain ⟨c, t, rfl, rfl⟩ := H
    obtain ⟨c', t', e, rfl⟩ := H'
    injection e with e _
    rw [Int.ofNat.inj e]
  · rename_i h1 h2
    obtain ⟨c, t, rfl, rfl⟩ := H
    split at H'
    · exact absurd rfl h1
    · exact absurd rfl h2
    · obtain ⟨c', t', e, rfl⟩ := H'
      cases e; rfl
theorem TupK.uniq {h : Heap} {κ : Nat} {v : Value} {it it' : Item} (H : TupK h κ v it) (H' : TupK h κ v it') : it = it' := by
  obtain ⟨a, kv, t, u, rfl, ⟨o, ho, hc, n, hd⟩, hk⟩ := H
  obtain ⟨a', kv', t', u', e, ⟨o', ho', hc', n', hd'⟩, hk'⟩ := H'
  cases e
  rw [ho] at ho'; cases ho'
  rw [hd] at hd'
  injection hd' with hd' _
  have hd' := congrArg Array.toList hd'
  simp only [List.toList_toArray, List.cons.injEq, and_true] at hd'
  obtain ⟨e1, e2, e3⟩ := hd'
  subst e1
  injection e2 with e2 _
  injection e3 with e3 _
  have := hk.uniq hk'
  obtain ⟨x, y, z⟩ := it
  obtain ⟨x', y', z'⟩ := it'
  simp only at this e2 e3
  rw [this, e2, e3]
open Classical in
noncomputable def decO (h : Heap) (κ : Nat) (v : Value) : Item := if e : ∃ it, TupK h κ v it then e.choose else dI
theorem decO_of {h : Heap} {κ : Nat} {v : Value} {it : Item} (H : TupK h κ v it) : decO h κ v = it := by
  have e : ∃ it, TupK h κ v it := ⟨it, H⟩
  unfold decO
  rw [dif_pos e]
  exact e.choose_spec.uniq H
theorem decO_none {h : Heap} {κ : Nat} : decO h κ .none = dI := by
  unfold decO
  rw [dif_neg]
  rintro ⟨it, a, kv, t, u, e, _⟩
  cases e
theorem Tups.map {h : Heap} {κ : Nat} {us : List Value} {its : List Item} (H : Tups h κ us its) : us.map (decO h κ) = its := by
  apply List.ext_getElem?
  intro i
  rw [List.getElem?_map]
  by_cases hi : i < us.length
  · rw [List.getElem?_eq_getElem hi]
    have := decO_of (H.2 i _ (List.getElem?_eq_getElem hi))
    simp only [Option.map_some]
    rw [this, List.getD_eq_getElem?_getD, List.getElem?_eq_getElem (by rw [← H.1]; exact hi)]
    rfl
  · rw [List.getElem?_eq_none (by omega), List.getElem?_eq_none (by rw [← H.1]; omega)]; rfl
theorem Tups.all {h : Heap} {κ : Nat} {us : List Value} {its : List Item} (H : Tups h κ us its) : ∀ v ∈ us, TupK h κ v (decO h κ v) := fun v hv => by
  obtain ⟨i, hi, rfl⟩ := List.getElem_of_mem hv
  have := H.2 i _ (List.getElem?_eq_getElem hi)
  rw [decO_of this]; exact this
theorem Tups.of {h : Heap} {κ : Nat} {us : List Value} (H : ∀ v ∈ us, TupK h κ v (decO h κ v)) : Tups h κ us (us.map (decO h κ)) := by
  refine ⟨by simp, fun i v e => ?_⟩
  rw [List.getD_eq_getElem?_getD, List.getElem?_map, e]
  exact H v (List.mem_of_getElem? e)
theorem Tups.ext {h h' : Heap} {κ : Nat} {us vs : List Value} {its : List Item} {l : Addr} (H : Tups h κ us its) (x : Heap.ExtBut l h h') (hl : Lst h l vs) : Tups h' κ us its := ⟨H.1, fun i v e => (H.2 i v e).ext x hl⟩
theorem Tups.keeps {h h' : Heap} {κ : Nat} {us : List Value} {its : List Item} (H : Tups h κ us its) (k : Kp h h') : Tups h' κ us its := ⟨H.1, fun i v e => (H.2 i v e).keeps k⟩
theorem ZSt.keeps {h h' : Heap} {z TI TO i1 i2 l2 : Addr} {f0 : Value} {x left step : Int} {xs : List Value} (Z : ZSt h z TI TO i1 i2 l2 f0 x left step xs) (k : Kp h h') : ZSt h' z TI TO i1 i2 l2 f0 x left step xs :=
  ⟨k _ _ Z.hz, k _ _ Z.hTI, let ⟨a, b, e⟩ := Z.hTO; ⟨a, b, k _ _ e⟩, k _ _ Z.h1, Z.h2.keeps k⟩
theorem TupK.at {h h' : Heap} {κ : Nat} {T : Addr} {it : Item} (H : TupK h κ (.ref T) it) (x : ∀ o, h.get? T = some o → h'.get? T = some o) : TupK h' κ (.ref T) it := by
  obtain ⟨a, kv, t, u, e, ⟨o, ho, r⟩, hk⟩ := H
  cases e
  exact ⟨_, kv, t, u, rfl, ⟨o, x _ ho, r⟩, hk⟩
theorem TupK.extD {h h' : Heap} {κ : Nat} {v : Value} {it : Item} {c : Addr} {o : Obj} {xs : Array Value} (H : TupK h κ v it) (x : Heap.ExtBut c h h') (e : h.get? c = some o) (hd : o.cls ≠ .type "tuple") : TupK h' κ v it := by
  obtain ⟨a, kv, t, u, rfl, ⟨o', ho, hc, r⟩, hk⟩ := H
  refine ⟨a, kv, t, u, rfl, ⟨o', x _ _ (fun q => ?_) ho, hc, r⟩, hk⟩
  subst q
  rw [e] at ho; cases ho; exact hd hc
/-- the state of nsmallest's frame -/
structure NS (h : Heap) (X : Addr → Prop) (fs : List Addr) (L q : Addr) (h' : Heap) (ls : List (Str × Value)) : Prop where
  st : St h (fun a => X a ∨ a ∈ fs) L h' ls
  fr : ∀ a m, a ∈ fs → h.Ns a m → h'.Ns a m
  cell : h'.IsCell (L + 1) (some (.ref q))
  old : ∀ a ∈ fs, ∃ m, h.Ns a m
section
variable {h : Heap} {X : Addr → Prop} {fs : List Addr} {L q : Addr} {h' h'' : Heap} {ls : List (Str × Value)}
theorem NS.sub {l' : List (Str × Value)} (N : NS h X fs L q h' ls) (hs : ∀ p ∈ l', ls.lookup p.1 = some p.2) : NS h X fs L q h' l' := ⟨N.st.sub hs, N.fr, N.cell, N.old⟩
theorem NS.keeps (N : NS h X fs L q h' ls) (k : Kp h' h'') : NS h X fs L q h'' ls := ⟨N.st.keeps k, fun a m ha hn => (N.fr a m ha hn).keeps k, N.cell.keeps k, N.old⟩
theorem NS.apart {c : Addr} (N : NS h X fs L q h' ls) (D : Dat h' c) : c ≠ L ∧ c ≠ L + 1 ∧ c ∉ fs := by
  refine ⟨?_, ?_, ?_⟩
  · rintro rfl
    obtain ⟨m, hm, _⟩ := N.st.loc
    exact D.ns hm
  · rintro rfl
    exact D.cell N.cell
  · intro hc
    obtain ⟨m, hm⟩ := N.old c hc
    exact D.ns (N.fr c m hc hm)
theorem NS.ext {c : Addr} (N : NS h X fs L q h' ls) (x : Heap.ExtBut c h' h'') (D : Dat h' c) (hc : X c ∨ h.get? c = none) : NS h X fs L q h'' ls := by
  obtain ⟨n1, n2, n3⟩ := N.apart D
  refine ⟨N.st.other x n1.symm (hc.imp .inl id), fun a m ha hn => (N.fr a m ha hn).extBut x fun q => n3 (q ▸ ha), ?_, N.old⟩
  obtain ⟨o, ho, hd⟩ := N.cell
  exact ⟨o, x _ _ n2.symm ho, hd⟩
theorem NS.ext' {c : Addr} (N : NS h X fs L q h' ls) (x : Heap.ExtBut c h' h'') (n1 : c ≠ L) (n2 : c ≠ L + 1) (n3 : c ∉ fs) (hc : X c ∨ h.get? c = none) : NS h X fs L q h'' ls := by
  refine ⟨N.st.other x n1.symm (hc.imp .inl id), fun a m ha hn => (N.fr a m ha hn).extBut x fun q => n3 (q ▸ ha), ?_, N.old⟩
  obtain ⟨o, ho, hd⟩ := N.cell
  exact ⟨o, x _ _ n2.symm ho, hd⟩
/-- several things turn -/
theorem NS.extX {Z : Addr → Prop} (N : NS h X fs L q h' ls) (x : ∀ c o, ¬ Z c → h'.get? c = some o → h''.get? c = some o) (hZ : ∀ c, Z c → Dat h' c ∧ (X c ∨ h.get? c = none)) : NS h X fs L q h'' ls := by
  have zL : ¬ Z L := fun z => (N.apart (hZ _ z).1).1 rfl
  have zC : ¬ Z (L + 1) := fun z => (N.apart (hZ _ z).1).2.1 rfl
  have zf : ∀ a ∈ fs, ¬ Z a := fun a ha z => (N.apart (hZ _ z).1).2.2 ha
  have at' : ∀ c m, ¬ Z c → h'.Ns c m → h''.Ns c m := fun c m hz hn => let ⟨o, es, ep, ho, r⟩ := hn; ⟨o, es, ep, x _ _ hz ho, r⟩
  refine ⟨⟨let ⟨m, hm, r⟩ := N.st.loc; ⟨m, at' _ _ zL hm, r⟩, fun c o hc e => ?_, N.st.new⟩, fun a m ha hn => at' _ _ (zf a ha) (N.fr a m ha hn), let ⟨o, ho, hd⟩ := N.cell; ⟨o, x _ _ zC ho, hd⟩, N.old⟩
  refine x c o (fun z => ?_) (N.st.ext c o hc e)
  rcases (hZ c z).2 with q | q
  · exact hc (.inl q)
  · rw [q] at e; cases e
theorem NS.grown (N : NS h X fs L q h' ls) : h.objs.size < h'.objs.size := Nat.lt_of_le_of_lt N.st.new N.st.loc.lt
theorem NS.fresh {c : Addr} (N : NS h X fs L q h' ls) (hc : h'.objs.size ≤ c) : c ≠ L ∧ c ≠ L + 1 ∧ c ∉ fs ∧ h.get? c = none := by
  refine ⟨Nat.ne_of_gt (Nat.lt_of_lt_of_le N.st.loc.lt hc), Nat.ne_of_gt (Nat.lt_of_lt_of_le N.cell.lt hc), fun hf => ?_, ?_⟩
  · obtain ⟨m, hm⟩ := N.old c hf
    exact absurd (N.fr c m hf hm).lt (Nat.not_lt.mpr hc)
  · cases e : h.get? c with
    | none => rfl
    | some o => exact absurd (Nat.lt_trans (Heap.lt_size e) N.grown) (Nat.not_lt.mpr hc)
theorem NS.lst {l : Addr} {us : List Value} (N : NS h X fs L q h' ls) (H : Lst h' l us) (s : Heap.SameBut L h' h'') : Lst h'' l us := H.ext s.extBut (N.apart H.dat).1
theorem NS.src {J : Addr} {xs : List Value} (N : NS h X fs L q h' ls) (S : Src h' J xs) (s : Heap.SameBut L h' h'') : Src h'' J xs := by
  obtain ⟨l, us, SL, hl⟩ := S.toL
  exact (SL.ext s.extBut (N.apart S.dat).1 (N.apart hl.dat).1).src
theorem SrcL.list {h : Heap} {J l : Addr} {xs : List Value} (S : SrcL h J l xs) : ∃ us, Lst h l us := by
  cases S with
  | fwd us i a b c d => exact ⟨us, b⟩
  | rev us i a b c d e => exact ⟨us, b⟩
theorem NS.srcL {J l : Addr} {xs : List Value} (N : NS h X fs L q h' ls) (S : SrcL h' J l xs) (s : Heap.SameBut L h' h'') : SrcL h'' J l xs := by
  obtain ⟨us, hl⟩ := S.list
  exact S.ext s.extBut (N.apart S.src.dat).1 (N.apart hl.dat).1
theorem NS.inp {I : Addr} {xs : List Value} (N : NS h X fs L q h' ls) (S : Inp h' I xs X) (s : Heap.SameBut L h' h'') : Inp h'' I xs X := by
  cases S with
  | list a => exact .list (N.lst a s)
  | rev l us a b c d e =>
    obtain ⟨o, ho, r⟩ := a
    exact .rev l us ⟨o, s.extBut _ _ (N.apart (Dat.fields ho r.2)).1 ho, r⟩ (N.lst b s) c d e
theorem NS.tups {κ : Nat} {us : List Value} {its : List Item} (N : NS h X fs L q h' ls) (H : Tups h' κ us its) (s : Heap.SameBut L h' h'') : Tups h'' κ us its := by
  refine ⟨H.1, fun i v e => ?_⟩
  obtain ⟨a, kv, t, u, rfl, ⟨o, ho, hc, n, hd⟩, hk⟩ := H.2 i v e
  exact ⟨a, kv, t, u, rfl, ⟨o, s.extBut _ _ (N.apart (Dat.seq ho hd)).1 ho, hc, n, hd⟩, hk⟩
theorem NS.kpx (N : NS h X fs L q h' ls) : KpX X fs h h' := ⟨fun a o hX hf e => N.st.ext a o (fun q => q.elim hX hf) e, N.fr⟩
theorem NS.base {b : Heap} (N : NS h X fs L q h' ls) (K : Kp b h) (hX : ∀ a, X a → b.get? a = none) (hf : ∀ a ∈ fs, b.get? a = none) : Kp b h' := N.st.base K fun a q => q.elim (hX a) (hf a)
/-- a thing that was not there at the entry -/
theorem NS.newL {c : Addr} (N : NS h X fs L q h' ls) (hc : h'.get? c = none) : h.get? c = none ∨ X c := by
  cases e : h.get? c with
  | none => exact .inl rfl
  | some o =>
    by_cases hX : X c
    · exact .inr hX
    · by_cases hf : c ∈ fs
      · obtain ⟨m, hm⟩ := N.old c hf
        obtain ⟨o', _, _, ho, _⟩ := N.fr c m hf hm
        rw [hc] at ho; cases ho
      · rw [N.st.ext c o (fun q => q.elim hX hf) e] at hc; cases hc
end
section
variable {prog : Program} {w : World} {A : Around} {h h' b : Heap} {X : Addr → Prop} {fs : List Addr} {q : Addr} {env : Env} {ls : List (Str × Value)}
theorem Rn.storeN {x : Str} {v : Value} {P : Unit → Heap → Prop} (N : NS h X fs env.locals q h' ls) (k : ∀ h'', NS h X fs env.locals q h'' ((x, v) :: ls) → Heap.SameBut env.locals h' h'' → P () h'')
    (hl : env.kindOf x = some .local := by rfl) (hk : env.scope.kind = .function := by rfl) : Rn prog w A h' (PySem.storeName env x v) P :=
  Rn.storeS (env := env) N.st (fun h'' S s => k h'' ⟨S, fun a m ha hn => (N.fr a m ha hn).sameBut s (fun q => by
    obtain ⟨o, _, _, ho, _⟩ := hn
    exact absurd (Heap.lt_size ho) (Nat.not_lt.mpr (q ▸ N.st.new))), N.cell.sameBut s (Nat.succ_ne_self _), N.old⟩ s) hl hk
theorem Rn.iterInp {I : Addr} {vs : List Value} {P : Value → Heap → Prop} (H : Inp h I vs X) (k : ∀ J h', (X J ∨ h.get? J = none) → Src h' J vs → Kp h h' → P (.ref J) h') : Rn prog w A h (pyIter (.ref I)) P := by
  cases H with
  | list a => exact Rn.iterList a fun J h' hJ hS hk => k J h' (.inr hJ) hS hk
  | rev l us a b c d e =>
    have S : Src h I vs := .rev l us us.length a b c (Nat.le_refl _) (by rw [List.take_length]; exact e)
    exact Pv.val (Pv.iterSrc S) (k I h (.inl d) S (Kp.refl _))
theorem Rn.unary {op : UnaryOp} {x : Expr} {pos : Pos} {P : Value → Heap → Prop} (R : Rn prog w A h (eval x env) (fun v h₁ => Rn prog w A h₁ (unaryOp op v) P)) : Rn prog w A h (eval (.UnaryOp op x pos) env) P := by
  refine Rn.of fun s Q E e kk => wpAny_UnaryOp ?_
  subst e
  exact R.use fun a h₁ tk₁ q₁ => Rn.use (s := { s with heap := h₁, toks := tk₁ }) q₁ fun b h₂ tk₂ q₂ => kk _ h₂ tk₂ q₂
/-- an expression's value dropped, whatever it is -/
theorem Rn.exprR {e : Expr} {pos : Pos} {P : Flow → Heap → Prop} (R : Rn prog w A h (eval e env) (fun v h₁ => P .next h₁))
    (hi : interactive env = false := by rfl) (hs : swapsWith e none pos.line env = Pure.pure false := by rfl) : Rn prog w A h (exec (.Expr e pos) env) P := by
  refine Rn.eq (exec_Expr env e pos hi hs) (Rn.bind (Rn.standAt (Rn.bind (R.mono fun v h₁ q => ?_))))
  unfold dropValue
  split
  · exact Rn.pure q
  · refine Rn.bind (Rn.standAt (Rn.of fun s Q E es k => ?_))
    subst es
    exact wpAny_bind (wpAny_runValue (codeAny_builtin entry_let_go (show wpAny _ _ (PySem.ret .none) _ _ s from wpAny_pure (wpAny_pure (k _ _ s.toks q)))))
  · exact Rn.pure q
theorem Rn.iterListX {l : Addr} {vs : List Value} {P : Value → Heap → Prop} (H : Lst h l vs) (k : ∀ I h', h.get? I = none → h'.IsListIter I l 0 → Kp h h' → P (.ref I) h') : Rn prog w A h (pyIter (.ref l)) P :=
  Rn.of fun s Q E es kk => by
    subst es
    exact wpAny_pyIter_list H.isList (kk _ _ _ (k _ _ (fresh_size _) ⟨_, Heap.get?_push_size _ rfl, rfl, rfl⟩ (Kp.push _ _)))
/-- a list's iterator -/
theorem Itr.list {target : Expr} {I l : Addr} {N : Nat} {us : List Value} (hA : A.handled = none) (hI : I < N) (hl : l < N) (hne : l ≠ I) (ht : ∀ v h, (∃ i, h.IsListIter I l i) → Rn prog w A h (letOwnedTupleGo target (.ref I) v) (fun _ h' => h' = h)) :
    Itr prog w A target I N us.length (· = I) (fun i v _ => us[i]? = some v) (fun i h => h.IsListIter I l i ∧ Lst h l us) (fun _ => True) where
  lt := fun b e => e ▸ hI
  keep := fun i h h' H k => ⟨let ⟨o, e, r⟩ := H.1; ⟨o, k _ _ hI e, r⟩, let ⟨n, e⟩ := H.2; ⟨n, k _ _ hl e⟩⟩
  item := fun i h hi H => by
    refine Rn.of fun s Q E es kk => ?_
    subst es
    refine wpAny_pyNext_list_item (x := us[i]) H.1 H.2.isList (by simp [hi]) fun h' hi' hs => kk _ h' s.toks ⟨us[i], rfl, (ht _ h' ⟨_, hi'⟩).mono ?_⟩
    rintro _ h'' rfl
    exact ⟨by simp [hi], ⟨hi', H.2.ext hs.extBut hne⟩, fun b o hb e => hs.extBut b o hb e⟩
  fin := fun h H => by
    refine Rn.of fun s Q E es kk => ?_
    subst es
    exact wpAny_pyNext_list_end hA H.1 H.2.isList (by simp) fun h' hs => kk _ h' s.toks ⟨rfl, trivial, fun b o hb e => hs b o hb e⟩
  self := fun i h H => Rn.of fun s Q E es kk => by subst es; exact wpAny_pyIter_listiter H.1 (kk _ _ s.toks ⟨rfl, rfl⟩)
theorem go_name {x : Str} {pos : Pos} {I l : Addr} (v : Value) (h : Heap) (_ : ∃ i, h.IsListIter I l i) : Rn prog w A h (letOwnedTupleGo (.Name x pos) (.ref I) v) (fun _ h' => h' = h) := Rn.pure rfl
theorem go_tuple {elts : List Expr} {k : Nat} {pos : Pos} {I l : Addr} (v : Value) (h : Heap) (H : ∃ i, h.IsListIter I l i) : Rn prog w A h (letOwnedTupleGo (.Tuple elts k pos) (.ref I) v) (fun _ h' => h' = h) := by
  obtain ⟨i, o, ho, hc, hd⟩ := H
  unfold letOwnedTupleGo
  cases v with
  | ref a =>
    refine Rn.bind (Rn.load ho ?_)
    rw [hc, hd]
    dsimp only
    rw [if_neg (by simp)]
    exact Rn.pure rfl
  | _ => exact Rn.pure rfl
/-- the zip of a range and a source -/
theorem Itr.zip {elts : List Expr} {k : Nat} {pos : Pos} {z TI TO i1 J l : Addr} {N n : Nat} {x0 step : Int} {vs : List Value} (hA : A.handled = none) (D : ZApart z TI TO i1 J) (hz : z < N) (hTI : TI < N) (hTO : TO < N) (hi1 : i1 < N) (hJ : J < N) (hl : l < N) (hn : n ≤ vs.length) :
    Itr prog w A (.Tuple elts k pos) z N n (fun a => a = z ∨ a = TO ∨ a = i1 ∨ a = J) (fun i v h => ∃ T t u, v = .ref T ∧ vs[i]? = some u ∧ Tup h T [.int (x0 + (i : Int) * step) t, u])
      (fun i h => ZSt h z TI TO i1 J l .none (x0 + (i : Int) * step) ((n : Int) - i) step (vs.drop i)) (fun h => SrcL h J l (vs.drop n)) where
  lt := fun b e => by rcases e with rfl | rfl | rfl | rfl <;> assumption
  keep := fun i h h' H k => ⟨k _ _ hz H.hz, k _ _ hTI H.hTI, let ⟨a, b, e⟩ := H.hTO; ⟨a, b, k _ _ hTO e⟩, k _ _ hi1 H.h1, H.h2.keepN hJ hl k⟩
  item := fun i h hi H => by
    have hlt : i < vs.length := by omega
    have hd : vs.drop i = vs[i] :: vs.drop (i + 1) := List.drop_eq_getElem_cons hlt
    rw [hd] at H
    refine Rn.zipNext D H (by omega) fun T h' t hT Z hTup x => ⟨.ref T, rfl, Rn.zipGo D Z fun h'' Z' s => ?_⟩
    have e1 : x0 + (i : Int) * step + step = x0 + ((i + 1 : Nat) : Int) * step := by rw [Int.natCast_succ, Int.add_mul]; omega
    have e2 : (n : Int) - i - 1 = (n : Int) - ((i + 1 : Nat) : Int) := by omega
    rw [e1, e2] at Z'
    refine ⟨⟨T, t, vs[i], rfl, by simp [hlt], ?_⟩, Z', fun b o hb e => s.extBut b o (fun q => hb (.inl q)) (x b o (fun q => hb (.inl q)) (fun q => hb (.inr (.inl q))) (fun q => hb (.inr (.inr (.inl q)))) (fun q => hb (.inr (.inr (.inr q)))) e)⟩
    obtain ⟨o, ho, r⟩ := hTup
    refine ⟨o, s.extBut _ _ (fun q => ?_) ho, r⟩
    rw [q, H.hz] at hT; cases hT
  fin := fun h H => Rn.zipEnd hA D H (by omega) fun h' hS x => ⟨rfl, hS, fun b o hb e => x b o (fun q => hb (.inl q)) (fun q => hb (.inr (.inl q))) (fun q => hb (.inr (.inr (.inl q)))) (fun q => hb (.inr (.inr (.inr q)))) e⟩
  self := fun i h H => Pv.iterZip H
end
end
section
set_option maxRecDepth 100000
set_option maxHeartbeats 1000000
set_option autoImplicit false
set_option linter.unusedVariables false
def stA (n i : Nat) : Stmt := ((bA n)[i]?).getD (.Break default)
def ifB (s : Stmt) : List Stmt := match s with | .If _ b _ _ => b | _ => []
abbrev envN (n : Nat) (a : Addr) (qual : Str) (cdv : Value) (L : Addr) : Env := envX qual (sA n) L a cdv (cellsFrom (L + 1) (sA n).names [])
theorem rsz_up (n : Nat) : Builtin.Range.rangeSize 0 (n : Int) 1 = n := by rw [rangeSize_one]; split <;> omega
theorem rsz_dn (n : Nat) : Builtin.Range.rangeSize 0 (-(n : Int)) (-1) = n := by
  unfold Builtin.Range.rangeSize
  rw [if_neg (by decide), show (- -1 : Int) = 1 from rfl, Int.ediv_one]
  split <;> omega
theorem fitsL (i : Int) (h1 : -1000 ≤ i) (h2 : i ≤ 1000) : Builtin.Range.rangeFitsLong i = true := by
  simp only [Builtin.Range.rangeFitsLong, Bool.and_eq_true, decide_eq_true_eq]
  omega
theorem small_up (n : Nat) (h : n < 999) : Builtin.Range.small 0 (n : Int) 1 = true := by
  unfold Builtin.Range.small
  rw [rsz_up, if_pos (by decide), fitsL 0 (by omega) (by omega), fitsL n (by omega) (by omega), fitsL 1 (by omega) (by omega), fitsL _ (by omega) (by omega)]
  simp
theorem small_dn (n : Nat) (h : n < 999) : Builtin.Range.small 0 (-(n : Int)) (-1) = true := by
  unfold Builtin.Range.small
  rw [rsz_dn, if_neg (by decide), fitsL 0 (by omega) (by omega), fitsL (-(n : Int)) (by omega) (by omega), fitsL (-1) (by omega) (by omega), fitsL n (by omega) (by omega), fitsL _ (by omega) (by omega)]
  simp
section
variable {prog : Program} {w : World} {A : Around} {h h₁ b : Heap} {κ : Nat} {kf : Int → List Nat} {fs : List Addr} {X : Addr → Prop} {n : Nat} {t : Tok} {I q L : Addr} {vs : List Value} {is : List Int} {qual : Str} {cdv : Value}
/-- n == 1 -/
theorem one_nsm (hA : Ok 12 A) (W : Wd b) (K : Kp b h) (F : KeyF prog w b q κ kf) (hXb : ∀ a, X a → b.get? a = none) (hfb : ∀ a ∈ fs, b.get? a = none)
    (N : NS h X fs L q h₁ [("n", .int n t), ("iterable", .ref I)]) (H : Inp h₁ I vs X) (hi : Ints is vs) (h2 : 0 < vs.length) :
    Rn prog w A h₁ (execs (ifB (stA 9 0)) (envN 9 76 qual cdv L)) (fun f h' => ∃ D us, f = .ret (.ref D) ∧ Lst h' D us ∧ Ints ((isort (cK false kf) is).take 1) us ∧ KpX X fs h h') := by
  have K₁ := N.base K hXb hfb
  have S₁ := N.st
  have hbn : ∀ J, (X J ∨ h.get? J = none) → b.get? J = none := fun J hJ => by
    rcases hJ with q | q
    · exact hXb J q
    · cases e : b.get? J with
      | none => rfl
      | some o => rw [K _ _ e] at q; cases q
  refine Rn.seq (I := fun h' => ∃ J, NS h X fs L q h' [("it", .ref J)] ∧ Src h' J vs ∧ (X J ∨ h.get? J = none)) (Rn.opq fun PQ hPQ => Rn.assignName ?_) ?_
  · walk_at "evs"
    refine Rn.iterC fun A' => Rn.iterInp H fun J h₂ hJ hS k₂ => ?_
    have N₂ := N.keeps k₂
    refine Rn.storeN N₂ fun h₃ N₃ s₃ => hPQ _ _ ⟨rfl, J, N₃.sub (by walk_at "subs"), N₂.src hS s₃, ?_⟩
    rcases hJ with q | q
    · exact .inl q
    · exact (N.newL q).symm
  rintro h₂ ⟨J, N₂, S₂, hJ⟩
  have K₂ := N₂.base K hXb hfb
  have T₂ := N₂.st
  refine Rn.seq (I := fun h' => ∃ so, NS h X fs L q h' [("it", .ref J), ("sentinel", .ref so)] ∧ Src h' J vs) (Rn.opq fun PQ hPQ => Rn.assignName ?_) ?_
  · walk_at "evs"
    refine Rn.objectC fun so h₃ hso k₃ => ?_
    have N₃ := N₂.keeps k₃
    exact Rn.storeN N₃ fun h₄ N₄ s₄ => hPQ _ _ ⟨rfl, so, N₄.sub (by walk_at "subs"), N₃.src (S₂.keeps k₃) s₄⟩
  rintro h₃ ⟨so, N₃, S₃⟩
  have K₃ := N₃.base K hXb hfb
  have T₃ := N₃.st
  refine Rn.seq (I := fun h' => ∃ v, NS h X fs L q h' [("sentinel", .ref so), ("result", v)] ∧ Ints ((isort (cK false kf) is).take 1) [v]) (Rn.opq fun PQ hPQ => Rn.assignName ?_) ?_
  · refine Rn.callK ?_
    walk_at "ev"
    refine Rn.cwKBlt ?_
    walk_at "evs"
    refine Rn.kwCons ?_
    walk_at "ev"
    refine Rn.kwCons ?_
    refine Pv.val (Pv.nameC N₃.cell) ?_
    refine Rn.kwNil ?_
    show Rn _ _ _ _ (call (.builtin "min") [.ref J] [(Str.ofString "default", .ref so), (Str.ofString "key", .ref q)]) _
    refine Rn.minK (hA.le (by decide)) F K₃ (hbn J hJ) S₃ hi h2 fun h₄ v hv x₄ => ?_
    exact Rn.storeN (N₃.ext x₄ S₃.dat hJ) fun h₅ N₅ s₅ => hPQ _ _ ⟨rfl, v, N₅.sub (by walk_at "subs"), hv⟩
  rintro h₄ ⟨v, N₄, hv⟩
  obtain ⟨t', rfl⟩ := hv.2 0 v rfl
  have T₄ := N₄.st
  refine Rn.cons (Rn.ret (Rn.ifExp ?_))
  walk_at "evs"
  refine Pv.val Pv.isIR ?_
  walk_at "evs"
  rw [if_neg (by decide)]
  refine Rn.listE ?_
  walk_at "evs"
  exact ⟨by simp, fun T h₅ hT hl k₅ => ⟨T, _, rfl, hl, hv, (N₄.keeps k₅).kpx⟩⟩
/-- the first n items -/
theorem comp_nsm {J : Addr} (hA : Ok 12 A) (W : Wd b) (K : Kp b h) (F : KeyF prog w b q κ kf) (hXb : ∀ a, X a → b.get? a = none) (hfb : ∀ a ∈ fs, b.get? a = none)
    (N : NS h X fs L q h₁ [("n", .int n t), ("it", .ref J)]) (S : Src h₁ J vs) (hJ : X J ∨ h.get? J = none) (hi : Ints is vs) (hn : n ≤ vs.length) (h64 : vs.length < 60) :
    Rn prog w A h₁ (exec (stA 9 4) (envN 9 76 qual cdv L)) (fun f h' => f = .next ∧ ∃ D us, NS h X fs L q h' [("n", .int n t), ("it", .ref J), ("result", .ref D)] ∧ h.get? D = none ∧ Lst h' D us ∧
      Tups h' κ us ((List.range n).map fun i => (kf (is.getD i 0), 0 + (i : Int) * 1, is.getD i 0)) ∧ ∃ l, l ≠ D ∧ SrcL h' J l (vs.drop n)) := by
  obtain ⟨l, us0, SL, hl⟩ := S.toL
  have K₁ := N.base K hXb hfb
  have S₁ := N.st
  refine Rn.listCompTo (cl := [("key", L + 1)]) ?_
  walk_at "evs"
  refine Rn.range1 fun r h₂ t1 t2 hr hR k₂ => ?_
  have N₂ := N.keeps k₂
  have T₂ := N₂.st
  walk_at "evs"
  refine Rn.zipR hR (small_up n (by omega)) (SL.keeps k₂) fun z TI TO i1 h₃ hz hTI hTO hi1 D Z k₃ => ?_
  rw [rsz_up] at Z
  refine Pv.val (Pv.iterZip Z) ?_
  have N₃ := N₂.keeps k₃
  have hdz : Dat h₃ z := Dat.fields Z.hz rfl
  have hdT : Dat h₃ TO := by obtain ⟨a, b, e⟩ := Z.hTO; exact Dat.seq e rfl
  have hd1 : Dat h₃ i1 := Dat.fields Z.h1 rfl
  have hdJ : Dat h₃ J := Z.h2.src.dat
  have lt_of : ∀ {c}, Dat h₃ c → c < h₃.objs.size := fun d => let ⟨o, e, _⟩ := d; Heap.lt_size e
  have hl₃ : l < h₃.objs.size := ((hl.keeps k₂).keeps k₃).lt
  have hTI₃ : TI < h₃.objs.size := Heap.lt_size Z.hTI
  have hXz : ∀ c, (c = z ∨ c = TO ∨ c = i1 ∨ c = J) → Dat h₃ c ∧ (X c ∨ h.get? c = none) := by
    rintro c (rfl | rfl | rfl | rfl)
    · exact ⟨hdz, (N₂.newL hz).symm⟩
    · exact ⟨hdT, (N₂.newL hTO).symm⟩
    · exact ⟨hd1, (N₂.newL hi1).symm⟩
    · exact ⟨hdJ, hJ⟩
  refine Rn.compFrame fun h₄ S₄ => ?_
  have k₄ : Kp h₃ h₄ := (Kp.push _ _).trans S₄.kp
  have hsz : (h₃.push { cls := .type "list", data := .seq #[] }).objs.size = h₃.objs.size + 1 := Heap.size_push ..
  have hD₄ : Lst h₄ h₃.objs.size [] := ⟨0, S₄.kp _ _ (Heap.get?_push_size _ rfl)⟩
  have hLoc₄ := S₄.loc
  rw [hsz] at hLoc₄
  refine ⟨Pv.iterZip (Z.keeps k₄), ?_⟩
  rw [hsz]
  have hC : h₃.objs.size ≤ h₃.objs.size + 1 := Nat.le_succ _
  have Z0 : ZSt h₃ z TI TO i1 J l .none (0 + ((0 : Nat) : Int) * 1) ((n : Int) - ((0 : Nat) : Int)) 1 (vs.drop 0) := by simpa using Z
  refine RnC.compMap (N := h₃.objs.size) (n := n) (Y := (· = h₃.objs.size + 1)) (h₂ := h₃) (Itr.zip (x0 := 0) (step := 1) (vs := vs) hA.1 D (lt_of hdz) hTI₃ (lt_of hdT) (lt_of hd1) (lt_of hdJ) hl₃ hn) (fun _ => true)
    (fun i y h' => ∃ T, y = .ref T ∧ h₃.objs.size ≤ T ∧ T ≠ h₃.objs.size + 1 ∧ T ≠ h₃.objs.size ∧ TupK h' κ y (kf (is.getD i 0), 0 + (i : Int) * 1, is.getD i 0)) (fun h' => Loc h' (h₃.objs.size + 1) [])
    (fun i h' => ∃ ti u, IsI (is.getD i 0) u ∧ Loc h' (h₃.objs.size + 1) [("elem", u), ("i", .int (0 + (i : Int) * 1) ti)]) rfl (by omega) (Nat.le_refl _) ?_ ?_ ?_ ?_ ?_ ?_ (by simpa using Z.keeps k₄) hLoc₄ hD₄ k₄ ?_
  · rintro c rfl
    exact ⟨Nat.le_succ _, Nat.succ_ne_self _⟩
  · rintro h5 h6 ⟨m, hm, r⟩ k
    obtain ⟨o, es, ep, ho, r'⟩ := hm
    refine ⟨m, ⟨o, es, ep, k _ _ (fun z => ?_) (Nat.succ_ne_self _) ho, r'⟩, r⟩
    exact absurd (lt_of (hXz _ z).1) (Nat.not_lt.mpr (Nat.le_succ _))
  · rintro i h5 ⟨ti, u, _, hL⟩
    exact hL.sub (by walk_at "subs")
  · rintro i y h5 h6 ⟨T, rfl, hT, hT1, hT2, hk⟩ k
    exact ⟨T, rfl, hT, hT1, hT2, hk.at fun o e => k T o hT hT1 hT2 e⟩
  · rintro i v h5 hin hL ⟨T, ti, u, rfl, hu, hTup⟩
    refine Rn.tup2 hA.1 hTup fun h6 k6 => ?_
    refine Rn.storeName (hL.keeps k6) fun h7 hL7 s7 => ?_
    refine Rn.storeName hL7 fun h8 hL8 s8 => ⟨⟨ti, u, hi.2 i u hu, hL8.sub (by walk_at "subs")⟩, fun c o hc e => ?_⟩
    exact s8.extBut c o hc (s7.extBut c o hc (k6 c o e))
  · rintro i h5 hin ⟨ti, u, ⟨tu, rfl⟩, hL⟩ ⟨us, hD5⟩ hk
    refine Rn.testsNil ⟨rfl, Kp.refl _, fun _ => ?_⟩
    have hc5 : h5.IsCell (L + 1) (some (.ref q)) := by
      obtain ⟨o, ho, hd⟩ := N₃.cell
      refine ⟨o, hk _ o (fun z => ?_) ho, hd⟩
      exact (N₃.apart (hXz _ z).1).2.1 rfl
    have K5 : Kp b h5 := fun a o e => hk a o (fun z => by
      rcases (hXz _ z).2 with q | q
      · rw [hXb a q] at e; cases e
      · rw [K _ _ e] at q; cases q) (k₃ _ _ (k₂ _ _ (K₁ a o e)))
    obtain ⟨fn, dV, hFn⟩ := F.1
    refine Rn.tupleE (Rn.argsCons (Rn.callE (Pv.val (Pv.nameC hc5) (Rn.cwDef hFn (Rn.argsCons (Pv.val (Pv.name hL rfl) (Rn.argsNil ⟨K5, (F.2 A h5 _ _ (hA.le (by decide)) K5).mono ?_⟩)))))))
    rintro kv h6 ⟨hkv, k6⟩
    refine Rn.argsCons (Pv.val (Pv.name (hL.keeps k6) rfl) (Rn.argsCons (Pv.val (Pv.name (hL.keeps k6) rfl) (Rn.argsNil ⟨by simp, fun T h7 hT hTup k7 hlt => ?_⟩))))
    have hCl := (hL.keeps k6).lt
    have hDl := (hD5.keeps k6).lt
    exact ⟨⟨T, rfl, Nat.le_of_not_lt fun q => hlt T (Nat.lt_trans q (Nat.lt_of_succ_lt hCl)) rfl, (hlt _ hCl).symm, (hlt _ hDl).symm, T, kv, ti, tu, rfl, hTup, hkv⟩, k6.trans k7⟩
  · intro h5 ys hSL hL hD5 hlen hys hk
    have hfl : (List.range n).filter (fun _ => true) = List.range n := by simp
    rw [hfl] at hlen hys
    have N5 : NS h X fs L q h5 _ := N₃.extX (Z := fun c => c = z ∨ c = TO ∨ c = i1 ∨ c = J) hk hXz
    have fD := N₃.fresh (c := h₃.objs.size) (Nat.le_refl _)
    have fC := N₃.fresh (c := h₃.objs.size + 1) (Nat.le_succ _)
    have hS5 : Src h5 J (vs.drop n) := hSL.src
    refine Rn.storeN N5 fun h6 N6 s6 => ?_
    obtain ⟨mC, hmC, _⟩ := hL
    refine ⟨mC, hmC.sameBut s6 fC.1, fun h7 s7 => ⟨rfl, h₃.objs.size, ys, ?_, fD.2.2.2, ?_, ?_, ?_⟩⟩
    · exact (N6.ext' s7.extBut fC.1 fC.2.1 fC.2.2.1 (.inr fC.2.2.2)).sub (by walk_at "subs")
    · exact (N5.lst hD5 s6).ext s7.extBut (Nat.ne_of_lt (Nat.lt_succ_self _))
    · refine ⟨by rw [hlen]; simp, fun j y e => ?_⟩
      obtain ⟨i, hij, T, rfl, hT, hT1, hT2, hTK⟩ := hys j y e
      have hjn : j < n := by have := (List.getElem?_eq_some_iff.mp hij).1; simpa using this
      have hij' : i = j := by rw [List.getElem?_range hjn] at hij; exact (Option.some.inj hij).symm
      subst hij'
      have eg : ((List.range n).map fun i => (kf (is.getD i 0), 0 + (i : Int) * 1, is.getD i 0)).getD i dI = (kf (is.getD i 0), 0 + (i : Int) * 1, is.getD i 0) := by
        rw [List.getD_eq_getElem?_getD, List.getElem?_map, List.getElem?_range hjn]; rfl
      rw [eg]
      refine hTK.at fun o e => s7.extBut _ _ hT1 (s6.extBut _ _ (fun q => ?_) e)
      exact absurd (Nat.lt_of_lt_of_le N₃.st.loc.lt hT) (by rw [q]; exact Nat.lt_irrefl _)
    · have hJ5 := (N5.apart hS5.dat).1
      obtain ⟨us5, hl5⟩ : ∃ us, Lst h5 l us := by
        cases hSL with
        | fwd us i a b c d => exact ⟨us, b⟩
        | rev us i a b c d e => exact ⟨us, b⟩
      refine ⟨l, Nat.ne_of_lt hl₃, (hSL.ext s6.extBut hJ5 (N5.apart hl5.dat).1).ext s7.extBut ?_ ?_⟩
      · exact Nat.ne_of_lt (Nat.lt_succ_of_lt (lt_of hdJ))
      · exact Nat.ne_of_lt (Nat.lt_succ_of_lt hl₃)
/-- n == 1 -/
theorem one_nlg (hA : Ok 12 A) (W : Wd b) (K : Kp b h) (F : KeyF prog w b q κ kf) (hXb : ∀ a, X a → b.get? a = none) (hfb : ∀ a ∈ fs, b.get? a = none)
    (N : NS h X fs L q h₁ [("n", .int n t), ("iterable", .ref I)]) (H : Inp h₁ I vs X) (hi : Ints is vs) (h2 : 0 < vs.length) :
    Rn prog w A h₁ (execs (ifB (stA 10 0)) (envN 10 82 qual cdv L)) (fun f h' => ∃ D us, f = .ret (.ref D) ∧ Lst h' D us ∧ Ints ((isort (cK true kf) is).take 1) us ∧ KpX X fs h h') := by
  have K₁ := N.base K hXb hfb
  have S₁ := N.st
  have hbn : ∀ J, (X J ∨ h.get? J = none) → b.get? J = none := fun J hJ => by
    rcases hJ with q | q
    · exact hXb J q
    · cases e : b.get? J with
      | none => rfl
      | some o => rw [K _ _ e] at q; cases q
  refine Rn.seq (I := fun h' => ∃ J, NS h X fs L q h' [("it", .ref J)] ∧ Src h' J vs ∧ (X J ∨ h.get? J = none)) (Rn.opq fun PQ hPQ => Rn.assignName ?_) ?_
  · walk_at "evs"
    refine Rn.iterC fun A' => Rn.iterInp H fun J h₂ hJ hS k₂ => ?_
    have N₂ := N.keeps k₂
    refine Rn.storeN N₂ fun h₃ N₃ s₃ => hPQ _ _ ⟨rfl, J, N₃.sub (by walk_at "subs"), N₂.src hS s₃, ?_⟩
    rcases hJ with q | q
    · exact .inl q
    · exact (N.newL q).symm
  rintro h₂ ⟨J, N₂, S₂, hJ⟩
  have K₂ := N₂.base K hXb hfb
  have T₂ := N₂.st
  refine Rn.seq (I := fun h' => ∃ so, NS h X fs L q h' [("it", .ref J), ("sentinel", .ref so)] ∧ Src h' J vs) (Rn.opq fun PQ hPQ => Rn.assignName ?_) ?_
  · walk_at "evs"
    refine Rn.objectC fun so h₃ hso k₃ => ?_
    have N₃ := N₂.keeps k₃
    exact Rn.storeN N₃ fun h₄ N₄ s₄ => hPQ _ _ ⟨rfl, so, N₄.sub (by walk_at "subs"), N₃.src (S₂.keeps k₃) s₄⟩
  rintro h₃ ⟨so, N₃, S₃⟩
  have K₃ := N₃.base K hXb hfb
  have T₃ := N₃.st
  refine Rn.seq (I := fun h' => ∃ v, NS h X fs L q h' [("sentinel", .ref so), ("result", v)] ∧ Ints ((isort (cK true kf) is).take 1) [v]) (Rn.opq fun PQ hPQ => Rn.assignName ?_) ?_
  · refine Rn.callK ?_
    walk_at "ev"
    refine Rn.cwKBlt ?_
    walk_at "evs"
    refine Rn.kwCons ?_
    walk_at "ev"
    refine Rn.kwCons ?_
    refine Pv.val (Pv.nameC N₃.cell) ?_
    refine Rn.kwNil ?_
    show Rn _ _ _ _ (call (.builtin "max") [.ref J] [(Str.ofString "default", .ref so), (Str.ofString "key", .ref q)]) _
    refine Rn.maxK (hA.le (by decide)) F K₃ (hbn J hJ) S₃ hi h2 fun h₄ v hv x₄ => ?_
    exact Rn.storeN (N₃.ext x₄ S₃.dat hJ) fun h₅ N₅ s₅ => hPQ _ _ ⟨rfl, v, N₅.sub (by walk_at "subs"), hv⟩
  rintro h₄ ⟨v, N₄, hv⟩
  obtain ⟨t', rfl⟩ := hv.2 0 v rfl
  have T₄ := N₄.st
  refine Rn.cons (Rn.ret (Rn.ifExp ?_))
  walk_at "evs"
  refine Pv.val Pv.isIR ?_
  walk_at "evs"
  rw [if_neg (by decide)]
  refine Rn.listE ?_
  walk_at "evs"
  exact ⟨by simp, fun T h₅ hT hl k₅ => ⟨T, _, rfl, hl, hv, (N₄.keeps k₅).kpx⟩⟩
/-- the first n items -/
theorem comp_nlg {J : Addr} (hA : Ok 12 A) (W : Wd b) (K : Kp b h) (F : KeyF prog w b q κ kf) (hXb : ∀ a, X a → b.get? a = none) (hfb : ∀ a ∈ fs, b.get? a = none)
    (N : NS h X fs L q h₁ [("n", .int n t), ("it", .ref J)]) (S : Src h₁ J vs) (hJ : X J ∨ h.get? J = none) (hi : Ints is vs) (hn : n ≤ vs.length) (h64 : vs.length < 60) :
    Rn prog w A h₁ (exec (stA 10 4) (envN 10 82 qual cdv L)) (fun f h' => f = .next ∧ ∃ D us, NS h X fs L q h' [("n", .int n t), ("it", .ref J), ("result", .ref D)] ∧ h.get? D = none ∧ Lst h' D us ∧
      Tups h' κ us ((List.range n).map fun i => (kf (is.getD i 0), 0 + (i : Int) * (-1), is.getD i 0)) ∧ ∃ l, l ≠ D ∧ SrcL h' J l (vs.drop n)) := by
  obtain ⟨l, us0, SL, hl⟩ := S.toL
  have K₁ := N.base K hXb hfb
  have S₁ := N.st
  refine Rn.listCompTo (cl := [("key", L + 1)]) ?_
  walk_at "evs"
  refine Rn.unary ?_
  walk_at "evs"
  refine Pv.thenI Pv.negI fun tn => ?_
  walk_at "evs"
  refine Rn.unary ?_
  walk_at "evs"
  refine Pv.thenI Pv.negI fun tm => ?_
  walk_at "evs"
  refine Rn.range3 (by decide) (PyProof.noPylong_of_log2 (by decide +kernel)) fun r h₂ hr hR k₂ => ?_
  have N₂ := N.keeps k₂
  have T₂ := N₂.st
  walk_at "evs"
  refine Rn.zipR hR (small_dn n (by omega)) (SL.keeps k₂) fun z TI TO i1 h₃ hz hTI hTO hi1 D Z k₃ => ?_
  rw [rsz_dn] at Z
  refine Pv.val (Pv.iterZip Z) ?_
  have N₃ := N₂.keeps k₃
  have hdz : Dat h₃ z := Dat.fields Z.hz rfl
  have hdT : Dat h₃ TO := by obtain ⟨a, b, e⟩ := Z.hTO; exact Dat.seq e rfl
  have hd1 : Dat h₃ i1 := Dat.fields Z.h1 rfl
  have hdJ : Dat h₃ J := Z.h2.src.dat
  have lt_of : ∀ {c}, Dat h₃ c → c < h₃.objs.size := fun d => let ⟨o, e, _⟩ := d; Heap.lt_size e
  have hl₃ : l < h₃.objs.size := ((hl.keeps k₂).keeps k₃).lt
  have hTI₃ : TI < h₃.objs.size := Heap.lt_size Z.hTI
  have hXz : ∀ c, (c = z ∨ c = TO ∨ c = i1 ∨ c = J) → Dat h₃ c ∧ (X c ∨ h.get? c = none) := by
    rintro c (rfl | rfl | rfl | rfl)
    · exact ⟨hdz, (N₂.newL hz).symm⟩
    · exact ⟨hdT, (N₂.newL hTO).symm⟩
    · exact ⟨hd1, (N₂.newL hi1).symm⟩
    · exact ⟨hdJ, hJ⟩
  refine Rn.compFrame fun h₄ S₄ => ?_
  have k₄ : Kp h₃ h₄ := (Kp.push _ _).trans S₄.kp
  have hsz : (h₃.push { cls := .type "list", data := .seq #[] }).objs.size = h₃.objs.size + 1 := Heap.size_push ..
  have hD₄ : Lst h₄ h₃.objs.size [] := ⟨0, S₄.kp _ _ (Heap.get?_push_size _ rfl)⟩
  have hLoc₄ := S₄.loc
  rw [hsz] at hLoc₄
  refine ⟨Pv.iterZip (Z.keeps k₄), ?_⟩
  rw [hsz]
  have hC : h₃.objs.size ≤ h₃.objs.size + 1 := Nat.le_succ _
  have Z0 : ZSt h₃ z TI TO i1 J l .none (0 + ((0 : Nat) : Int) * (-1)) ((n : Int) - ((0 : Nat) : Int)) (-1) (vs.drop 0) := by simpa using Z
  refine RnC.compMap (N := h₃.objs.size) (n := n) (Y := (· = h₃.objs.size + 1)) (h₂ := h₃) (Itr.zip (x0 := 0) (step := (-1)) (vs := vs) hA.1 D (lt_of hdz) hTI₃ (lt_of hdT) (lt_of hd1) (lt_of hdJ) hl₃ hn) (fun _ => true)
    (fun i y h' => ∃ T, y = .ref T ∧ h₃.objs.size ≤ T ∧ T ≠ h₃.objs.size + 1 ∧ T ≠ h₃.objs.size ∧ TupK h' κ y (kf (is.getD i 0), 0 + (i : Int) * (-1), is.getD i 0)) (fun h' => Loc h' (h₃.objs.size + 1) [])
    (fun i h' => ∃ ti u, IsI (is.getD i 0) u ∧ Loc h' (h₃.objs.size + 1) [("elem", u), ("i", .int (0 + (i : Int) * (-1)) ti)]) rfl (by omega) (Nat.le_refl _) ?_ ?_ ?_ ?_ ?_ ?_ (by simpa using Z.keeps k₄) hLoc₄ hD₄ k₄ ?_
  · rintro c rfl
    exact ⟨Nat.le_succ _, Nat.succ_ne_self _⟩
  · rintro h5 h6 ⟨m, hm, r⟩ k
    obtain ⟨o, es, ep, ho, r'⟩ := hm
    refine ⟨m, ⟨o, es, ep, k _ _ (fun z => ?_) (Nat.succ_ne_self _) ho, r'⟩, r⟩
    exact absurd (lt_of (hXz _ z).1) (Nat.not_lt.mpr (Nat.le_succ _))
  · rintro i h5 ⟨ti, u, _, hL⟩
    exact hL.sub (by walk_at "subs")
  · rintro i y h5 h6 ⟨T, rfl, hT, hT1, hT2, hk⟩ k
    exact ⟨T, rfl, hT, hT1, hT2, hk.at fun o e => k T o hT hT1 hT2 e⟩
  · rintro i v h5 hin hL ⟨T, ti, u, rfl, hu, hTup⟩
    refine Rn.tup2 hA.1 hTup fun h6 k6 => ?_
    refine Rn.storeName (hL.keeps k6) fun h7 hL7 s7 => ?_
    refine Rn.storeName hL7 fun h8 hL8 s8 => ⟨⟨ti, u, hi.2 i u hu, hL8.sub (by walk_at "subs")⟩, fun c o hc e => ?_⟩
    exact s8.extBut c o hc (s7.extBut c o hc (k6 c o e))
  · rintro i h5 hin ⟨ti, u, ⟨tu, rfl⟩, hL⟩ ⟨us, hD5⟩ hk
    refine Rn.testsNil ⟨rfl, Kp.refl _, fun _ => ?_⟩
    have hc5 : h5.IsCell (L + 1) (some (.ref q)) := by
      obtain ⟨o, ho, hd⟩ := N₃.cell
      refine ⟨o, hk _ o (fun z => ?_) ho, hd⟩
      exact (N₃.apart (hXz _ z).1).2.1 rfl
    have K5 : Kp b h5 := fun a o e => hk a o (fun z => by
      rcases (hXz _ z).2 with q | q
      · rw [hXb a q] at e; cases e
      · rw [K _ _ e] at q; cases q) (k₃ _ _ (k₂ _ _ (K₁ a o e)))
    obtain ⟨fn, dV, hFn⟩ := F.1
    refine Rn.tupleE (Rn.argsCons (Rn.callE (Pv.val (Pv.nameC hc5) (Rn.cwDef hFn (Rn.argsCons (Pv.val (Pv.name hL rfl) (Rn.argsNil ⟨K5, (F.2 A h5 _ _ (hA.le (by decide)) K5).mono ?_⟩)))))))
    rintro kv h6 ⟨hkv, k6⟩
    refine Rn.argsCons (Pv.val (Pv.name (hL.keeps k6) rfl) (Rn.argsCons (Pv.val (Pv.name (hL.keeps k6) rfl) (Rn.argsNil ⟨by simp, fun T h7 hT hTup k7 hlt => ?_⟩))))
    have hCl := (hL.keeps k6).lt
    have hDl := (hD5.keeps k6).lt
    exact ⟨⟨T, rfl, Nat.le_of_not_lt fun q => hlt T (Nat.lt_trans q (Nat.lt_of_succ_lt hCl)) rfl, (hlt _ hCl).symm, (hlt _ hDl).symm, T, kv, ti, tu, rfl, hTup, hkv⟩, k6.trans k7⟩
  · intro h5 ys hSL hL hD5 hlen hys hk
    have hfl : (List.range n).filter (fun _ => true) = List.range n := by simp
    rw [hfl] at hlen hys
    have N5 : NS h X fs L q h5 _ := N₃.extX (Z := fun c => c = z ∨ c = TO ∨ c = i1 ∨ c = J) hk hXz
    have fD := N₃.fresh (c := h₃.objs.size) (Nat.le_refl _)
    have fC := N₃.fresh (c := h₃.objs.size + 1) (Nat.le_succ _)
    have hS5 : Src h5 J (vs.drop n) := hSL.src
    refine Rn.storeN N5 fun h6 N6 s6 => ?_
    obtain ⟨mC, hmC, _⟩ := hL
    refine ⟨mC, hmC.sameBut s6 fC.1, fun h7 s7 => ⟨rfl, h₃.objs.size, ys, ?_, fD.2.2.2, ?_, ?_, ?_⟩⟩
    · exact (N6.ext' s7.extBut fC.1 fC.2.1 fC.2.2.1 (.inr fC.2.2.2)).sub (by walk_at "subs")
    · exact (N5.lst hD5 s6).ext s7.extBut (Nat.ne_of_lt (Nat.lt_succ_self _))
    · refine ⟨by rw [hlen]; simp, fun j y e => ?_⟩
      obtain ⟨i, hij, T, rfl, hT, hT1, hT2, hTK⟩ := hys j y e
      have hjn : j < n := by have := (List.getElem?_eq_some_iff.mp hij).1; simpa using this
      have hij' : i = j := by rw [List.getElem?_range hjn] at hij; exact (Option.some.inj hij).symm
      subst hij'
      have eg : ((List.range n).map fun i => (kf (is.getD i 0), 0 + (i : Int) * (-1), is.getD i 0)).getD i dI = (kf (is.getD i 0), 0 + (i : Int) * (-1), is.getD i 0) := by
        rw [List.getD_eq_getElem?_getD, List.getElem?_map, List.getElem?_range hjn]; rfl
      rw [eg]
      refine hTK.at fun o e => s7.extBut _ _ hT1 (s6.extBut _ _ (fun q => ?_) e)
      exact absurd (Nat.lt_of_lt_of_le N₃.st.loc.lt hT) (by rw [q]; exact Nat.lt_irrefl _)
    · have hJ5 := (N5.apart hS5.dat).1
      obtain ⟨us5, hl5⟩ : ∃ us, Lst h5 l us := by
        cases hSL with
        | fwd us i a b c d => exact ⟨us, b⟩
        | rev us i a b c d e => exact ⟨us, b⟩
      refine ⟨l, Nat.ne_of_lt hl₃, (hSL.ext s6.extBut hJ5 (N5.apart hl5.dat).1).ext s7.extBut ?_ ?_⟩
      · exact Nat.ne_of_lt (Nat.lt_succ_of_lt (lt_of hdJ))
      · exact Nat.ne_of_lt (Nat.lt_succ_of_lt hl₃)
end
end
section
set_option maxRecDepth 100000
set_option maxHeartbeats 1000000
set_option autoImplicit false
set_option linter.unusedVariables false
/-- the heap's items, ordered as a heap -/
structure HpS (fl : Bool) (kf : Int → List Nat) (is : List Int) (κ : Nat) (m n : Nat) (h : Heap) (D : Addr) (o : Int) (us : List Value) (its : List Item) : Prop where
  lst : Lst h D us
  tups : Tups h κ us its
  inv : HInv fl kf is m n its o
  heap : HeapFrom dI (fun x y => pr fl y x) its 0
theorem swp_so (fl : Bool) : SO (fun x y => pr fl y x) := ⟨fun a b h => (pr_so fl).asym _ _ h, fun a b c h1 h2 => (pr_so fl).ntrans _ _ _ h2 h1⟩
theorem HpS.keeps {fl : Bool} {kf : Int → List Nat} {is : List Int} {κ m n : Nat} {h h' : Heap} {D : Addr} {o : Int} {us : List Value} {its : List Item} (H : HpS fl kf is κ m n h D o us its) (k : Kp h h') : HpS fl kf is κ m n h' D o us its :=
  ⟨H.lst.keeps k, H.tups.keeps k, H.inv, H.heap⟩
theorem Src.cls {h : Heap} {J : Addr} {xs : List Value} (S : Src h J xs) : ∃ o, h.get? J = some o ∧ o.cls ≠ .type "tuple" := by
  cases S with
  | fwd l us i a _ _ _ => obtain ⟨o, ho, hc, _⟩ := a; exact ⟨o, ho, by rw [hc]; intro q; injection q with q; exact absurd q (by decide)⟩
  | rev l us i a _ _ _ _ => obtain ⟨o, ho, hc, _⟩ := a; exact ⟨o, ho, by rw [hc]; intro q; injection q with q; exact absurd q (by decide)⟩
theorem HpS.src {fl : Bool} {kf : Int → List Nat} {is : List Int} {κ m n : Nat} {h h' : Heap} {D J : Addr} {o : Int} {us xs : List Value} {its : List Item} (H : HpS fl kf is κ m n h D o us its) (S : Src h J xs) (x : Heap.ExtBut J h h') : HpS fl kf is κ m n h' D o us its := by
  have hne : D ≠ J := fun e => S.not_list (e ▸ H.lst)
  refine ⟨H.lst.ext x hne, ⟨H.tups.1, fun i v e => ?_⟩, H.inv, H.heap⟩
  obtain ⟨T, kv, t1, t2, rfl, ⟨oT, hoT, hcT, rT⟩, hk⟩ := H.tups.2 i v e
  refine ⟨T, kv, t1, t2, rfl, ⟨oT, x _ _ (fun q => ?_) hoT, hcT, rT⟩, hk⟩
  subst q
  obtain ⟨o', ho', hc'⟩ := S.cls
  rw [hoT] at ho'; cases ho'; exact hc' hcT
theorem HpS.store {fl : Bool} {kf : Int → List Nat} {is : List Int} {κ m n : Nat} {h h₀ h' : Heap} {X : Addr → Prop} {fs : List Addr} {L q D : Addr} {ls : List (Str × Value)} {o : Int} {us : List Value} {its : List Item} (H : HpS fl kf is κ m n h D o us its) (N : NS h₀ X fs L q h ls) (s : Heap.SameBut L h h') : HpS fl kf is κ m n h' D o us its :=
  ⟨N.lst H.lst s, N.tups H.tups s, H.inv, H.heap⟩
theorem HpS.skip {fl : Bool} {kf : Int → List Nat} {is : List Int} {κ m n : Nat} {h : Heap} {D : Addr} {o : Int} {us : List Value} {its : List Item} (H : HpS fl kf is κ m n h D o us its) (hn : 0 < n) (hk : kc fl (kf (is.getD m 0)) (its.getD 0 dI).1 = false) : HpS fl kf is κ (m + 1) n h D o us its := by
  refine ⟨H.lst, H.tups, ?_, H.heap⟩
  have hlen := H.inv.len
  have htop := heap_top (swp_so fl) H.heap
  match its, hlen with
  | [], hl => exact absurd hl (by simp; omega)
  | top :: rest, _ => exact (H.inv.top htop).2.1 hk
theorem HpS.replace {fl : Bool} {kf : Int → List Nat} {is : List Int} {κ m n : Nat} {h h' : Heap} {D T : Addr} {o o' : Int} {us : List Value} {its : List Item} (H : HpS fl kf is κ m n h D o us its) (hn : 0 < n) (hk : kc fl (kf (is.getD m 0)) (its.getD 0 dI).1 = true)
    (hT : TupK h κ (.ref T) (kf (is.getD m 0), o, is.getD m 0)) (ho : oc fl o o') (x : Heap.ExtBut D h h') (H' : Lst h' D (hrep Value.none (fun v u => pr fl (decO h κ u) (decO h κ v)) us (.ref T))) :
    ∃ us' its', HpS fl kf is κ (m + 1) n h' D o' us' its' := by
  have hlen := H.inv.len
  have hul : us.length = n := by rw [H.tups.1, hlen]
  have hall := H.tups.all
  have hdT := decO_of hT
  have htop := heap_top (swp_so fl) H.heap
  have hper := hrep_perm (d := Value.none) (bf := fun v u => pr fl (decO h κ u) (decO h κ v)) (vs := us) (x := .ref T) (by omega)
  have hmem : ∀ v ∈ hrep Value.none (fun v u => pr fl (decO h κ u) (decO h κ v)) us (.ref T), TupK h κ v (decO h κ v) := fun v hv => by
    have := hper.mem_iff.mp hv
    rcases List.mem_or_eq_of_mem_set this with q | q
    · exact hall v q
    · rw [q, hdT]; exact hT
  have hmap : (hrep Value.none (fun v u => pr fl (decO h κ u) (decO h κ v)) us (.ref T)).map (decO h κ) = hrep dI (fun x y => pr fl y x) its (kf (is.getD m 0), o, is.getD m 0) := by
    rw [hrep_map (decO h κ) (bg := fun x y => pr fl y x) (fun _ _ => rfl), decO_none, H.tups.map, hdT]
  refine ⟨_, hrep dI (fun x y => pr fl y x) its (kf (is.getD m 0), o, is.getD m 0), H', ?_, ?_, hrep_heap (swp_so fl) (by rw [hlen]; exact hn) H.heap⟩
  · have := Tups.of hmem
    rw [hmap] at this
    exact this.ext x H.lst
  · refine HInv.perm ?_ (hrep_perm (by rw [hlen]; exact hn))
    match its, hlen with
    | [], hl => exact absurd hl (by simp; omega)
    | top :: rest, _ => exact (H.inv.top htop).2.2 hk o' ho
theorem HpS.heapify {fl : Bool} {kf : Int → List Nat} {is : List Int} {κ n : Nat} {h h' : Heap} {D : Addr} {us : List Value} (ord : Nat → Int) (hord : ∀ i j, i < j → oc fl (ord i) (ord j)) (H : Lst h D us)
    (ht : Tups h κ us ((List.range n).map fun i => (kf (is.getD i 0), ord i, is.getD i 0))) (x : Heap.ExtBut D h h') (H' : Lst h' D (hfy Value.none (fun v u => pr fl (decO h κ u) (decO h κ v)) (us.length / 2) us)) :
    ∃ us' its', HpS fl kf is κ n n h' D (ord n) us' its' := by
  have hmap : (hfy Value.none (fun v u => pr fl (decO h κ u) (decO h κ v)) (us.length / 2) us).map (decO h κ) = hfy dI (fun x y => pr fl y x) (us.length / 2) ((List.range n).map fun i => (kf (is.getD i 0), ord i, is.getD i 0)) := by
    rw [hfy_map (decO h κ) (bg := fun x y => pr fl y x) (fun _ _ => rfl), decO_none, ht.map]
  have hl := ht.1
  have hper := hfy_perm (d := Value.none) (bf := fun v u => pr fl (decO h κ u) (decO h κ v)) (k := us.length / 2) (vs := us) (by omega)
  refine ⟨_, hfy dI (fun x y => pr fl y x) (us.length / 2) ((List.range n).map fun i => (kf (is.getD i 0), ord i, is.getD i 0)), H', ?_, ?_, ?_⟩
  · have := Tups.of (h := h) (κ := κ) (us := hfy Value.none (fun v u => pr fl (decO h κ u) (decO h κ v)) (us.length / 2) us) fun v hv => ht.all v (hper.mem_iff.mp hv)
    rw [hmap] at this
    exact this.ext x H
  · exact (HInv.start ord hord n).perm (hfy_perm (by rw [← hl]; omega))
  · rw [hl]; exact heapify_heap (swp_so fl) _
theorem oc_ord_up (i j : Nat) (h : i < j) : oc false (0 + (i : Int) * 1) (0 + (j : Int) * 1) := by
  show (0 + (i : Int) * 1) < (0 + (j : Int) * 1); omega
theorem oc_ord_dn (i j : Nat) (h : i < j) : oc true (0 + (i : Int) * (-1)) (0 + (j : Int) * (-1)) := by
  show (0 + (j : Int) * (-1)) < (0 + (i : Int) * (-1)); omega
theorem oc_up (o : Int) : oc false o (o + 1) := by show o < o + 1; omega
theorem oc_dn (o : Int) : oc true o (o - 1) := by show o - 1 < o; omega
section
variable {prog : Program} {w : World} {A : Around} {h : Heap} {env : Env}
theorem Pv.loadS {x : Str} {v : Value} {h₀ : Heap} {X : Addr → Prop} {l : List (Str × Value)} (H : St h₀ X env.locals h l) (hv : l.lookup x = some v) (hk : env.scope.kind = .function := by rfl) (hl : env.kindOf x = some .local := by rfl) :
    Pv prog w A h (loadName env x) (· = v) := by
  obtain ⟨m, hn, hm⟩ := H.loc
  exact Rn.of fun s Q E e k => wpAny_loadName_local hk hl (by rw [e]; exact hn) (hm x v hv) (by have := k v h s.toks ⟨rfl, rfl⟩; rw [← e] at this; exact this)
end
section
variable {prog : Program} {w : World} {A : Around} {h h₁ b : Heap} {κ : Nat} {kf : Int → List Nat} {fs : List Addr} {X : Addr → Prop} {n : Nat} {t : Tok} {I q L : Addr} {vs : List Value} {is : List Int} {qual : Str} {cdv : Value}
/-- the others, one by one -/
theorem loop_nsm {J D l : Addr} {to : Tok} {us : List Value} {its : List Item} {tv : Value} (hA : Ok 12 A) (W : Wd b) (K : Kp b h) (F : KeyF prog w b q κ kf) (hXb : ∀ a, X a → b.get? a = none) (hfb : ∀ a ∈ fs, b.get? a = none)
    (N : NS h X fs L q h₁ [("it", .ref J), ("result", .ref D), ("top", tv), ("order", .int (0 + (n : Int) * 1) to), ("_heapreplace", .ref 35)]) (S : SrcL h₁ J l (vs.drop n)) (hlD : l ≠ D) (hJ : X J ∨ h.get? J = none) (hD : h.get? D = none)
    (hi : Ints is vs) (hn : n ≤ vs.length) (h2 : 2 ≤ n) (h64 : vs.length < 60) (Hp : HpS false kf is κ n n h₁ D (0 + (n : Int) * 1) us its) (htv : IsK κ (its.getD 0 dI).1 tv) :
    Rn prog w A h₁ (exec (stA 9 10) (envN 9 76 qual cdv L)) (fun f h' => f = .next ∧ ∃ us' its' o', NS h X fs L q h' [("result", .ref D)] ∧ HpS false kf is κ vs.length n h' D o' us' its') := by
  have S₁ := N.st
  have hbn : ∀ J, (X J ∨ h.get? J = none) → b.get? J = none := fun J hJ => by
    rcases hJ with q | q
    · exact hXb J q
    · cases e : b.get? J with
      | none => rfl
      | some o => rw [K _ _ e] at q; cases q
  obtain ⟨fn, dV, hFn⟩ := F.1
  refine Rn.forS ?_
  walk_at "evs"
  refine Pv.val (Pv.iterSrc S.src) ?_
  refine Rn.forLoop (fun r h' => ∃ m us its o to tv, m + r = vs.length ∧ n ≤ m ∧ NS h X fs L q h' [("result", .ref D), ("top", tv), ("order", .int o to), ("_heapreplace", .ref 35)] ∧ SrcL h' J l (vs.drop m) ∧ HpS false kf is κ m n h' D o us its ∧ IsK κ (its.getD 0 dI).1 tv)
    ?_ (vs.length - n) ⟨n, us, its, _, to, tv, by omega, Nat.le_refl _, N.sub (by walk_at "subs"), S, Hp, htv⟩ (fun _ => rfl)
  rintro r h₂ ⟨m, us, its, o, to, tv, hm, hnm, N₂, S₂, Hp₂, htv₂⟩
  cases r with
  | zero =>
    have hm : m = vs.length := by omega
    subst hm
    rw [List.drop_length] at S₂
    refine Rn.endSrc hA.1 S₂.src fun h₃ x₃ => Rn.nil ⟨rfl, us, its, o, (N₂.ext x₃ S₂.src.dat hJ).sub (by walk_at "subs"), ?_⟩
    exact Hp₂.src S₂.src x₃
  | succ r =>
    have hlt : m < vs.length := by omega
    have hdr : vs.drop m = vs[m] :: vs.drop (m + 1) := List.drop_eq_getElem_cons hlt
    rw [hdr] at S₂
    obtain ⟨tm, hvm⟩ := hi.2 m vs[m] (by simp [hlt])
    rw [hvm] at S₂
    refine Rn.nextSrcL S₂ fun h₃ S₃ s₃ => ?_
    have N₃ := N₂.ext s₃.extBut S₂.src.dat hJ
    have Hp₃ := Hp₂.src S₂.src s₃.extBut
    refine Rn.assignT (Rn.storeN N₃ fun h₄ N₄ s₄ => ?_)
    have S₄ := N₃.srcL S₃ s₄
    have Hp₄ := Hp₃.store N₃ s₄
    have T₄ := N₄.st
    have K₄ := N₄.base K hXb hfb
    generalize hmm : is.getD m 0 = mm at N₄ T₄
    refine Rn.opq fun PB hB => ?_
    -- k = key(elem)
    refine Rn.seq (I := fun h' => ∃ kv, NS h X fs L q h' [("elem", .int mm tm), ("result", .ref D), ("top", tv), ("order", .int o to), ("_heapreplace", .ref 35), ("k", kv)] ∧ IsK κ (kf mm) kv ∧ SrcL h' J l (vs.drop (m + 1)) ∧ HpS false kf is κ m n h' D o us its) (Rn.opq fun PQ hPQ => Rn.assignName ?_) ?_
    · refine Rn.callE (Pv.val (Pv.nameC N₄.cell) (Rn.cwDef hFn ?_))
      walk_at "evs"
      refine ⟨K₄, (F.2 A h₄ _ _ (hA.le (by decide)) K₄).mono ?_⟩
      rintro kv h₅ ⟨hkv, k₅⟩
      have N₅ := N₄.keeps k₅
      exact Rn.storeN N₅ fun h₆ N₆ s₆ => hPQ _ _ ⟨rfl, kv, N₆.sub (by walk_at "subs"), hkv, N₅.srcL (S₄.keeps k₅) s₆, (Hp₄.keeps k₅).store N₅ s₆⟩
    rintro h₅ ⟨kv, N₅, hkv, S₅, Hp₅⟩
    have T₅ := N₅.st
    have K₅ := N₅.base K hXb hfb
    -- if k < top
    refine Rn.cons (Rn.ifS ?_)
    walk_at "evs"
    refine Pv.val (Pv.ltK hkv htv₂) ?_
    walk_at "evs"
    have hkc : kc false (kf (is.getD m 0)) (its.getD 0 dI).1 = decide (kf mm < (its.getD 0 dI).1) := by rw [hmm]; rfl
    by_cases qq : kf mm < (its.getD 0 dI).1
    · rw [if_pos (decide_eq_true qq)]
      rw [decide_eq_true qq] at hkc
      have hlen := Hp₅.inv.len
      have hul : us.length = n := by rw [Hp₅.tups.1, hlen]
      -- _heapreplace(result, (k, order, elem))
      refine Rn.cons (Rn.exprR ?_)
      walk_at "evs"
      refine Rn.tupleE ?_
      walk_at "evs"
      refine ⟨by simp, fun T h₆ hT hTup k₆ hlt₆ => ?_⟩
      walk_at "evs"
      have K₆ := K₅.trans k₆
      refine ⟨K₆, ?_⟩
      have Hp₆ := Hp₅.keeps k₆
      have hTK : TupK h₆ κ (.ref T) (kf (is.getD m 0), o, is.getD m 0) := ⟨T, kv, to, tm, rfl, by rw [hmm]; exact hTup, by rw [hmm]; exact hkv⟩
      have hall := Hp₆.tups.all
      refine hr_max (S := fun v => TupK h₆ κ v (decO h₆ κ v)) (lt := fun v u => ilt (decO h₆ κ v) (decO h₆ κ u)) (y := us.getD 0 .none) (hA.le (by decide)) W K₆ (hbn D (.inr hD)) Hp₆.lst (cmpTup Hp₆.lst (decO h₆ κ)) hall
        (by rw [decO_of hTK]; exact hTK) (by omega) (getD_lt (by omega)) fun h₇ H₇ x₇ => ?_
      obtain ⟨us', its', Hp₇⟩ := Hp₆.replace (by omega) hkc hTK (oc_up o) x₇ H₇
      have N₇ := (N₅.keeps k₆).ext x₇ Hp₆.lst.dat (.inr hD)
      have T₇ := N₇.st
      have S₇ : SrcL h₇ J l (vs.drop (m + 1)) := (S₅.keeps k₆).ext x₇ (fun e => (S₅.keeps k₆).src.not_list (e ▸ Hp₆.lst)) hlD
      have hlen₇ := Hp₇.inv.len
      have hul₇ : us'.length = n := by rw [Hp₇.tups.1, hlen₇]
      -- top, _order, _elem = result[0]
      have hu0 : us'[0]? = some (us'.getD 0 .none) := getD_lt (by omega)
      obtain ⟨T0, kv0, t0, u0, e0, hT0, hk0⟩ := Hp₇.tups.2 0 _ hu0
      rw [e0] at hu0
      refine Rn.seq (I := fun h' => NS h X fs L q h' [("result", .ref D), ("top", kv0), ("order", .int o to), ("_heapreplace", .ref 35)] ∧ SrcL h' J l (vs.drop (m + 1)) ∧ HpS false kf is κ (m + 1) n h' D (o + 1) us' its') (Rn.opq fun PQ hPQ => Rn.assignTuple ?_) ?_
      · walk_at "evs"
        refine Pv.val (Pv.itemList Hp₇.lst (by decide) (by decide) hu0) ?_
        refine Rn.tup3 hA.1 hT0 fun h₈ k₈ => ?_
        have N₈ := N₇.keeps k₈
        refine Rn.storeN N₈ fun h₉ N₉ s₉ => Rn.storeN N₉ fun h₁₀ N₁₀ s₁₀ => Rn.storeN N₁₀ fun h₁₁ N₁₁ s₁₁ => hPQ _ _ ⟨rfl, N₁₁.sub (by walk_at "subs"), ?_, ?_⟩
        · exact N₁₀.srcL (N₉.srcL (N₈.srcL (S₇.keeps k₈) s₉) s₁₀) s₁₁
        · exact (((Hp₇.keeps k₈).store N₈ s₉).store N₉ s₁₀).store N₁₀ s₁₁
      rintro h₈ ⟨N₈, S₈, Hp₈⟩
      have T₈ := N₈.st
      -- order += 1
      refine Rn.cons (Rn.augName ?_)
      refine Pv.val (Pv.loadS T₈ (by rfl)) ?_
      walk_at "evs"
      refine Pv.thenI Pv.iaddI fun to' => ?_
      refine Rn.storeN N₈ fun h₉ N₉ s₉ => Rn.nil (Rn.nil <| hB _ _ ⟨r, Nat.lt_succ_self _, m + 1, us', its', o + 1, to', kv0, by omega, by omega, N₉.sub (by walk_at "subs"), N₈.srcL S₈ s₉, Hp₈.store N₈ s₉, hk0⟩)
    · rw [if_neg (by rw [decide_eq_false qq]; exact Bool.false_ne_true)]
      rw [decide_eq_false qq] at hkc
      refine Rn.nil (Rn.nil <| hB _ _ ⟨r, Nat.lt_succ_self _, m + 1, us, its, o, to, tv, by omega, by omega, N₅.sub (by walk_at "subs"), S₅, Hp₅.skip (by omega) hkc, htv₂⟩)
/-- the others, one by one -/
theorem loop_nlg {J D l : Addr} {to : Tok} {us : List Value} {its : List Item} {tv : Value} (hA : Ok 12 A) (W : Wd b) (K : Kp b h) (F : KeyF prog w b q κ kf) (hXb : ∀ a, X a → b.get? a = none) (hfb : ∀ a ∈ fs, b.get? a = none)
    (N : NS h X fs L q h₁ [("it", .ref J), ("result", .ref D), ("top", tv), ("order", .int (0 + (n : Int) * (-1)) to), ("_heapreplace", .ref 21)]) (S : SrcL h₁ J l (vs.drop n)) (hlD : l ≠ D) (hJ : X J ∨ h.get? J = none) (hD : h.get? D = none)
    (hi : Ints is vs) (hn : n ≤ vs.length) (h2 : 2 ≤ n) (h64 : vs.length < 60) (Hp : HpS true kf is κ n n h₁ D (0 + (n : Int) * (-1)) us its) (htv : IsK κ (its.getD 0 dI).1 tv) :
    Rn prog w A h₁ (exec (stA 10 10) (envN 10 82 qual cdv L)) (fun f h' => f = .next ∧ ∃ us' its' o', NS h X fs L q h' [("result", .ref D)] ∧ HpS true kf is κ vs.length n h' D o' us' its') := by
  have S₁ := N.st
  have hbn : ∀ J, (X J ∨ h.get? J = none) → b.get? J = none := fun J hJ => by
    rcases hJ with q | q
    · exact hXb J q
    · cases e : b.get? J with
      | none => rfl
      | some o => rw [K _ _ e] at q; cases q
  obtain ⟨fn, dV, hFn⟩ := F.1
  refine Rn.forS ?_
  walk_at "evs"
  refine Pv.val (Pv.iterSrc S.src) ?_
  refine Rn.forLoop (fun r h' => ∃ m us its o to tv, m + r = vs.length ∧ n ≤ m ∧ NS h X fs L q h' [("result", .ref D), ("top", tv), ("order", .int o to), ("_heapreplace", .ref 21)] ∧ SrcL h' J l (vs.drop m) ∧ HpS true kf is κ m n h' D o us its ∧ IsK κ (its.getD 0 dI).1 tv)
    ?_ (vs.length - n) ⟨n, us, its, _, to, tv, by omega, Nat.le_refl _, N.sub (by walk_at "subs"), S, Hp, htv⟩ (fun _ => rfl)
  rintro r h₂ ⟨m, us, its, o, to, tv, hm, hnm, N₂, S₂, Hp₂, htv₂⟩
  cases r with
  | zero =>
    have hm : m = vs.length := by omega
    subst hm
    rw [List.drop_length] at S₂
    refine Rn.endSrc hA.1 S₂.src fun h₃ x₃ => Rn.nil ⟨rfl, us, its, o, (N₂.ext x₃ S₂.src.dat hJ).sub (by walk_at "subs"), ?_⟩
    exact Hp₂.src S₂.src x₃
  | succ r =>
    have hlt : m < vs.length := by omega
    have hdr : vs.drop m = vs[m] :: vs.drop (m + 1) := List.drop_eq_getElem_cons hlt
    rw [hdr] at S₂
    obtain ⟨tm, hvm⟩ := hi.2 m vs[m] (by simp [hlt])
    rw [hvm] at S₂
    refine Rn.nextSrcL S₂ fun h₃ S₃ s₃ => ?_
    have N₃ := N₂.ext s₃.extBut S₂.src.dat hJ
    have Hp₃ := Hp₂.src S₂.src s₃.extBut
    refine Rn.assignT (Rn.storeN N₃ fun h₄ N₄ s₄ => ?_)
    have S₄ := N₃.srcL S₃ s₄
    have Hp₄ := Hp₃.store N₃ s₄
    have T₄ := N₄.st
    have K₄ := N₄.base K hXb hfb
    generalize hmm : is.getD m 0 = mm at N₄ T₄
    refine Rn.opq fun PB hB => ?_
    -- k = key(elem)
    refine Rn.seq (I := fun h' => ∃ kv, NS h X fs L q h' [("elem", .int mm tm), ("result", .ref D), ("top", tv), ("order", .int o to), ("_heapreplace", .ref 21), ("k", kv)] ∧ IsK κ (kf mm) kv ∧ SrcL h' J l (vs.drop (m + 1)) ∧ HpS true kf is κ m n h' D o us its) (Rn.opq fun PQ hPQ => Rn.assignName ?_) ?_
    · refine Rn.callE (Pv.val (Pv.nameC N₄.cell) (Rn.cwDef hFn ?_))
      walk_at "evs"
      refine ⟨K₄, (F.2 A h₄ _ _ (hA.le (by decide)) K₄).mono ?_⟩
      rintro kv h₅ ⟨hkv, k₅⟩
      have N₅ := N₄.keeps k₅
      exact Rn.storeN N₅ fun h₆ N₆ s₆ => hPQ _ _ ⟨rfl, kv, N₆.sub (by walk_at "subs"), hkv, N₅.srcL (S₄.keeps k₅) s₆, (Hp₄.keeps k₅).store N₅ s₆⟩
    rintro h₅ ⟨kv, N₅, hkv, S₅, Hp₅⟩
    have T₅ := N₅.st
    have K₅ := N₅.base K hXb hfb
    -- if k < top
    refine Rn.cons (Rn.ifS ?_)
    walk_at "evs"
    refine Pv.val (Pv.ltK htv₂ hkv) ?_
    walk_at "evs"
    have hkc : kc true (kf (is.getD m 0)) (its.getD 0 dI).1 = decide ((its.getD 0 dI).1 < kf mm) := by rw [hmm]; rfl
    by_cases qq : (its.getD 0 dI).1 < kf mm
    · rw [if_pos (decide_eq_true qq)]
      rw [decide_eq_true qq] at hkc
      have hlen := Hp₅.inv.len
      have hul : us.length = n := by rw [Hp₅.tups.1, hlen]
      -- _heapreplace(result, (k, order, elem))
      refine Rn.cons (Rn.exprR ?_)
      walk_at "evs"
      refine Rn.tupleE ?_
      walk_at "evs"
      refine ⟨by simp, fun T h₆ hT hTup k₆ hlt₆ => ?_⟩
      walk_at "evs"
      have K₆ := K₅.trans k₆
      refine ⟨K₆, ?_⟩
      have Hp₆ := Hp₅.keeps k₆
      have hTK : TupK h₆ κ (.ref T) (kf (is.getD m 0), o, is.getD m 0) := ⟨T, kv, to, tm, rfl, by rw [hmm]; exact hTup, by rw [hmm]; exact hkv⟩
      have hall := Hp₆.tups.all
      refine hr_min (S := fun v => TupK h₆ κ v (decO h₆ κ v)) (lt := fun v u => ilt (decO h₆ κ v) (decO h₆ κ u)) (y := us.getD 0 .none) (hA.le (by decide)) W K₆ (hbn D (.inr hD)) Hp₆.lst (cmpTup Hp₆.lst (decO h₆ κ)) hall
        (by rw [decO_of hTK]; exact hTK) (by omega) (getD_lt (by omega)) fun h₇ H₇ x₇ => ?_
      obtain ⟨us', its', Hp₇⟩ := Hp₆.replace (by omega) hkc hTK (oc_dn o) x₇ H₇
      have N₇ := (N₅.keeps k₆).ext x₇ Hp₆.lst.dat (.inr hD)
      have T₇ := N₇.st
      have S₇ : SrcL h₇ J l (vs.drop (m + 1)) := (S₅.keeps k₆).ext x₇ (fun e => (S₅.keeps k₆).src.not_list (e ▸ Hp₆.lst)) hlD
      have hlen₇ := Hp₇.inv.len
      have hul₇ : us'.length = n := by rw [Hp₇.tups.1, hlen₇]
      -- top, _order, _elem = result[0]
      have hu0 : us'[0]? = some (us'.getD 0 .none) := getD_lt (by omega)
      obtain ⟨T0, kv0, t0, u0, e0, hT0, hk0⟩ := Hp₇.tups.2 0 _ hu0
      rw [e0] at hu0
      refine Rn.seq (I := fun h' => NS h X fs L q h' [("result", .ref D), ("top", kv0), ("order", .int o to), ("_heapreplace", .ref 21)] ∧ SrcL h' J l (vs.drop (m + 1)) ∧ HpS true kf is κ (m + 1) n h' D (o - 1) us' its') (Rn.opq fun PQ hPQ => Rn.assignTuple ?_) ?_
      · walk_at "evs"
        refine Pv.val (Pv.itemList Hp₇.lst (by decide) (by decide) hu0) ?_
        refine Rn.tup3 hA.1 hT0 fun h₈ k₈ => ?_
        have N₈ := N₇.keeps k₈
        refine Rn.storeN N₈ fun h₉ N₉ s₉ => Rn.storeN N₉ fun h₁₀ N₁₀ s₁₀ => Rn.storeN N₁₀ fun h₁₁ N₁₁ s₁₁ => hPQ _ _ ⟨rfl, N₁₁.sub (by walk_at "subs"), ?_, ?_⟩
        · exact N₁₀.srcL (N₉.srcL (N₈.srcL (S₇.keeps k₈) s₉) s₁₀) s₁₁
        · exact (((Hp₇.keeps k₈).store N₈ s₉).store N₉ s₁₀).store N₁₀ s₁₁
      rintro h₈ ⟨N₈, S₈, Hp₈⟩
      have T₈ := N₈.st
      -- order += 1
      refine Rn.cons (Rn.augName ?_)
      refine Pv.val (Pv.loadS T₈ (by rfl)) ?_
      walk_at "evs"
      refine Pv.thenI Pv.isubI fun to' => ?_
      refine Rn.storeN N₈ fun h₉ N₉ s₉ => Rn.nil (Rn.nil <| hB _ _ ⟨r, Nat.lt_succ_self _, m + 1, us', its', o - 1, to', kv0, by omega, by omega, N₉.sub (by walk_at "subs"), N₈.srcL S₈ s₉, Hp₈.store N₈ s₉, hk0⟩)
    · rw [if_neg (by rw [decide_eq_false qq]; exact Bool.false_ne_true)]
      rw [decide_eq_false qq] at hkc
      refine Rn.nil (Rn.nil <| hB _ _ ⟨r, Nat.lt_succ_self _, m + 1, us, its, o, to, tv, by omega, by omega, N₅.sub (by walk_at "subs"), S₅, Hp₅.skip (by omega) hkc, htv₂⟩)
end
end
section
set_option maxRecDepth 100000
set_option maxHeartbeats 1000000
set_option autoImplicit false
set_option linter.unusedVariables false
section
variable {prog : Program} {w : World} {A : Around} {h h₁ b : Heap} {κ : Nat} {kf : Int → List Nat} {fs : List Addr} {X : Addr → Prop} {n : Nat} {t : Tok} {I q L : Addr} {vs : List Value} {is : List Int} {qual : Str} {cdv : Value}
/-- sorted, and the items alone -/
theorem end_nsm {D : Addr} {o : Int} {us : List Value} {its : List Item} (hA : Ok 12 A) (N : NS h X fs L q h₁ [("result", .ref D)]) (hD : h.get? D = none) (hi : Ints is vs) (h2 : 2 ≤ n) (hn : n < 60) (Hp : HpS false kf is κ vs.length n h₁ D o us its) :
    Rn prog w A h₁ (execs ((bA 9).drop 11) (envN 9 76 qual cdv L)) (fun f h' => ∃ D us, f = .ret (.ref D) ∧ Lst h' D us ∧ Ints ((isort (cK false kf) is).take n) us ∧ KpX X fs h h') := by
  have hlen := Hp.inv.len
  have hul : us.length = n := by rw [Hp.tups.1, hlen]
  refine Rn.cons (Rn.exprS (Rn.method PySem.F.plainAttrs_list PySem.F.slot_list_sort PySem.F.type_list_sort ?_))
  refine Pv.val (Pv.nameS N.st (by rfl)) ⟨fun s e => Hp.lst.meth s e, ?_⟩
  refine Rn.cwM0 (Rn.sortT Hp.lst (decO h₁ κ) Hp.tups.all (by omega) (by omega) fun h₂ us₂ H₂ hp hpw x₂ => ?_)
  refine ⟨fun a e => (nomatch e), ?_⟩
  have N₂ := N.ext x₂ Hp.lst.dat (.inr hD)
  have T₂ := N₂.st
  have hmem₂ : ∀ v ∈ us₂, TupK h₁ κ v (decO h₁ κ v) := fun v hv => Hp.tups.all v (hp.mem_iff.mp hv)
  have ht₂ : Tups h₂ κ us₂ (us₂.map (decO h₁ κ)) := (Tups.of hmem₂).ext x₂ Hp.lst
  have hfin : (us₂.map (decO h₁ κ)).map (·.2.2) = (isort (cK false kf) is).take n := by
    have hiv : HInv false kf is is.length n its o := by rw [← hi.1]; exact Hp.inv
    refine hiv.sorted ?_ ?_
    · have := hp.map (decO h₁ κ)
      rwa [Hp.tups.map] at this
    · rw [List.pairwise_map]; exact hpw
  have hl₂ : us₂.length = n := by rw [hp.length_eq, hul]
  generalize us₂.map (decO h₁ κ) = its₂ at ht₂ hfin
  refine Rn.cons (Rn.ret (Rn.listComp (cl := []) ?_))
  walk_at "evs"
  refine Rn.iterListX H₂ fun J h₃ hJ hit k₃ => ?_
  have N₃ := N₂.keeps k₃
  have ht₃ := ht₂.keeps k₃
  have H₃ := H₂.keeps k₃
  have hJl : J < h₃.objs.size := by obtain ⟨o, e, _⟩ := hit; exact Heap.lt_size e
  have hDJ : D ≠ J := fun e => by subst e; obtain ⟨m, e⟩ := H₂; rw [hJ] at e; cases e
  -- the tuples' places
  have hTup : ∀ v ∈ us₂, ∃ T, v = .ref T ∧ T < h₃.objs.size ∧ T ≠ J := fun v hv => by
    obtain ⟨i, hi', rfl⟩ := List.getElem_of_mem hv
    obtain ⟨T, kv, t1, t2, e, ⟨oT, hoT, _⟩, _⟩ := ht₂.2 i _ (List.getElem?_eq_getElem hi')
    exact ⟨T, e, Heap.lt_size (k₃ _ _ hoT), fun q => by subst q; rw [hJ] at hoT; cases hoT⟩
  refine Rn.compFrame fun h₄ S₄ => ?_
  have k₄ : Kp h₃ h₄ := (Kp.push _ _).trans S₄.kp
  have hsz : (h₃.push { cls := .type "list", data := .seq #[] }).objs.size = h₃.objs.size + 1 := Heap.size_push ..
  have hD₄ : Lst h₄ h₃.objs.size [] := ⟨0, S₄.kp _ _ (Heap.get?_push_size _ rfl)⟩
  have hLoc₄ := S₄.loc
  rw [hsz] at hLoc₄
  have itr : ∀ elts k pos, Itr prog w A (.Tuple elts k pos) J h₃.objs.size us₂.length (· = J) (fun i v _ => us₂[i]? = some v) (fun i h => h.IsListIter J D i ∧ Lst h D us₂) (fun _ => True) := fun _ _ _ => Itr.list (us := us₂) hA.1 hJl H₃.lt hDJ go_tuple
  have it₄ : h₄.IsListIter J D 0 := let ⟨o, e, r⟩ := hit; ⟨o, k₄ _ _ e, r⟩
  refine ⟨(itr [] 0 default).self 0 h₄ ⟨it₄, H₃.keeps k₄⟩, ?_⟩
  rw [hsz]
  have keepT : ∀ h5 h6 : Heap, Tups h5 κ us₂ its₂ → (∀ c o, c < h₃.objs.size → c ≠ J → h5.get? c = some o → h6.get? c = some o) → Tups h6 κ us₂ its₂ := fun h5 h6 H k => ⟨H.1, fun i v e => by
    obtain ⟨T, e', hlt, hne⟩ := hTup v (List.mem_of_getElem? e)
    subst e'
    exact (H.2 i _ e).at fun o ho => k T o hlt hne ho⟩
  refine RnC.compMap (N := h₃.objs.size) (n := us₂.length) (Y := (· = h₃.objs.size + 1)) (h₂ := h₃) (itr _ _ _) (fun _ => true)
    (fun i y _ => IsI (its₂.getD i dI).2.2 y) (fun h' => Loc h' (h₃.objs.size + 1) [] ∧ Tups h' κ us₂ its₂)
    (fun i h' => ∃ u, IsI (its₂.getD i dI).2.2 u ∧ Loc h' (h₃.objs.size + 1) [("elem", u)] ∧ Tups h' κ us₂ its₂) rfl (by omega) (Nat.le_refl _) ?_ ?_ ?_ ?_ ?_ ?_ ⟨it₄, H₃.keeps k₄⟩ ⟨hLoc₄, ht₃.keeps k₄⟩ hD₄ k₄ ?_
  · rintro c rfl
    exact ⟨Nat.le_succ _, Nat.succ_ne_self _⟩
  · rintro h5 h6 ⟨⟨m, hm, r⟩, hT⟩ k
    obtain ⟨o, es, ep, ho, r'⟩ := hm
    refine ⟨⟨m, ⟨o, es, ep, k _ _ (fun z => ?_) (Nat.succ_ne_self _) ho, r'⟩, r⟩, keepT h5 h6 hT fun c o hc hn e => k c o hn (Nat.ne_of_lt hc) e⟩
    exact absurd hJl (by rw [← z]; exact Nat.not_lt.mpr (Nat.le_succ _))
  · rintro i h5 ⟨u, _, hL, hT⟩
    exact ⟨hL.sub (by walk_at "subs"), hT⟩
  · intro i y h5 h6 H _
    exact H
  · rintro i v h5 hin ⟨hL, hT⟩ hv
    obtain ⟨T, kv, t1, t2, rfl, hTp, hk⟩ := hT.2 i v hv
    refine Rn.tup3 hA.1 hTp fun h6 k6 => ?_
    refine Rn.storeName (hL.keeps k6) fun h7 hL7 s7 => ?_
    refine Rn.storeName hL7 fun h8 hL8 s8 => ?_
    refine Rn.storeName hL8 fun h9 hL9 s9 => ⟨⟨.int _ t2, ⟨t2, rfl⟩, hL9.sub (by walk_at "subs"), keepT h5 h9 hT fun c o hc hn e => ?_⟩, fun c o hc e => ?_⟩
    · have hcC : c ≠ h₃.objs.size + 1 := Nat.ne_of_lt (Nat.lt_succ_of_lt hc)
      exact s9.extBut c o hcC (s8.extBut c o hcC (s7.extBut c o hcC (k6 c o e)))
    · exact s9.extBut c o hc (s8.extBut c o hc (s7.extBut c o hc (k6 c o e)))
  · rintro i h5 hin ⟨u, hu, hL, hT⟩ _ _
    refine Rn.testsNil ⟨rfl, Kp.refl _, fun _ => ?_⟩
    exact Pv.val (Pv.name hL rfl) ⟨hu, Kp.refl _⟩
  · intro h5 ys _ hL hD5 hlen hys hk
    have hfl : (List.range us₂.length).filter (fun _ => true) = List.range us₂.length := by simp
    rw [hfl] at hlen hys
    have hJn : X J ∨ h.get? J = none := (N₂.newL hJ).symm
    have dJ : Dat h₃ J := by obtain ⟨o, e, _, hd⟩ := hit; exact Dat.fields e hd
    have N5 : NS h X fs L q h5 _ := N₃.extX (Z := (· = J)) hk (fun c e => e ▸ ⟨dJ, hJn⟩)
    have fC := N₃.fresh (c := h₃.objs.size + 1) (Nat.le_succ _)
    obtain ⟨⟨mC, hmC, _⟩, _⟩ := hL
    refine ⟨mC, hmC, fun h7 s7 => ⟨h₃.objs.size, ys, rfl, hD5.ext s7.extBut (Nat.ne_of_lt (Nat.lt_succ_self _)), ?_, (N5.ext' s7.extBut fC.1 fC.2.1 fC.2.2.1 (.inr fC.2.2.2)).kpx⟩⟩
    rw [← hfin]
    have hyl : ys.length = us₂.length := by rw [hlen]; simp
    refine ⟨by rw [hyl, List.length_map, ht₂.1], fun j y e => ?_⟩
    obtain ⟨i, hij, hy⟩ := hys j y e
    have hjn : j < us₂.length := by have := (List.getElem?_eq_some_iff.mp hij).1; simpa using this
    have hij' : i = j := by rw [List.getElem?_range hjn] at hij; exact (Option.some.inj hij).symm
    subst hij'
    have hjt : i < its₂.length := by rw [← ht₂.1]; exact hjn
    have eg : (its₂.map (·.2.2)).getD i 0 = (its₂.getD i dI).2.2 := by
      rw [List.getD_eq_getElem?_getD, List.getElem?_map, List.getD_eq_getElem?_getD, List.getElem?_eq_getElem hjt]; rfl
    rw [eg]; exact hy
theorem rest_nsm (hA : Ok 12 A) (W : Wd b) (K : Kp b h) (F : KeyF prog w b q κ kf) (hXb : ∀ a, X a → b.get? a = none) (hfb : ∀ a ∈ fs, b.get? a = none)
    (N : NS h X fs L q h₁ [("n", .int n t), ("iterable", .ref I)]) (H : Inp h₁ I vs X) (hi : Ints is vs) (hn : n ≤ vs.length) (hn1 : n ≠ 1) (h64 : vs.length < 60) :
    Rn prog w A h₁ (execs ((bA 9).drop 2) (envN 9 76 qual cdv L)) (fun f h' => ∃ D us, f = .ret (.ref D) ∧ Lst h' D us ∧ Ints ((isort (cK false kf) is).take n) us ∧ KpX X fs h h') := by
  have K₁ := N.base K hXb hfb
  have S₁ := N.st
  have hbn : ∀ J, (X J ∨ h.get? J = none) → b.get? J = none := fun J hJ => by
    rcases hJ with q | q
    · exact hXb J q
    · cases e : b.get? J with
      | none => rfl
      | some o => rw [K _ _ e] at q; cases q
  -- if key is None
  refine Rn.cons (Rn.ifS (Rn.testCmp (Pv.val (Pv.nameC N.cell) (Pv.val Pv.none (Pv.val Pv.isNone (Rn.truthyB ?_))))))
  rw [if_neg (by decide)]
  refine Rn.nil ?_
  -- it = iter(iterable)
  refine Rn.seq (I := fun h' => ∃ J, NS h X fs L q h' [("n", .int n t), ("it", .ref J)] ∧ Src h' J vs ∧ (X J ∨ h.get? J = none)) (Rn.opq fun PQ hPQ => Rn.assignName ?_) ?_
  · walk_at "evs"
    refine Rn.iterC fun A' => Rn.iterInp H fun J h₂ hJ hS k₂ => ?_
    have N₂ := N.keeps k₂
    refine Rn.storeN N₂ fun h₃ N₃ s₃ => hPQ _ _ ⟨rfl, J, N₃.sub (by walk_at "subs"), N₂.src hS s₃, ?_⟩
    rcases hJ with q | q
    · exact .inl q
    · exact (N.newL q).symm
  rintro h₂ ⟨J, N₂, S₂, hJ⟩
  -- the first n
  refine Rn.seq (comp_nsm hA W K F hXb hfb N₂ S₂ hJ hi hn h64) ?_
  rintro h₃ ⟨D, us, N₃, hD, H₃, ht₃, l, hlD, S₃⟩
  have T₃ := N₃.st
  have hul : us.length = n := by rw [ht₃.1]; simp
  -- if not result
  refine Rn.cons (Rn.ifS (Rn.testNot (Rn.testVal ?_)))
  walk_at "ev"
  refine Pv.val (Pv.truthyL H₃ (by omega)) ?_
  by_cases hn0 : n = 0
  · have hus : us = [] := List.length_eq_zero_iff.mp (by omega)
    subst hus
    rw [if_pos (by rfl)]
    refine Rn.cons (Rn.ret ?_)
    walk_at "ev"
    refine ⟨D, [], rfl, H₃, ?_, N₃.kpx⟩
    rw [hn0]
    exact ⟨rfl, fun i v e => by simp at e⟩
  have hne : us ≠ [] := fun e => hn0 (by rw [← hul, e]; rfl)
  rw [if_neg (by cases us with | nil => exact absurd rfl hne | cons _ _ => exact Bool.false_ne_true)]
  refine Rn.nil ?_
  have K₃ := N₃.base K hXb hfb
  -- heapify
  refine Rn.cons (Rn.exprS ?_)
  walk_at "evs"
  refine ⟨K₃, hf_max (S := fun v => TupK h₃ κ v (decO h₃ κ v)) (lt := fun v u => ilt (decO h₃ κ v) (decO h₃ κ u)) (hA.le (by decide)) W K₃ (hbn D (.inr hD)) H₃ (cmpTup H₃ (decO h₃ κ)) ht₃.all (by omega) fun h₄ H₄ x₄ => ⟨fun a e => (nomatch e), ?_⟩⟩
  obtain ⟨us₄, its₄, Hp₄⟩ := HpS.heapify (fl := false) (fun i => 0 + (i : Int) * 1) oc_ord_up H₃ ht₃ x₄ H₄
  have N₄ := N₃.ext x₄ H₃.dat (.inr hD)
  have T₄ := N₄.st
  have S₄ : SrcL h₄ J l (vs.drop n) := S₃.ext x₄ (fun e => S₃.src.not_list (e ▸ H₃)) hlD
  have hul₄ : us₄.length = n := by rw [Hp₄.tups.1, Hp₄.inv.len]
  -- top = result[0][0]
  have hu0 : us₄[0]? = some (us₄.getD 0 .none) := getD_lt (by omega)
  obtain ⟨T0, kv0, t0, u0, e0, hT0, hk0⟩ := Hp₄.tups.2 0 _ hu0
  rw [e0] at hu0
  refine Rn.seq (I := fun h' => NS h X fs L q h' [("n", .int n t), ("it", .ref J), ("result", .ref D), ("top", kv0)] ∧ SrcL h' J l (vs.drop n) ∧ HpS false kf is κ n n h' D (0 + (n : Int) * 1) us₄ its₄) (Rn.opq fun PQ hPQ => Rn.assignName ?_) ?_
  · walk_at "evs"
    refine Pv.val (Pv.itemList Hp₄.lst (by decide) (by decide) hu0) ?_
    walk_at "evs"
    refine Pv.val (Pv.itemTup (j := 0) hT0 (by decide) (by decide) rfl rfl) ?_
    exact Rn.storeN N₄ fun h₅ N₅ s₅ => hPQ _ _ ⟨rfl, N₅.sub (by walk_at "subs"), N₄.srcL S₄ s₅, Hp₄.store N₄ s₅⟩
  rintro h₅ ⟨N₅, S₅, Hp₅⟩
  have T₅ := N₅.st
  -- order
  refine Rn.seq (I := fun h' => ∃ to, NS h X fs L q h' [("it", .ref J), ("result", .ref D), ("top", kv0), ("order", .int (0 + (n : Int) * 1) to)] ∧ SrcL h' J l (vs.drop n) ∧ HpS false kf is κ n n h' D (0 + (n : Int) * 1) us₄ its₄) (Rn.assignName ?_) ?_
  · walk_at "evs"
    have e : (n : Int) = 0 + (n : Int) * 1 := by omega
    exact Rn.storeN N₅ fun h₆ N₆ s₆ => ⟨rfl, t, by rw [← e]; exact N₆.sub (by walk_at "subs"), N₅.srcL S₅ s₆, Hp₅.store N₅ s₆⟩
  rintro h₆ ⟨to, N₆, S₆, Hp₆⟩
  have T₆ := N₆.st
  have K₆ := N₆.base K hXb hfb
  -- _heapreplace
  refine Rn.seq (I := fun h' => NS h X fs L q h' [("it", .ref J), ("result", .ref D), ("top", kv0), ("order", .int (0 + (n : Int) * 1) to), ("_heapreplace", .ref 35)] ∧ SrcL h' J l (vs.drop n) ∧ HpS false kf is κ n n h' D (0 + (n : Int) * 1) us₄ its₄) (Rn.opq fun PQ hPQ => Rn.assignName ?_) ?_
  · walk_at "evs"
    exact Rn.storeN N₆ fun h₇ N₇ s₇ => hPQ _ _ ⟨rfl, N₇.sub (by walk_at "subs"), N₆.srcL S₆ s₇, Hp₆.store N₆ s₇⟩
  rintro h₇ ⟨N₇, S₇, Hp₇⟩
  refine Rn.seq (loop_nsm hA W K F hXb hfb N₇ S₇ hlD hJ hD hi hn (by omega) h64 Hp₇ hk0) ?_
  rintro h₈ ⟨us₈, its₈, o₈, N₈, Hp₈⟩
  exact end_nsm hA N₈ hD hi (by omega) (by omega) Hp₈
theorem nsm (hA : Ok 20 A) (W : Wd b) (K : Kp b h) (Fm : Fms b A h fs) (F : KeyF prog w b q κ kf) (hXb : ∀ a, X a → b.get? a = none)
    (H : Inp h I vs X) (hi : Ints is vs) (h2 : 2 ≤ vs.length) (h64 : vs.length < 60) (hn : n ≤ vs.length) :
    Rn prog w A h (call (.ref 76) [.int n t, .ref I] [(Str.ofString "key", .ref q)]) (fun v h' => ∃ D us, v = .ref D ∧ Lst h' D us ∧ Ints ((isort (cK false kf) is).take n) us ∧ KpX X fs h h') := by
  obtain ⟨oT, hoT, hcT, nT, hdT⟩ := W.dflt.1.keeps K
  refine Rn.callDefC (k := 19) (n := 9) (binds := [("n", .int n t), ("iterable", .ref I), ("key", .ref q)]) (ls := [("n", .int n t), ("iterable", .ref I)]) hA ((W.fn _ _ _ (by rfl)).keeps K) (W.lim.keeps K)
    (fun s name qual doc pm an cdv ct es => BindsTo.of_defaults (T := 71) rfl (by rw [es]; exact hoT) hdT rfl rfl) (by walk_at "subs") ?_ ?_
  · intro qual cdv L h₁ S₁ hc hA'
    have hkey : h₁.IsCell (L + 1) (some (.ref q)) := (hc "key" (L + 1) rfl).1
    have hfb := Fm.new
    have N₁ : NS h X fs L q h₁ [("n", .int n t), ("iterable", .ref I)] := ⟨S₁.weak fun _ q => q.elim, fun a m _ hm => hm.keeps S₁.kp, hkey, Fm.ns⟩
    have H₁ := H.keeps S₁.kp
    have K₁ := K.trans S₁.kp
    have T₁ := N₁.st
    have hA12 : Ok 12 (A.deeper (envN 9 76 qual cdv L)) := hA'.le (by decide)
    refine Rn.cons (Rn.ifS ?_)
    walk_at "evs"
    refine Pv.val Pv.eqI ?_
    walk_at "evs"
    by_cases hn1 : n = 1
    · subst hn1
      rw [if_pos (by rfl)]
      refine (one_nsm hA12 W K F hXb hfb N₁ H₁ hi (by omega)).mono ?_
      rintro f h' ⟨D, us, rfl, r⟩
      exact ⟨D, us, rfl, r⟩
    rw [if_neg (by simp; omega)]
    refine Rn.nil ?_
    have Fm₁ : Fms b (A.deeper (envN 9 76 qual cdv L)) h₁ (L :: fs) := (Fm.keeps S₁.kp).deeper K S₁ rfl rfl
    have fin : ∀ h₂, NS h X fs L q h₂ [("n", .int n t), ("iterable", .ref I)] → Inp h₂ I vs X → Rn prog w (A.deeper (envN 9 76 qual cdv L)) h₂ (execs ((bA 9).drop 2) (envN 9 76 qual cdv L)) (fun f h' => ∃ D us, (match f with | .ret v => v | _ => Value.none) = .ref D ∧ Lst h' D us ∧ Ints ((isort (cK false kf) is).take n) us ∧ KpX X fs h h') := fun h₂ N₂ H₂ => by
      refine (rest_nsm hA12 W K F hXb hfb N₂ H₂ hi hn hn1 h64).mono ?_
      rintro f h' ⟨D, us, rfl, r⟩
      exact ⟨D, us, rfl, r⟩
    cases H₁ with
    | list HL =>
      refine Rn.cons (Rn.tryOk ?_)
      refine Rn.seq (I := fun h' => ∃ ts, NS h X fs L q h' [("n", .int n t), ("iterable", .ref I), ("size", .int vs.length ts)] ∧ Lst h' I vs) (Rn.opq fun PQ hPQ => Rn.assignName ?_) ?_
      · walk_at "evs"
        refine Pv.thenI (Pv.lenL HL (by omega)) fun ts => ?_
        exact Rn.storeN N₁ fun h₂ N₂ s₂ => hPQ _ _ ⟨rfl, ts, N₂.sub (by walk_at "subs"), N₁.lst HL s₂⟩
      rintro h₂ ⟨ts, N₂, HL₂⟩
      have T₂ := N₂.st
      have K₂ := N₂.base K hXb hfb
      refine Rn.nil ?_
      refine Rn.cons (Rn.ifS ?_)
      walk_at "evs"
      refine Pv.val Pv.geI ?_
      walk_at "evs"
      by_cases hge : (n : Int) ≥ vs.length
      · rw [if_pos (decide_eq_true hge)]
        have hne : n = vs.length := by omega
        refine Rn.cons (Rn.ret (Rn.subscript ?_))
        refine Rn.callK ?_
        walk_at "ev"
        refine Rn.cwKBlt ?_
        walk_at "evs"
        refine Rn.kwCons ?_
        refine Pv.val (Pv.nameC N₂.cell) ?_
        refine Rn.kwNil ?_
        show Rn _ _ _ _ (call (.builtin "sorted") [.ref I] [(Str.ofString "key", .ref q)]) _
        refine Rn.sortedK (bb := false) (hA12.le (by decide)) K₂ F HL₂ hi h2 (by omega) (ksk_s1 _ _) (fun x => ksk_l1 _ _) (fun x => ksk_t1 _ _) fun D h₃ us₃ hD H₃ hI₃ k₃ => ?_
        have N₃ := N₂.keeps k₃
        have T₃ := N₃.st
        refine Rn.sliceE (Rn.partN (Rn.partS ?_))
        walk_at "evs"
        refine Rn.partN fun sl h₄ hsl hS k₄ => ?_
        have hl₃ := hI₃.1
        refine Rn.sliceT (H₃.keeps k₄) hS .none (.int _ _) .none (by simp) (by rw [hl₃, isort_len, ← hi.1]; omega) fun D' h₅ hD' H₅ k₅ => ?_
        rw [pick_upto] at H₅
        exact ⟨D', _, rfl, H₅, hI₃.take n, ((N₃.keeps k₄).keeps k₅).kpx⟩
      · rw [if_neg (by rw [decide_eq_false hge]; exact Bool.false_ne_true)]
        refine Rn.nil (Rn.nil ?_)
        exact fin h₂ (N₂.sub (by walk_at "subs")) (.list HL₂)
    | rev l us hR HL hne hXI hvs =>
      refine Rn.cons ?_
      refine Rn.tryLen (fs := L :: fs) (L := L) hA'.1 W K₁ Fm₁ ?_ rfl hR (Pv.nameS T₁ (by rfl)) (fun h₂ kf₂ => ?_) (fun A h k => Pv.blt W k (by rfl)) (fun A h k => Pv.blt W k (by rfl)) (fun A h k => Pv.blt W k (by rfl))
      · obtain ⟨envs, e, _, _⟩ := Fm.ex
        exact ⟨envs, Around.frames_deeper e⟩
      · have apI := N₁.apart (c := I) (by obtain ⟨o, e, _, hd⟩ := hR; exact Dat.fields e hd)
        have apl := N₁.apart HL.dat
        have n2 : ∀ {c}, c ≠ L ∧ c ≠ L + 1 ∧ c ∉ fs → c ∉ L :: fs := fun a q => by
          rcases List.mem_cons.mp q with q | q
          · exact a.1 q
          · exact a.2.2 q
        refine fin h₂ ⟨⟨kf₂.loc N₁.st.loc, fun c o hc e => kf₂.1 c o (fun q => ?_) (N₁.st.ext c o hc e), N₁.st.new⟩, fun a m ha hm => kf₂.ns (N₁.fr a m ha hm), ?_, N₁.old⟩ ?_
        · rcases List.mem_cons.mp q with q | q
          · exact N₁.st.ne e q
          · exact hc (.inr q)
        · obtain ⟨o, ho, hd⟩ := hkey
          obtain ⟨sl, hs⟩ := kf₂.2 _ _ ho
          exact ⟨_, hs, hd⟩
        · obtain ⟨o, ho, r⟩ := hR
          obtain ⟨ln, el⟩ := HL
          exact .rev l us ⟨o, kf₂.1 _ _ (n2 apI) ho, r⟩ ⟨ln, kf₂.1 _ _ (n2 apl) el⟩ hne hXI hvs
  · intro N x hx
    simp only [List.mem_cons, List.not_mem_nil, or_false] at hx
    rcases hx with rfl | rfl | rfl
    · exact .inl rfl
    · exact .inl rfl
    · exact .inr ⟨rfl, rfl⟩
/-- sorted, and the items alone -/
theorem end_nlg {D : Addr} {o : Int} {us : List Value} {its : List Item} (hA : Ok 12 A) (N : NS h X fs L q h₁ [("result", .ref D)]) (hD : h.get? D = none) (hi : Ints is vs) (h2 : 2 ≤ n) (hn : n < 60) (Hp : HpS true kf is κ vs.length n h₁ D o us its) :
    Rn prog w A h₁ (execs ((bA 10).drop 11) (envN 10 82 qual cdv L)) (fun f h' => ∃ D us, f = .ret (.ref D) ∧ Lst h' D us ∧ Ints ((isort (cK true kf) is).take n) us ∧ KpX X fs h h') := by
  have hlen := Hp.inv.len
  have hul : us.length = n := by rw [Hp.tups.1, hlen]
  refine Rn.cons (Rn.exprS (Rn.method PySem.F.plainAttrs_list PySem.F.slot_list_sort PySem.F.type_list_sort ?_))
  refine Pv.val (Pv.nameS N.st (by rfl)) ⟨fun s e => Hp.lst.meth s e, ?_⟩
  refine Rn.cwMK (Rn.kwCons (Pv.val Pv.boolC (Rn.kwNil ?_)))
  show Rn _ _ _ _ (call (.builtin "list.sort") [.ref D] [(Str.ofString "reverse", .bool true)]) _
  refine Rn.sortTR Hp.lst (decO h₁ κ) Hp.tups.all (by omega) (by omega) fun h₂ us₂ H₂ hp hpw x₂ => ?_
  refine ⟨fun a e => (nomatch e), ?_⟩
  have N₂ := N.ext x₂ Hp.lst.dat (.inr hD)
  have T₂ := N₂.st
  have hmem₂ : ∀ v ∈ us₂, TupK h₁ κ v (decO h₁ κ v) := fun v hv => Hp.tups.all v (hp.mem_iff.mp hv)
  have ht₂ : Tups h₂ κ us₂ (us₂.map (decO h₁ κ)) := (Tups.of hmem₂).ext x₂ Hp.lst
  have hfin : (us₂.map (decO h₁ κ)).map (·.2.2) = (isort (cK true kf) is).take n := by
    have hiv : HInv true kf is is.length n its o := by rw [← hi.1]; exact Hp.inv
    refine hiv.sorted ?_ ?_
    · have := hp.map (decO h₁ κ)
      rwa [Hp.tups.map] at this
    · rw [List.pairwise_map]; exact hpw
  have hl₂ : us₂.length = n := by rw [hp.length_eq, hul]
  generalize us₂.map (decO h₁ κ) = its₂ at ht₂ hfin
  refine Rn.cons (Rn.ret (Rn.listComp (cl := []) ?_))
  walk_at "evs"
  refine Rn.iterListX H₂ fun J h₃ hJ hit k₃ => ?_
  have N₃ := N₂.keeps k₃
  have ht₃ := ht₂.keeps k₃
  have H₃ := H₂.keeps k₃
  have hJl : J < h₃.objs.size := by obtain ⟨o, e, _⟩ := hit; exact Heap.lt_size e
  have hDJ : D ≠ J := fun e => by subst e; obtain ⟨m, e⟩ := H₂; rw [hJ] at e; cases e
  -- the tuples' places
  have hTup : ∀ v ∈ us₂, ∃ T, v = .ref T ∧ T < h₃.objs.size ∧ T ≠ J := fun v hv => by
    obtain ⟨i, hi', rfl⟩ := List.getElem_of_mem hv
    obtain ⟨T, kv, t1, t2, e, ⟨oT, hoT, _⟩, _⟩ := ht₂.2 i _ (List.getElem?_eq_getElem hi')
    exact ⟨T, e, Heap.lt_size (k₃ _ _ hoT), fun q => by subst q; rw [hJ] at hoT; cases hoT⟩
  refine Rn.compFrame fun h₄ S₄ => ?_
  have k₄ : Kp h₃ h₄ := (Kp.push _ _).trans S₄.kp
  have hsz : (h₃.push { cls := .type "list", data := .seq #[] }).objs.size = h₃.objs.size + 1 := Heap.size_push ..
  have hD₄ : Lst h₄ h₃.objs.size [] := ⟨0, S₄.kp _ _ (Heap.get?_push_size _ rfl)⟩
  have hLoc₄ := S₄.loc
  rw [hsz] at hLoc₄
  have itr : ∀ elts k pos, Itr prog w A (.Tuple elts k pos) J h₃.objs.size us₂.length (· = J) (fun i v _ => us₂[i]? = some v) (fun i h => h.IsListIter J D i ∧ Lst h D us₂) (fun _ => True) := fun _ _ _ => Itr.list (us := us₂) hA.1 hJl H₃.lt hDJ go_tuple
  have it₄ : h₄.IsListIter J D 0 := let ⟨o, e, r⟩ := hit; ⟨o, k₄ _ _ e, r⟩
  refine ⟨(itr [] 0 default).self 0 h₄ ⟨it₄, H₃.keeps k₄⟩, ?_⟩
  rw [hsz]
  have keepT : ∀ h5 h6 : Heap, Tups h5 κ us₂ its₂ → (∀ c o, c < h₃.objs.size → c ≠ J → h5.get? c = some o → h6.get? c = some o) → Tups h6 κ us₂ its₂ := fun h5 h6 H k => ⟨H.1, fun i v e => by
    obtain ⟨T, e', hlt, hne⟩ := hTup v (List.mem_of_getElem? e)
    subst e'
    exact (H.2 i _ e).at fun o ho => k T o hlt hne ho⟩
  refine RnC.compMap (N := h₃.objs.size) (n := us₂.length) (Y := (· = h₃.objs.size + 1)) (h₂ := h₃) (itr _ _ _) (fun _ => true)
    (fun i y _ => IsI (its₂.getD i dI).2.2 y) (fun h' => Loc h' (h₃.objs.size + 1) [] ∧ Tups h' κ us₂ its₂)
    (fun i h' => ∃ u, IsI (its₂.getD i dI).2.2 u ∧ Loc h' (h₃.objs.size + 1) [("elem", u)] ∧ Tups h' κ us₂ its₂) rfl (by omega) (Nat.le_refl _) ?_ ?_ ?_ ?_ ?_ ?_ ⟨it₄, H₃.keeps k₄⟩ ⟨hLoc₄, ht₃.keeps k₄⟩ hD₄ k₄ ?_
  · rintro c rfl
    exact ⟨Nat.le_succ _, Nat.succ_ne_self _⟩
  · rintro h5 h6 ⟨⟨m, hm, r⟩, hT⟩ k
    obtain ⟨o, es, ep, ho, r'⟩ := hm
    refine ⟨⟨m, ⟨o, es, ep, k _ _ (fun z => ?_) (Nat.succ_ne_self _) ho, r'⟩, r⟩, keepT h5 h6 hT fun c o hc hn e => k c o hn (Nat.ne_of_lt hc) e⟩
    exact absurd hJl (by rw [← z]; exact Nat.not_lt.mpr (Nat.le_succ _))
  · rintro i h5 ⟨u, _, hL, hT⟩
    exact ⟨hL.sub (by walk_at "subs"), hT⟩
  · intro i y h5 h6 H _
    exact H
  · rintro i v h5 hin ⟨hL, hT⟩ hv
    obtain ⟨T, kv, t1, t2, rfl, hTp, hk⟩ := hT.2 i v hv
    refine Rn.tup3 hA.1 hTp fun h6 k6 => ?_
    refine Rn.storeName (hL.keeps k6) fun h7 hL7 s7 => ?_
    refine Rn.storeName hL7 fun h8 hL8 s8 => ?_
    refine Rn.storeName hL8 fun h9 hL9 s9 => ⟨⟨.int _ t2, ⟨t2, rfl⟩, hL9.sub (by walk_at "subs"), keepT h5 h9 hT fun c o hc hn e => ?_⟩, fun c o hc e => ?_⟩
    · have hcC : c ≠ h₃.objs.size + 1 := Nat.ne_of_lt (Nat.lt_succ_of_lt hc)
      exact s9.extBut c o hcC (s8.extBut c o hcC (s7.extBut c o hcC (k6 c o e)))
    · exact s9.extBut c o hc (s8.extBut c o hc (s7.extBut c o hc (k6 c o e)))
  · rintro i h5 hin ⟨u, hu, hL, hT⟩ _ _
    refine Rn.testsNil ⟨rfl, Kp.refl _, fun _ => ?_⟩
    exact Pv.val (Pv.name hL rfl) ⟨hu, Kp.refl _⟩
  · intro h5 ys _ hL hD5 hlen hys hk
    have hfl : (List.range us₂.length).filter (fun _ => true) = List.range us₂.length := by simp
    rw [hfl] at hlen hys
    have hJn : X J ∨ h.get? J = none := (N₂.newL hJ).symm
    have dJ : Dat h₃ J := by obtain ⟨o, e, _, hd⟩ := hit; exact Dat.fields e hd
    have N5 : NS h X fs L q h5 _ := N₃.extX (Z := (· = J)) hk (fun c e => e ▸ ⟨dJ, hJn⟩)
    have fC := N₃.fresh (c := h₃.objs.size + 1) (Nat.le_succ _)
    obtain ⟨⟨mC, hmC, _⟩, _⟩ := hL
    refine ⟨mC, hmC, fun h7 s7 => ⟨h₃.objs.size, ys, rfl, hD5.ext s7.extBut (Nat.ne_of_lt (Nat.lt_succ_self _)), ?_, (N5.ext' s7.extBut fC.1 fC.2.1 fC.2.2.1 (.inr fC.2.2.2)).kpx⟩⟩
    rw [← hfin]
    have hyl : ys.length = us₂.length := by rw [hlen]; simp
    refine ⟨by rw [hyl, List.length_map, ht₂.1], fun j y e => ?_⟩
    obtain ⟨i, hij, hy⟩ := hys j y e
    have hjn : j < us₂.length := by have := (List.getElem?_eq_some_iff.mp hij).1; simpa using this
    have hij' : i = j := by rw [List.getElem?_range hjn] at hij; exact (Option.some.inj hij).symm
    subst hij'
    have hjt : i < its₂.length := by rw [← ht₂.1]; exact hjn
    have eg : (its₂.map (·.2.2)).getD i 0 = (its₂.getD i dI).2.2 := by
      rw [List.getD_eq_getElem?_getD, List.getElem?_map, List.getD_eq_getElem?_getD, List.getElem?_eq_getElem hjt]; rfl
    rw [eg]; exact hy
theorem rest_nlg (hA : Ok 12 A) (W : Wd b) (K : Kp b h) (F : KeyF prog w b q κ kf) (hXb : ∀ a, X a → b.get? a = none) (hfb : ∀ a ∈ fs, b.get? a = none)
    (N : NS h X fs L q h₁ [("n", .int n t), ("iterable", .ref I)]) (H : Inp h₁ I vs X) (hi : Ints is vs) (hn : n ≤ vs.length) (hn1 : n ≠ 1) (h64 : vs.length < 60) :
    Rn prog w A h₁ (execs ((bA 10).drop 2) (envN 10 82 qual cdv L)) (fun f h' => ∃ D us, f = .ret (.ref D) ∧ Lst h' D us ∧ Ints ((isort (cK true kf) is).take n) us ∧ KpX X fs h h') := by
  have K₁ := N.base K hXb hfb
  have S₁ := N.st
  have hbn : ∀ J, (X J ∨ h.get? J = none) → b.get? J = none := fun J hJ => by
    rcases hJ with q | q
    · exact hXb J q
    · cases e : b.get? J with
      | none => rfl
      | some o => rw [K _ _ e] at q; cases q
  -- if key is None
  refine Rn.cons (Rn.ifS (Rn.testCmp (Pv.val (Pv.nameC N.cell) (Pv.val Pv.none (Pv.val Pv.isNone (Rn.truthyB ?_))))))
  rw [if_neg (by decide)]
  refine Rn.nil ?_
  -- it = iter(iterable)
  refine Rn.seq (I := fun h' => ∃ J, NS h X fs L q h' [("n", .int n t), ("it", .ref J)] ∧ Src h' J vs ∧ (X J ∨ h.get? J = none)) (Rn.opq fun PQ hPQ => Rn.assignName ?_) ?_
  · walk_at "evs"
    refine Rn.iterC fun A' => Rn.iterInp H fun J h₂ hJ hS k₂ => ?_
    have N₂ := N.keeps k₂
    refine Rn.storeN N₂ fun h₃ N₃ s₃ => hPQ _ _ ⟨rfl, J, N₃.sub (by walk_at "subs"), N₂.src hS s₃, ?_⟩
    rcases hJ with q | q
    · exact .inl q
    · exact (N.newL q).symm
  rintro h₂ ⟨J, N₂, S₂, hJ⟩
  -- the first n
  refine Rn.seq (comp_nlg hA W K F hXb hfb N₂ S₂ hJ hi hn h64) ?_
  rintro h₃ ⟨D, us, N₃, hD, H₃, ht₃, l, hlD, S₃⟩
  have T₃ := N₃.st
  have hul : us.length = n := by rw [ht₃.1]; simp
  -- if not result
  refine Rn.cons (Rn.ifS (Rn.testNot (Rn.testVal ?_)))
  walk_at "ev"
  refine Pv.val (Pv.truthyL H₃ (by omega)) ?_
  by_cases hn0 : n = 0
  · have hus : us = [] := List.length_eq_zero_iff.mp (by omega)
    subst hus
    rw [if_pos (by rfl)]
    refine Rn.cons (Rn.ret ?_)
    walk_at "ev"
    refine ⟨D, [], rfl, H₃, ?_, N₃.kpx⟩
    rw [hn0]
    exact ⟨rfl, fun i v e => by simp at e⟩
  have hne : us ≠ [] := fun e => hn0 (by rw [← hul, e]; rfl)
  rw [if_neg (by cases us with | nil => exact absurd rfl hne | cons _ _ => exact Bool.false_ne_true)]
  refine Rn.nil ?_
  have K₃ := N₃.base K hXb hfb
  -- heapify
  refine Rn.cons (Rn.exprS ?_)
  walk_at "evs"
  refine ⟨K₃, hf_min (S := fun v => TupK h₃ κ v (decO h₃ κ v)) (lt := fun v u => ilt (decO h₃ κ v) (decO h₃ κ u)) (hA.le (by decide)) W K₃ (hbn D (.inr hD)) H₃ (cmpTup H₃ (decO h₃ κ)) ht₃.all (by omega) fun h₄ H₄ x₄ => ⟨fun a e => (nomatch e), ?_⟩⟩
  obtain ⟨us₄, its₄, Hp₄⟩ := HpS.heapify (fl := true) (fun i => 0 + (i : Int) * (-1)) oc_ord_dn H₃ ht₃ x₄ H₄
  have N₄ := N₃.ext x₄ H₃.dat (.inr hD)
  have T₄ := N₄.st
  have S₄ : SrcL h₄ J l (vs.drop n) := S₃.ext x₄ (fun e => S₃.src.not_list (e ▸ H₃)) hlD
  have hul₄ : us₄.length = n := by rw [Hp₄.tups.1, Hp₄.inv.len]
  -- top = result[0][0]
  have hu0 : us₄[0]? = some (us₄.getD 0 .none) := getD_lt (by omega)
  obtain ⟨T0, kv0, t0, u0, e0, hT0, hk0⟩ := Hp₄.tups.2 0 _ hu0
  rw [e0] at hu0
  refine Rn.seq (I := fun h' => NS h X fs L q h' [("n", .int n t), ("it", .ref J), ("result", .ref D), ("top", kv0)] ∧ SrcL h' J l (vs.drop n) ∧ HpS true kf is κ n n h' D (0 + (n : Int) * (-1)) us₄ its₄) (Rn.opq fun PQ hPQ => Rn.assignName ?_) ?_
  · walk_at "evs"
    refine Pv.val (Pv.itemList Hp₄.lst (by decide) (by decide) hu0) ?_
    walk_at "evs"
    refine Pv.val (Pv.itemTup (j := 0) hT0 (by decide) (by decide) rfl rfl) ?_
    exact Rn.storeN N₄ fun h₅ N₅ s₅ => hPQ _ _ ⟨rfl, N₅.sub (by walk_at "subs"), N₄.srcL S₄ s₅, Hp₄.store N₄ s₅⟩
  rintro h₅ ⟨N₅, S₅, Hp₅⟩
  have T₅ := N₅.st
  -- order
  refine Rn.seq (I := fun h' => ∃ to, NS h X fs L q h' [("it", .ref J), ("result", .ref D), ("top", kv0), ("order", .int (0 + (n : Int) * (-1)) to)] ∧ SrcL h' J l (vs.drop n) ∧ HpS true kf is κ n n h' D (0 + (n : Int) * (-1)) us₄ its₄) (Rn.assignName ?_) ?_
  · refine Rn.unary ?_
    walk_at "evs"
    refine Pv.thenI Pv.negI fun tn => ?_
    have e : -(n : Int) = 0 + (n : Int) * (-1) := by omega
    exact Rn.storeN N₅ fun h₆ N₆ s₆ => ⟨rfl, tn, by rw [← e]; exact N₆.sub (by walk_at "subs"), N₅.srcL S₅ s₆, Hp₅.store N₅ s₆⟩
  rintro h₆ ⟨to, N₆, S₆, Hp₆⟩
  have T₆ := N₆.st
  have K₆ := N₆.base K hXb hfb
  -- _heapreplace
  refine Rn.seq (I := fun h' => NS h X fs L q h' [("it", .ref J), ("result", .ref D), ("top", kv0), ("order", .int (0 + (n : Int) * (-1)) to), ("_heapreplace", .ref 21)] ∧ SrcL h' J l (vs.drop n) ∧ HpS true kf is κ n n h' D (0 + (n : Int) * (-1)) us₄ its₄) (Rn.opq fun PQ hPQ => Rn.assignName ?_) ?_
  · walk_at "evs"
    exact Rn.storeN N₆ fun h₇ N₇ s₇ => hPQ _ _ ⟨rfl, N₇.sub (by walk_at "subs"), N₆.srcL S₆ s₇, Hp₆.store N₆ s₇⟩
  rintro h₇ ⟨N₇, S₇, Hp₇⟩
  refine Rn.seq (loop_nlg hA W K F hXb hfb N₇ S₇ hlD hJ hD hi hn (by omega) h64 Hp₇ hk0) ?_
  rintro h₈ ⟨us₈, its₈, o₈, N₈, Hp₈⟩
  exact end_nlg hA N₈ hD hi (by omega) (by omega) Hp₈
theorem nlg (hA : Ok 20 A) (W : Wd b) (K : Kp b h) (Fm : Fms b A h fs) (F : KeyF prog w b q κ kf) (hXb : ∀ a, X a → b.get? a = none)
    (H : Inp h I vs X) (hi : Ints is vs) (h2 : 2 ≤ vs.length) (h64 : vs.length < 60) (hn : n ≤ vs.length) :
    Rn prog w A h (call (.ref 82) [.int n t, .ref I] [(Str.ofString "key", .ref q)]) (fun v h' => ∃ D us, v = .ref D ∧ Lst h' D us ∧ Ints ((isort (cK true kf) is).take n) us ∧ KpX X fs h h') := by
  obtain ⟨oT, hoT, hcT, nT, hdT⟩ := W.dflt.2.keeps K
  refine Rn.callDefC (k := 19) (n := 10) (binds := [("n", .int n t), ("iterable", .ref I), ("key", .ref q)]) (ls := [("n", .int n t), ("iterable", .ref I)]) hA ((W.fn _ _ _ (by rfl)).keeps K) (W.lim.keeps K)
    (fun s name qual doc pm an cdv ct es => BindsTo.of_defaults (T := 77) rfl (by rw [es]; exact hoT) hdT rfl rfl) (by walk_at "subs") ?_ ?_
  · intro qual cdv L h₁ S₁ hc hA'
    have hkey : h₁.IsCell (L + 1) (some (.ref q)) := (hc "key" (L + 1) rfl).1
    have hfb := Fm.new
    have N₁ : NS h X fs L q h₁ [("n", .int n t), ("iterable", .ref I)] := ⟨S₁.weak fun _ q => q.elim, fun a m _ hm => hm.keeps S₁.kp, hkey, Fm.ns⟩
    have H₁ := H.keeps S₁.kp
    have K₁ := K.trans S₁.kp
    have T₁ := N₁.st
    have hA12 : Ok 12 (A.deeper (envN 10 82 qual cdv L)) := hA'.le (by decide)
    refine Rn.cons (Rn.ifS ?_)
    walk_at "evs"
    refine Pv.val Pv.eqI ?_
    walk_at "evs"
    by_cases hn1 : n = 1
    · subst hn1
      rw [if_pos (by rfl)]
      refine (one_nlg hA12 W K F hXb hfb N₁ H₁ hi (by omega)).mono ?_
      rintro f h' ⟨D, us, rfl, r⟩
      exact ⟨D, us, rfl, r⟩
    rw [if_neg (by simp; omega)]
    refine Rn.nil ?_
    have Fm₁ : Fms b (A.deeper (envN 10 82 qual cdv L)) h₁ (L :: fs) := (Fm.keeps S₁.kp).deeper K S₁ rfl rfl
    have fin : ∀ h₂, NS h X fs L q h₂ [("n", .int n t), ("iterable", .ref I)] → Inp h₂ I vs X → Rn prog w (A.deeper (envN 10 82 qual cdv L)) h₂ (execs ((bA 10).drop 2) (envN 10 82 qual cdv L)) (fun f h' => ∃ D us, (match f with | .ret v => v | _ => Value.none) = .ref D ∧ Lst h' D us ∧ Ints ((isort (cK true kf) is).take n) us ∧ KpX X fs h h') := fun h₂ N₂ H₂ => by
      refine (rest_nlg hA12 W K F hXb hfb N₂ H₂ hi hn hn1 h64).mono ?_
      rintro f h' ⟨D, us, rfl, r⟩
      exact ⟨D, us, rfl, r⟩
    cases H₁ with
    | list HL =>
      refine Rn.cons (Rn.tryOk ?_)
      refine Rn.seq (I := fun h' => ∃ ts, NS h X fs L q h' [("n", .int n t), ("iterable", .ref I), ("size", .int vs.length ts)] ∧ Lst h' I vs) (Rn.opq fun PQ hPQ => Rn.assignName ?_) ?_
      · walk_at "evs"
        refine Pv.thenI (Pv.lenL HL (by omega)) fun ts => ?_
        exact Rn.storeN N₁ fun h₂ N₂ s₂ => hPQ _ _ ⟨rfl, ts, N₂.sub (by walk_at "subs"), N₁.lst HL s₂⟩
      rintro h₂ ⟨ts, N₂, HL₂⟩
      have T₂ := N₂.st
      have K₂ := N₂.base K hXb hfb
      refine Rn.nil ?_
      refine Rn.cons (Rn.ifS ?_)
      walk_at "evs"
      refine Pv.val Pv.geI ?_
      walk_at "evs"
      by_cases hge : (n : Int) ≥ vs.length
      · rw [if_pos (decide_eq_true hge)]
        have hne : n = vs.length := by omega
        refine Rn.cons (Rn.ret (Rn.subscript ?_))
        refine Rn.callK ?_
        walk_at "ev"
        refine Rn.cwKBlt ?_
        walk_at "evs"
        refine Rn.kwCons ?_
        refine Pv.val (Pv.nameC N₂.cell) ?_
        refine Rn.kwCons (Pv.val Pv.boolC (Rn.kwNil ?_))
        show Rn _ _ _ _ (call (.builtin "sorted") [.ref I] [(Str.ofString "key", .ref q), (Str.ofString "reverse", .bool true)]) _
        refine Rn.sortedK (bb := true) (hA12.le (by decide)) K₂ F HL₂ hi h2 (by omega) (ksk_s2 _ _ _) (fun x => ksk_l2 _ _ _) (fun x => ksk_t2 _ _ _) fun D h₃ us₃ hD H₃ hI₃ k₃ => ?_
        have N₃ := N₂.keeps k₃
        have T₃ := N₃.st
        refine Rn.sliceE (Rn.partN (Rn.partS ?_))
        walk_at "evs"
        refine Rn.partN fun sl h₄ hsl hS k₄ => ?_
        have hl₃ := hI₃.1
        refine Rn.sliceT (H₃.keeps k₄) hS .none (.int _ _) .none (by simp) (by rw [hl₃, isort_len, ← hi.1]; omega) fun D' h₅ hD' H₅ k₅ => ?_
        rw [pick_upto] at H₅
        exact ⟨D', _, rfl, H₅, hI₃.take n, ((N₃.keeps k₄).keeps k₅).kpx⟩
      · rw [if_neg (by rw [decide_eq_false hge]; exact Bool.false_ne_true)]
        refine Rn.nil (Rn.nil ?_)
        exact fin h₂ (N₂.sub (by walk_at "subs")) (.list HL₂)
    | rev l us hR HL hne hXI hvs =>
      refine Rn.cons ?_
      refine Rn.tryLen (fs := L :: fs) (L := L) hA'.1 W K₁ Fm₁ ?_ rfl hR (Pv.nameS T₁ (by rfl)) (fun h₂ kf₂ => ?_) (fun A h k => Pv.blt W k (by rfl)) (fun A h k => Pv.blt W k (by rfl)) (fun A h k => Pv.blt W k (by rfl))
      · obtain ⟨envs, e, _, _⟩ := Fm.ex
        exact ⟨envs, Around.frames_deeper e⟩
      · have apI := N₁.apart (c := I) (by obtain ⟨o, e, _, hd⟩ := hR; exact Dat.fields e hd)
        have apl := N₁.apart HL.dat
        have n2 : ∀ {c}, c ≠ L ∧ c ≠ L + 1 ∧ c ∉ fs → c ∉ L :: fs := fun a q => by
          rcases List.mem_cons.mp q with q | q
          · exact a.1 q
          · exact a.2.2 q
        refine fin h₂ ⟨⟨kf₂.loc N₁.st.loc, fun c o hc e => kf₂.1 c o (fun q => ?_) (N₁.st.ext c o hc e), N₁.st.new⟩, fun a m ha hm => kf₂.ns (N₁.fr a m ha hm), ?_, N₁.old⟩ ?_
        · rcases List.mem_cons.mp q with q | q
          · exact N₁.st.ne e q
          · exact hc (.inr q)
        · obtain ⟨o, ho, hd⟩ := hkey
          obtain ⟨sl, hs⟩ := kf₂.2 _ _ ho
          exact ⟨_, hs, hd⟩
        · obtain ⟨o, ho, r⟩ := hR
          obtain ⟨ln, el⟩ := HL
          exact .rev l us ⟨o, kf₂.1 _ _ (n2 apI) ho, r⟩ ⟨ln, kf₂.1 _ _ (n2 apl) el⟩ hne hXI hvs
  · intro N x hx
    simp only [List.mem_cons, List.not_mem_nil, or_false] at hx
    rcases hx with rfl | rfl | rfl
    · exact .inl rfl
    · exact .inl rfl
    · exact .inr ⟨rfl, rfl⟩
end
end
section
open AutoSeq1 (wpAny_loadPart')
set_option maxRecDepth 100000
set_option autoImplicit false
set_option linter.unusedVariables false
section
variable {prog : Program} {w : World} {A : Around} {E : Value → Shared → Prop} {s : Shared}
theorem nextOf_tuple_item {it t : Addr} {i : Nat} {items : Array Value} {x : Value} {Q : Value → Shared → Prop} (hit : IsTupIter s.heap it t i) (ht : IsTup s.heap t items) (hx : items[i]? = some x)
    (hQ : ∀ h', IsTupIter h' it t (i + 1) → Heap.SameBut it s.heap h' → Q x { s with heap := h' }) : wpAny (model prog w) A (Builtin.SmallTypes.nextOf (.ref it)) Q E s := by
  obtain ⟨o, ho, hc, hd⟩ := id hit
  obtain ⟨ol, hol, _, nl, hdl⟩ := ht
  unfold Builtin.SmallTypes.nextOf
  refine wpAny_bind (wpAny_callSpecial?_slot (name := Str.ofString "__next__") hit.typeIs slot_tupleiter_next
    (wpAny_call_entry slot_tupleiter_next hit.typeIs entry_tupleiter_next ?_ (args_tupleiter_next _)))
  show wpAny _ _ (field (.ref it) 0 >>= _) _ _ s
  refine wpAny_bind (wpAny_field ho hd (x := .ref t) rfl ?_)
  show wpAny _ _ (if (Value.ref t == Value.none) = true then _ else _) _ _ s
  rw [if_neg (show ¬ ((Value.ref t == Value.none) = true) from Bool.false_ne_true)]
  show wpAny _ _ (field (.ref it) 1 >>= _) _ _ s
  refine wpAny_bind (wpAny_field ho hd (x := .int i 0) rfl ?_)
  show wpAny _ _ (seqItems? (.ref t) >>= _) _ _ s
  refine wpAny_bind (wpAny_seqItems hol hdl ?_)
  simp only [Int.toNat_natCast, hx]
  refine wpAny_bind (wpAny_setField ho hd (by simp) (wpAny_pure ⟨x, rfl, wpAny_pure (hQ _ ?_ (Heap.SameBut.update ..))⟩))
  exact ⟨_, Heap.get?_update_self _ ho (Obj.isFreed_of_fields (Obj.data_mapFields hd _)), (Obj.cls_mapFields ..).trans hc, by
    rw [Obj.data_mapFields hd]; simp [rawInt]⟩
theorem nextOf_tuple_end {it t : Addr} {i : Nat} {items : Array Value} {Q : Value → Shared → Prop} (hh : A.handled = none) (hit : IsTupIter s.heap it t i) (ht : IsTup s.heap t items) (hx : items[i]? = none)
    (hE : ∀ h' e, Heap.ExtBut it s.heap h' → (∃ o, h'.get? e = some o ∧ o.cls = .type "StopIteration") → E (.ref e) { s with heap := h' }) : wpAny (model prog w) A (Builtin.SmallTypes.nextOf (.ref it)) Q E s := by
  obtain ⟨o, ho, hc, hd⟩ := id hit
  obtain ⟨ol, hol, _, nl, hdl⟩ := ht
  unfold Builtin.SmallTypes.nextOf
  refine wpAny_bind (wpAny_callSpecial?_slot (name := Str.ofString "__next__") hit.typeIs slot_tupleiter_next
    (wpAny_call_entry slot_tupleiter_next hit.typeIs entry_tupleiter_next ?_ (args_tupleiter_next _)))
  show wpAny _ _ (field (.ref it) 0 >>= _) _ _ s
  refine wpAny_bind (wpAny_field ho hd (x := .ref t) rfl ?_)
  show wpAny _ _ (if (Value.ref t == Value.none) = true then _ else _) _ _ s
  rw [if_neg (show ¬ ((Value.ref t == Value.none) = true) from Bool.false_ne_true)]
  show wpAny _ _ (field (.ref it) 1 >>= _) _ _ s
  refine wpAny_bind (wpAny_field ho hd (x := .int i 0) rfl ?_)
  show wpAny _ _ (seqItems? (.ref t) >>= _) _ _ s
  refine wpAny_bind (wpAny_seqItems hol hdl ?_)
  simp only [Int.toNat_natCast, hx]
  refine wpAny_bind (wpAny_rule (wpAny_bind (wpAny_setField ho hd (by simp) ?_)))
  show wpAny _ _ (newExc (.type "StopIteration") [] >>= _) _ _ _
  refine wpAny_bind ?_
  simp only [newExc, newTuple]
  refine wpAny_bind (wpAny_newObj_type ?_ (by size_fits))
  refine wpAny_bind (m := firstArgMember _ _) (wpAny_of_eq (a := Value.none) (by first | rfl | (simp only [firstArgMember]; rfl)) ?_)
  refine wpAny_newObj_type ?_ (by size_fits)
  simp only [raiseNew]
  refine wpAny_bind (wpAny_handled ?_)
  first | rw [show A.in1.handled = none from hh] | rw [hh]
  refine wpAny_bind (wpAny_pure (wpAny_throw ?_))
  exact hE _ _ (((Heap.SameBut.update ..).extBut.push _).push _) ⟨_, Heap.get?_push_size _ rfl, rfl⟩
end
theorem TupI.at {h h' : Heap} {it t : Addr} {i : Nat} (x : IsTupIter h it t i) (e : ∀ o, h.get? it = some o → h'.get? it = some o) : IsTupIter h' it t i := let ⟨o, ho, r⟩ := x; ⟨o, e _ ho, r⟩
theorem TupA.at {h h' : Heap} {t : Addr} {items : Array Value} (x : IsTup h t items) (e : ∀ o, h.get? t = some o → h'.get? t = some o) : IsTup h' t items := let ⟨o, ho, r⟩ := x; ⟨o, e _ ho, r⟩
theorem drawsTup {prog : Program} {w : World} {A : Around} (hh : A.handled = none) (it t : Addr) (hne : t ≠ it) (items : Array Value) :
    Draws prog w A it [it, t] items.size (fun i v => items[i]? = some v) (fun i h => IsTupIter h it t i ∧ IsTup h t items) where
  live := fun _ _ st => let ⟨o, ho, _⟩ := st.1; ⟨o, ho⟩
  frame := fun _ _ _ st hk => ⟨TupI.at st.1 fun o e => hk it (by simp) o e, TupA.at st.2 fun o e => hk t (by simp) o e⟩
  item := fun i s Q E hi st hQ => by
    refine nextOf_tuple_item st.1 st.2 (x := items[i]) (by simp [hi]) fun h' hit' hs' => ?_
    exact hQ _ h' s.toks (by simp [hi]) ⟨hit', TupA.at st.2 fun o e => hs'.extBut _ _ hne e⟩ hs'
  done := fun s Q E st hE => nextOf_tuple_end hh st.1 st.2 (by simp) hE
theorem meets_enumerate_newT (l : Addr) (items : Array Value) (n : Nat) (dct : Option Addr) (sl : Array (Option Value)) :
    Meets (Builtin.«enumerate.__new__» ⟨[.type "enumerate", .ref l], []⟩) (fun _ R s => s.heap.get? l = some { cls := .type "tuple", dict := dct, data := .seq items n, slots := sl } ∧
      R (.ok (.ret (.ref (s.heap.push { cls := .type "tuple_iterator", data := .fields #[.ref l, .int 0 0] }).objs.size)))
        { s with heap := (s.heap.push { cls := .type "tuple_iterator", data := .fields #[.ref l, .int 0 0] }).push { cls := .type "enumerate", data := .fields #[.none, .bool false, .ref s.heap.objs.size, rawInt 0, .none, .none] } }) :=
  .of_wp fun prog w A R s h => by
    obtain ⟨hp, g, d, tk, os⟩ := s; obtain ⟨hl, h⟩ := h
    have hsub := sub_enumerate
    have hL : IsTup (Shared.heap ⟨hp, g, d, tk, os⟩) l items := ⟨_, hl, rfl, n, rfl⟩
    wp_walk using wpAny_loadPart' hl
    refine wpAny_stack_any fun st => wpAny_pure ?_
    split
    · rename_i c _ _ _ _ _
      cases (c == Value.type "enumerate")
      · wp_walk using wpAny_loadPart' hl, iter_tuple hL
        exact ⟨_, rfl, h⟩
      · wp_walk using wpAny_loadPart' hl, iter_tuple hL
        exact ⟨_, rfl, h⟩
    · wp_walk using wpAny_loadPart' hl, iter_tuple hL
      exact ⟨_, rfl, h⟩
section
variable {prog : Program} {w : World} {A : Around} {h b : Heap} {env : Env}
theorem Rn.enumT {l : Addr} {vs : List Value} {P : Value → Heap → Prop} (H : Tup h l vs)
    (k : ∀ e it h', h.get? e = none → h.get? it = none → e ≠ it → IsEnum h' e it 0 .none → IsTupIter h' it l 0 → Kp h h' → P (.ref e) h') : Rn prog w A h (call (.type "enumerate") [.ref l]) P := by
  refine Rn.of fun s Q E es kk => ?_
  subst es
  obtain ⟨⟨c, dct, dt, sl⟩, hl, hc, n, hd⟩ := H
  replace hc : c = .type "tuple" := hc
  replace hd : dt = .seq vs.toArray n := hd
  subst hc hd
  refine callType_new F.called_enumerate (by decide) (F.typeCall_enumerate_1 _) (F.newCall_enumerate_1 _) (fun obj => F.args_object_init_2 obj _) F.entry_enumerate_new
    (meets_enumerate_newT l vs.toArray n dct sl) ⟨hl, ?_⟩
  have hz : (s.heap.push { cls := .type "tuple_iterator", data := .fields #[.ref l, .int 0 0] }).objs.size = s.heap.objs.size + 1 := Heap.size_push ..
  have f1 : s.heap.get? (s.heap.push { cls := .type "tuple_iterator", data := .fields #[.ref l, .int 0 0] }).objs.size = none := by
    cases e : s.heap.get? (s.heap.push { cls := .type "tuple_iterator", data := .fields #[.ref l, .int 0 0] }).objs.size with
    | none => rfl
    | some o => exact absurd (Heap.lt_size e) (by rw [hz]; exact Nat.not_lt.mpr (Nat.le_succ _))
  show _ ∧ _
  refine ⟨⟨_, Heap.get?_push_size _ rfl, rfl⟩, kk _ _ s.toks (k _ _ _ f1 (fresh_size _) (by rw [hz]; exact Nat.succ_ne_self _) (Heap.get?_push_size _ rfl) ⟨_, Heap.get?_push_of_some _ (Heap.get?_push_size _ rfl), rfl, rfl⟩ ((Kp.push _ _).trans (Kp.push _ _)))⟩
theorem Rn.enumNext {e it l : Addr} {i : Nat} {vs : List Value} {old x : Value} {P : Option Value → Heap → Prop} (hA : A.handled = none) (he : IsEnum h e it i old) (hit : IsTupIter h it l i) (H : Tup h l vs) (hne : e ≠ it) (hle : l ≠ e) (hli : l ≠ it) (hx : vs[i]? = some x)
    (k : ∀ T h' t, h.get? T = none → IsEnumOut h' e it ((i : Int) + 1) x T → IsTupIter h' it l (i + 1) → Tup h' T [.int i t, x] → T ≠ e → (∀ c o, c ≠ e → c ≠ it → h.get? c = some o → h'.get? c = some o) → P (some (.ref T)) h') : Rn prog w A h (pyNext (.ref e)) P := by
  refine Rn.of fun s Q E es kk => ?_
  subst es
  have hlt : i < vs.toArray.size := by have := (List.getElem?_eq_some_iff.mp hx).1; simpa using this
  refine wpAny_pyNext_enum_itemD (drawsTup (A := A.in1) hA it l hli vs.toArray) he ⟨hit, H⟩ hlt hne (by simp [hne, hle.symm]) fun x' h' tk hP ho hs' hT hsz hk => ?_
  have hxx : x' = x := by
    rw [List.getElem?_toArray, hx] at hP
    exact (Option.some.inj hP).symm
  subst hxx
  have helt : e < s.heap.objs.size := Heap.lt_size he
  exact kk _ h' _ (k _ h' tk (fresh_size _) ho hs'.1 ⟨_, hT, rfl, _, rfl⟩ (Nat.ne_of_gt helt) hk)
theorem Rn.enumEnd {e it l : Addr} {i : Nat} {vs : List Value} {old : Value} {P : Option Value → Heap → Prop} (hA : A.handled = none) (he : IsEnum h e it i old) (hit : IsTupIter h it l i) (H : Tup h l vs) (hli : l ≠ it) (hi : i = vs.length)
    (k : ∀ h', Heap.ExtBut it h h' → P none h') : Rn prog w A h (pyNext (.ref e)) P := by
  refine Rn.of fun s Q E es kk => ?_
  subst es
  subst hi
  have hs : vs.toArray.size = vs.length := by simp
  exact wpAny_pyNext_enum_endD (drawsTup (A := A.in1) hA it l hli vs.toArray) he (by rw [hs]; exact ⟨hit, H⟩) fun h' x => kk _ h' s.toks (k h' x)
theorem Rn.enumGo {elts : List Expr} {x1 : Nat} {pos : Pos} {e it T : Addr} {i : Int} {item : Value} {P : Unit → Heap → Prop} (he : IsEnumOut h e it i item T)
    (k : ∀ h', IsEnum h' e it i item → Heap.SameBut e h h' → P () h') : Rn prog w A h (letOwnedTupleGo (.Tuple elts x1 pos) (.ref e) (.ref T)) P :=
  Rn.of fun s Q E es kk => by subst es; exact wpAny_letOwnedTupleGo_enum he fun h' he' hs' => kk _ h' s.toks (k h' he' hs')
theorem Pv.iterEnum {e it : Addr} {i : Int} {old : Value} (he : IsEnum h e it i old) : Pv prog w A h (pyIter (.ref e)) (· = .ref e) :=
  Rn.of fun s Q E es kk => by subst es; exact wpAny_pyIter_enum he (kk _ _ s.toks ⟨rfl, rfl⟩)
theorem Rn.iterTup {l : Addr} {vs : List Value} {P : Value → Heap → Prop} (H : Tup h l vs) (k : ∀ I h', h.get? I = none → IsTupIter h' I l 0 → Kp h h' → P (.ref I) h') : Rn prog w A h (pyIter (.ref l)) P :=
  Rn.of fun s Q E es kk => by subst es; exact iter_tuple H (kk _ _ s.toks (k _ _ (fresh_size _) ⟨_, Heap.get?_push_size _ rfl, rfl, rfl⟩ (Kp.push _ _)))
theorem Rn.nextTup {I l : Addr} {i : Nat} {vs : List Value} {x : Value} {P : Option Value → Heap → Prop} (hit : IsTupIter h I l i) (H : Tup h l vs) (hx : vs[i]? = some x) (k : ∀ h', IsTupIter h' I l (i + 1) → Heap.SameBut I h h' → P (some x) h') : Rn prog w A h (pyNext (.ref I)) P :=
  Rn.of fun s Q E es kk => by subst es; exact next_tuple_item hit H (by simpa using hx) fun h' hi' hs => kk _ h' s.toks (k h' hi' hs)
theorem Rn.endTup {I l : Addr} {i : Nat} {vs : List Value} {P : Option Value → Heap → Prop} (hA : A.handled = none) (hit : IsTupIter h I l i) (H : Tup h l vs) (hx : vs[i]? = none) (k : ∀ h', Heap.ExtBut I h h' → P none h') : Rn prog w A h (pyNext (.ref I)) P :=
  Rn.of fun s Q E es kk => by subst es; exact next_tuple_end hA hit H (by simpa using hx) fun h' hs => kk _ h' s.toks (k h' hs)
theorem Rn.goTupIter {elts : List Expr} {k : Nat} {pos : Pos} {I l : Addr} {i : Nat} {v : Value} {P : Unit → Heap → Prop} (hit : IsTupIter h I l i) (H : P () h) : Rn prog w A h (letOwnedTupleGo (.Tuple elts k pos) (.ref I) v) P := by
  obtain ⟨o, ho, hc, hd⟩ := hit
  unfold letOwnedTupleGo
  cases v with
  | ref a =>
    refine Rn.bind (Rn.load ho ?_)
    rw [hc, hd]
    dsimp only
    rw [if_neg (by simp)]
    exact Rn.pure H
  | _ => exact Rn.pure H
end
end
section
set_option maxRecDepth 100000
set_option maxHeartbeats 1000000
set_option autoImplicit false
set_option linter.unusedVariables false
theorem nat_and (a b : Nat) : a &&& b = 2 * (a / 2 &&& b / 2) + (a % 2) * (b % 2) := by
  have e : (a &&& b) / 2 = a / 2 &&& b / 2 := Nat.and_div_two
  have d := Nat.div_add_mod (a &&& b) 2
  rw [e] at d
  rw [← d]
  congr 1
  have h := @Nat.and_mod_two_eq_one a b
  rcases Nat.mod_two_eq_zero_or_one a with p | p <;> rcases Nat.mod_two_eq_zero_or_one b with q | q <;> rcases Nat.mod_two_eq_zero_or_one (a &&& b) with r | r <;> rw [p, q, r] at h ⊢ <;> simp at h ⊢
theorem ba_pos (a m c : Nat) (hc : c < 2) : Builtin.bitAnd (a : Int) (2 * (m : Int) + c) = 2 * Builtin.bitAnd ((a : Int) / 2) m + (a % 2 : Nat) * (c : Int) := by
  have h2 : 0 ≤ (a : Int) / 2 := Int.ediv_nonneg (Int.natCast_nonneg _) (by decide)
  have e1 : (2 * (m : Int) + c).toNat = 2 * m + c := by omega
  have e2 : ((a : Int) / 2).toNat = a / 2 := by omega
  have e3 : (2 * m + c) / 2 = m := by omega
  have e4 : (2 * m + c) % 2 = c := by omega
  rw [bitAnd_pp (Int.natCast_nonneg _) (by omega), bitAnd_pp h2 (Int.natCast_nonneg _), e1, e2, Int.toNat_natCast, Int.toNat_natCast, nat_and a, e3, e4]
  exact Int.natCast_add _ _ |>.trans (by rw [Int.natCast_mul, Int.natCast_mul]; rfl)
theorem ba_neg (a m c : Nat) (hc : c < 2) : Builtin.bitAnd (-(a : Int) - 1) (2 * (m : Int) + c) = 2 * Builtin.bitAnd ((-(a : Int) - 1) / 2) m + ((1 - a % 2 : Nat) : Int) * (c : Int) := by
  have n1 : ¬ 0 ≤ -(a : Int) - 1 := by omega
  have n2 : ¬ 0 ≤ (-(a : Int) - 1) / 2 := by omega
  have e1 : (2 * (m : Int) + c).toNat = 2 * m + c := by omega
  have e3 : (2 * m + c) / 2 = m := by omega
  have e4 : (2 * m + c) % 2 = c := by omega
  have b1 : (Builtin.bitNot (-(a : Int) - 1)).toNat = a := by unfold Builtin.bitNot; omega
  have b2 : (Builtin.bitNot ((-(a : Int) - 1) / 2)).toNat = a / 2 := by unfold Builtin.bitNot; omega
  rw [bitAnd_np n1 (by omega), bitAnd_np n2 (Int.natCast_nonneg _), e1, b1, b2, Int.toNat_natCast, nat_and (2 * m + c), e3, e4]
  generalize m &&& a / 2 = q
  rcases Nat.mod_two_eq_zero_or_one a with p | p <;> rw [p] <;> simp only [Nat.mul_zero, Nat.mul_one, Nat.sub_zero, Nat.sub_self, Int.natCast_add, Int.natCast_mul] <;> omega
theorem ba2 (x M : Int) (hM : 0 ≤ M) : Builtin.bitAnd x (2 * M) = 2 * Builtin.bitAnd (x / 2) M := by
  obtain ⟨m, rfl⟩ := Int.eq_ofNat_of_zero_le hM
  by_cases hx : 0 ≤ x
  · obtain ⟨a, rfl⟩ := Int.eq_ofNat_of_zero_le hx
    simpa using ba_pos a m 0 (by decide)
  · obtain ⟨a, ha⟩ := Int.eq_ofNat_of_zero_le (show 0 ≤ -x - 1 by omega)
    have : x = -(a : Int) - 1 := by omega
    subst this
    simpa using ba_neg a m 0 (by decide)
theorem ba21 (x M : Int) (hM : 0 ≤ M) : Builtin.bitAnd x (2 * M + 1) = 2 * Builtin.bitAnd (x / 2) M + x % 2 := by
  obtain ⟨m, rfl⟩ := Int.eq_ofNat_of_zero_le hM
  by_cases hx : 0 ≤ x
  · obtain ⟨a, rfl⟩ := Int.eq_ofNat_of_zero_le hx
    simpa using ba_pos a m 1 (by decide)
  · obtain ⟨a, ha⟩ := Int.eq_ofNat_of_zero_le (show 0 ≤ -x - 1 by omega)
    have : x = -(a : Int) - 1 := by omega
    subst this
    have h := ba_neg a m 1 (by decide)
    have e : (((1 - a % 2 : Nat) : Int) * ((1 : Nat) : Int)) = (-(a : Int) - 1) % 2 := by omega
    rw [e] at h
    exact h
/-- bits above -/
theorem ba_sh (M : Int) (hM : 0 ≤ M) : ∀ (k : Nat) (x : Int), Builtin.bitAnd x (2 ^ k * M) = 2 ^ k * Builtin.bitAnd (x / 2 ^ k) M
  | 0, x => by rw [Int.pow_zero, Int.one_mul, Int.one_mul, Int.ediv_one]
  | k + 1, x => by
    have e : (2 : Int) ^ (k + 1) = 2 * 2 ^ k := by rw [Int.pow_succ, Int.mul_comm]
    have hp : (0 : Int) ≤ 2 ^ k := Int.le_of_lt (Int.pow_pos (by decide))
    rw [e, Int.mul_assoc, ba2 x _ (Int.mul_nonneg hp hM), ba_sh M hM k, Int.ediv_ediv_of_nonneg (by decide), Int.mul_assoc]
theorem ba_ones : ∀ (k : Nat) (x : Int), Builtin.bitAnd x (2 ^ k - 1) = x % 2 ^ k
  | 0, x => by
    rw [Int.pow_zero, Int.emod_one]; exact bitAnd_zero _
  | k + 1, x => by
    have e : (2 : Int) ^ (k + 1) = 2 * 2 ^ k := by rw [Int.pow_succ, Int.mul_comm]
    have hp : (0 : Int) < 2 ^ k := Int.pow_pos (by decide)
    have h := ba21 x (2 ^ k - 1) (by omega)
    rw [ba_ones k] at h
    rw [e, show (2 : Int) * 2 ^ k - 1 = 2 * (2 ^ k - 1) + 1 by omega, h]
    have q : x / 2 / 2 ^ k = x / (2 * 2 ^ k) := Int.ediv_ediv_of_nonneg (by decide)
    have d1 := Int.mul_ediv_add_emod (x / 2) (2 ^ k)
    have d2 := Int.mul_ediv_add_emod x (2 * 2 ^ k)
    rw [q] at d1
    rw [Int.mul_assoc] at d2
    omega
theorem ba_at (k : Nat) (x P : Int) (h : 2 ^ k = P) : Builtin.bitAnd x P = x / P % 2 * P := by
  have e := ba_sh 1 (by decide) k x
  have e1 := ba_ones 1 (x / 2 ^ k)
  rw [h, Int.mul_one] at e
  rw [h] at e1
  rw [e, show Builtin.bitAnd (x / P) 1 = x / P % 2 from e1, Int.mul_comm]
theorem ba_fmt (m : Int) : Builtin.bitAnd m 61440 = m / 4096 % 16 * 4096 := by
  have e : Builtin.bitAnd m 61440 = 4096 * Builtin.bitAnd (m / 4096) 15 := ba_sh 15 (by decide) 12 m
  rw [e, show Builtin.bitAnd (m / 4096) 15 = m / 4096 % 16 from ba_ones 4 _, Int.mul_comm]
theorem ba_mode (m : Int) : Builtin.bitAnd m 4095 = m % 4096 := ba_ones 12 m
theorem ba_256 (m : Int) : Builtin.bitAnd m 256 = m / 256 % 2 * 256 := ba_at 8 m 256 (by decide)
theorem ba_128 (m : Int) : Builtin.bitAnd m 128 = m / 128 % 2 * 128 := ba_at 7 m 128 (by decide)
theorem ba_64 (m : Int) : Builtin.bitAnd m 64 = m / 64 % 2 * 64 := ba_at 6 m 64 (by decide)
theorem ba_32 (m : Int) : Builtin.bitAnd m 32 = m / 32 % 2 * 32 := ba_at 5 m 32 (by decide)
theorem ba_16 (m : Int) : Builtin.bitAnd m 16 = m / 16 % 2 * 16 := ba_at 4 m 16 (by decide)
theorem ba_8 (m : Int) : Builtin.bitAnd m 8 = m / 8 % 2 * 8 := ba_at 3 m 8 (by decide)
theorem ba_4 (m : Int) : Builtin.bitAnd m 4 = m / 4 % 2 * 4 := ba_at 2 m 4 (by decide)
theorem ba_2 (m : Int) : Builtin.bitAnd m 2 = m / 2 % 2 * 2 := ba_at 1 m 2 (by decide)
theorem ba_1 (m : Int) : Builtin.bitAnd m 1 = m / 1 % 2 * 1 := ba_at 0 m 1 (by decide)
theorem ba_2048 (m : Int) : Builtin.bitAnd m 2048 = m / 2048 % 2 * 2048 := ba_at 11 m 2048 (by decide)
theorem ba_1024 (m : Int) : Builtin.bitAnd m 1024 = m / 1024 % 2 * 1024 := ba_at 10 m 1024 (by decide)
theorem ba_512 (m : Int) : Builtin.bitAnd m 512 = m / 512 % 2 * 512 := ba_at 9 m 512 (by decide)
theorem ba_2112 (m : Int) : Builtin.bitAnd m 2112 = m / 2048 % 2 * 2048 + m / 64 % 2 * 64 := by
  have e : Builtin.bitAnd m 2112 = 64 * Builtin.bitAnd (m / 64) 33 := ba_sh 33 (by decide) 6 m
  have e1 : Builtin.bitAnd (m / 64) 33 = 2 * Builtin.bitAnd (m / 64 / 2) 16 + m / 64 % 2 := ba21 _ 16 (by decide)
  have e2 := ba_at 4 (m / 64 / 2) 16 (by decide)
  have e3 : m / 64 / 2 / 16 = m / 2048 := by rw [Int.ediv_ediv_of_nonneg (by decide), Int.ediv_ediv_of_nonneg (by decide)]; rfl
  rw [e3] at e2
  omega
theorem ba_1032 (m : Int) : Builtin.bitAnd m 1032 = m / 1024 % 2 * 1024 + m / 8 % 2 * 8 := by
  have e : Builtin.bitAnd m 1032 = 8 * Builtin.bitAnd (m / 8) 129 := ba_sh 129 (by decide) 3 m
  have e1 : Builtin.bitAnd (m / 8) 129 = 2 * Builtin.bitAnd (m / 8 / 2) 64 + m / 8 % 2 := ba21 _ 64 (by decide)
  have e2 := ba_at 6 (m / 8 / 2) 64 (by decide)
  have e3 : m / 8 / 2 / 64 = m / 1024 := by rw [Int.ediv_ediv_of_nonneg (by decide), Int.ediv_ediv_of_nonneg (by decide)]; rfl
  rw [e3] at e2
  omega
theorem ba_513 (m : Int) : Builtin.bitAnd m 513 = m / 512 % 2 * 512 + m % 2 := by
  have e1 : Builtin.bitAnd m 513 = 2 * Builtin.bitAnd (m / 2) 256 + m % 2 := ba21 _ 256 (by decide)
  have e2 := ba_at 8 (m / 2) 256 (by decide)
  have e3 : m / 2 / 256 = m / 512 := by rw [Int.ediv_ediv_of_nonneg (by decide)]; rfl
  rw [e3] at e2
  omega
section
variable {prog : Program} {w : World} {A : Around} {h b : Heap}
theorem ifmt {m : Int} {t : Tok} (hA : Ok 2 A) (W : Wd b) (K : Kp b h) : Rn prog w A h (call (.ref 96) [.int m t]) (fun v h' => IsI (m / 4096 % 16 * 4096) v ∧ Kp h h') := by
  refine Rn.callDef (k := 1) (n := 13) (binds := [("mode", .int m t)]) hA ((W.fn _ _ _ (by rfl)).keeps K) (W.lim.keeps K) (fun _ _ _ _ _ _ _ _ _ => BindsTo.of_eq rfl) ?_
    (hloc := by intro x hx; simp only [List.mem_cons, List.not_mem_nil, or_false] at hx; subst hx; rfl)
  intro qual cdv L h₁ S₁ hA'
  refine Rn.cons (Rn.ret ?_)
  walk_at "evs"
  refine Pv.thenI Pv.andI fun t' => ?_
  rw [ba_fmt]
  exact ⟨⟨t', rfl⟩, S₁.kp⟩
theorem imode {m : Int} {t : Tok} (hA : Ok 2 A) (W : Wd b) (K : Kp b h) : Rn prog w A h (call (.ref 89) [.int m t]) (fun v h' => IsI (m % 4096) v ∧ Kp h h') := by
  refine Rn.callDef (k := 1) (n := 12) (binds := [("mode", .int m t)]) hA ((W.fn _ _ _ (by rfl)).keeps K) (W.lim.keeps K) (fun _ _ _ _ _ _ _ _ _ => BindsTo.of_eq rfl) ?_
    (hloc := by intro x hx; simp only [List.mem_cons, List.not_mem_nil, or_false] at hx; subst hx; rfl)
  intro qual cdv L h₁ S₁ hA'
  refine Rn.cons (Rn.ret ?_)
  walk_at "evs"
  refine Pv.thenI Pv.andI fun t' => ?_
  rw [ba_mode]
  exact ⟨⟨t', rfl⟩, S₁.kp⟩
theorem keyF_fmt (W : Wd b) : KeyF prog w b 96 1 (fun m => [(m / 4096 % 16 * 4096).toNat]) := by
  refine ⟨⟨_, _, W.fn _ _ _ (by rfl)⟩, fun A h m t hA K => (ifmt (hA.le (by decide)) W K).mono ?_⟩
  rintro v h' ⟨⟨t', rfl⟩, k⟩
  exact ⟨⟨(m / 4096 % 16 * 4096).toNat, t', by rw [Int.toNat_of_nonneg (by omega)], rfl⟩, k⟩
theorem keyF_mode (W : Wd b) : KeyF prog w b 89 1 (fun m => [(m % 4096).toNat]) := by
  refine ⟨⟨_, _, W.fn _ _ _ (by rfl)⟩, fun A h m t hA K => (imode (hA.le (by decide)) W K).mono ?_⟩
  rintro v h' ⟨⟨t', rfl⟩, k⟩
  exact ⟨⟨(m % 4096).toNat, t', by rw [Int.toNat_of_nonneg (by omega)], rfl⟩, k⟩
theorem keyF_dir (W : Wd b) : KeyF prog w b 103 0 (fun m => [(decide (m / 4096 % 16 = 4)).toNat]) := by
  refine ⟨⟨_, _, W.fn _ _ _ (by rfl)⟩, fun A h m t hA K => ?_⟩
  refine Rn.callDef (k := 5) (n := 21) (binds := [("mode", .int m t)]) hA ((W.fn _ _ _ (by rfl)).keeps K) (W.lim.keeps K) (fun _ _ _ _ _ _ _ _ _ => BindsTo.of_eq rfl) ?_
    (hloc := by intro x hx; simp only [List.mem_cons, List.not_mem_nil, or_false] at hx; subst hx; rfl)
  intro qual cdv L h₁ S₁ hA'
  have K₁ := K.trans S₁.kp
  refine Rn.cons (Rn.ret ?_)
  walk_at "evs"
  refine ⟨K₁, (ifmt (hA'.le (by decide)) W K₁).mono ?_⟩
  rintro _ h₂ ⟨⟨t', rfl⟩, k₂⟩
  refine Pv.thenI (Pv.globI W (K₁.trans k₂) (by rfl)) fun t₂ => ?_
  refine Pv.val Pv.eqI ?_
  refine ⟨⟨decide (m / 4096 % 16 = 4), ?_, rfl⟩, S₁.kp.trans k₂⟩
  show Value.bool (m / 4096 % 16 * 4096 == 16384) = Value.bool _
  refine congrArg Value.bool ?_
  rw [Bool.eq_iff_iff]
  simp only [beq_iff_eq, decide_eq_true_eq]
  omega
theorem keyF_chr (W : Wd b) : KeyF prog w b 110 0 (fun m => [(decide (m / 4096 % 16 = 2)).toNat]) := by
  refine ⟨⟨_, _, W.fn _ _ _ (by rfl)⟩, fun A h m t hA K => ?_⟩
  refine Rn.callDef (k := 5) (n := 22) (binds := [("mode", .int m t)]) hA ((W.fn _ _ _ (by rfl)).keeps K) (W.lim.keeps K) (fun _ _ _ _ _ _ _ _ _ => BindsTo.of_eq rfl) ?_
    (hloc := by intro x hx; simp only [List.mem_cons, List.not_mem_nil, or_false] at hx; subst hx; rfl)
  intro qual cdv L h₁ S₁ hA'
  have K₁ := K.trans S₁.kp
  refine Rn.cons (Rn.ret ?_)
  walk_at "evs"
  refine ⟨K₁, (ifmt (hA'.le (by decide)) W K₁).mono ?_⟩
  rintro _ h₂ ⟨⟨t', rfl⟩, k₂⟩
  refine Pv.thenI (Pv.globI W (K₁.trans k₂) (by rfl)) fun t₂ => ?_
  refine Pv.val Pv.eqI ?_
  refine ⟨⟨decide (m / 4096 % 16 = 2), ?_, rfl⟩, S₁.kp.trans k₂⟩
  show Value.bool (m / 4096 % 16 * 4096 == 8192) = Value.bool _
  refine congrArg Value.bool ?_
  rw [Bool.eq_iff_iff]
  simp only [beq_iff_eq, decide_eq_true_eq]
  omega
theorem keyF_blk (W : Wd b) : KeyF prog w b 117 0 (fun m => [(decide (m / 4096 % 16 = 6)).toNat]) := by
  refine ⟨⟨_, _, W.fn _ _ _ (by rfl)⟩, fun A h m t hA K => ?_⟩
  refine Rn.callDef (k := 5) (n := 23) (binds := [("mode", .int m t)]) hA ((W.fn _ _ _ (by rfl)).keeps K) (W.lim.keeps K) (fun _ _ _ _ _ _ _ _ _ => BindsTo.of_eq rfl) ?_
    (hloc := by intro x hx; simp only [List.mem_cons, List.not_mem_nil, or_false] at hx; subst hx; rfl)
  intro qual cdv L h₁ S₁ hA'
  have K₁ := K.trans S₁.kp
  refine Rn.cons (Rn.ret ?_)
  walk_at "evs"
  refine ⟨K₁, (ifmt (hA'.le (by decide)) W K₁).mono ?_⟩
  rintro _ h₂ ⟨⟨t', rfl⟩, k₂⟩
  refine Pv.thenI (Pv.globI W (K₁.trans k₂) (by rfl)) fun t₂ => ?_
  refine Pv.val Pv.eqI ?_
  refine ⟨⟨decide (m / 4096 % 16 = 6), ?_, rfl⟩, S₁.kp.trans k₂⟩
  show Value.bool (m / 4096 % 16 * 4096 == 24576) = Value.bool _
  refine congrArg Value.bool ?_
  rw [Bool.eq_iff_iff]
  simp only [beq_iff_eq, decide_eq_true_eq]
  omega
theorem keyF_reg (W : Wd b) : KeyF prog w b 124 0 (fun m => [(decide (m / 4096 % 16 = 8)).toNat]) := by
  refine ⟨⟨_, _, W.fn _ _ _ (by rfl)⟩, fun A h m t hA K => ?_⟩
  refine Rn.callDef (k := 5) (n := 24) (binds := [("mode", .int m t)]) hA ((W.fn _ _ _ (by rfl)).keeps K) (W.lim.keeps K) (fun _ _ _ _ _ _ _ _ _ => BindsTo.of_eq rfl) ?_
    (hloc := by intro x hx; simp only [List.mem_cons, List.not_mem_nil, or_false] at hx; subst hx; rfl)
  intro qual cdv L h₁ S₁ hA'
  have K₁ := K.trans S₁.kp
  refine Rn.cons (Rn.ret ?_)
  walk_at "evs"
  refine ⟨K₁, (ifmt (hA'.le (by decide)) W K₁).mono ?_⟩
  rintro _ h₂ ⟨⟨t', rfl⟩, k₂⟩
  refine Pv.thenI (Pv.globI W (K₁.trans k₂) (by rfl)) fun t₂ => ?_
  refine Pv.val Pv.eqI ?_
  refine ⟨⟨decide (m / 4096 % 16 = 8), ?_, rfl⟩, S₁.kp.trans k₂⟩
  show Value.bool (m / 4096 % 16 * 4096 == 32768) = Value.bool _
  refine congrArg Value.bool ?_
  rw [Bool.eq_iff_iff]
  simp only [beq_iff_eq, decide_eq_true_eq]
  omega
theorem keyF_fifo (W : Wd b) : KeyF prog w b 131 0 (fun m => [(decide (m / 4096 % 16 = 1)).toNat]) := by
  refine ⟨⟨_, _, W.fn _ _ _ (by rfl)⟩, fun A h m t hA K => ?_⟩
  refine Rn.callDef (k := 5) (n := 25) (binds := [("mode", .int m t)]) hA ((W.fn _ _ _ (by rfl)).keeps K) (W.lim.keeps K) (fun _ _ _ _ _ _ _ _ _ => BindsTo.of_eq rfl) ?_
    (hloc := by intro x hx; simp only [List.mem_cons, List.not_mem_nil, or_false] at hx; subst hx; rfl)
  intro qual cdv L h₁ S₁ hA'
  have K₁ := K.trans S₁.kp
  refine Rn.cons (Rn.ret ?_)
  walk_at "evs"
  refine ⟨K₁, (ifmt (hA'.le (by decide)) W K₁).mono ?_⟩
  rintro _ h₂ ⟨⟨t', rfl⟩, k₂⟩
  refine Pv.thenI (Pv.globI W (K₁.trans k₂) (by rfl)) fun t₂ => ?_
  refine Pv.val Pv.eqI ?_
  refine ⟨⟨decide (m / 4096 % 16 = 1), ?_, rfl⟩, S₁.kp.trans k₂⟩
  show Value.bool (m / 4096 % 16 * 4096 == 4096) = Value.bool _
  refine congrArg Value.bool ?_
  rw [Bool.eq_iff_iff]
  simp only [beq_iff_eq, decide_eq_true_eq]
  omega
theorem keyF_lnk (W : Wd b) : KeyF prog w b 138 0 (fun m => [(decide (m / 4096 % 16 = 10)).toNat]) := by
  refine ⟨⟨_, _, W.fn _ _ _ (by rfl)⟩, fun A h m t hA K => ?_⟩
  refine Rn.callDef (k := 5) (n := 26) (binds := [("mode", .int m t)]) hA ((W.fn _ _ _ (by rfl)).keeps K) (W.lim.keeps K) (fun _ _ _ _ _ _ _ _ _ => BindsTo.of_eq rfl) ?_
    (hloc := by intro x hx; simp only [List.mem_cons, List.not_mem_nil, or_false] at hx; subst hx; rfl)
  intro qual cdv L h₁ S₁ hA'
  have K₁ := K.trans S₁.kp
  refine Rn.cons (Rn.ret ?_)
  walk_at "evs"
  refine ⟨K₁, (ifmt (hA'.le (by decide)) W K₁).mono ?_⟩
  rintro _ h₂ ⟨⟨t', rfl⟩, k₂⟩
  refine Pv.thenI (Pv.globI W (K₁.trans k₂) (by rfl)) fun t₂ => ?_
  refine Pv.val Pv.eqI ?_
  refine ⟨⟨decide (m / 4096 % 16 = 10), ?_, rfl⟩, S₁.kp.trans k₂⟩
  show Value.bool (m / 4096 % 16 * 4096 == 40960) = Value.bool _
  refine congrArg Value.bool ?_
  rw [Bool.eq_iff_iff]
  simp only [beq_iff_eq, decide_eq_true_eq]
  omega
theorem keyF_sock (W : Wd b) : KeyF prog w b 145 0 (fun m => [(decide (m / 4096 % 16 = 12)).toNat]) := by
  refine ⟨⟨_, _, W.fn _ _ _ (by rfl)⟩, fun A h m t hA K => ?_⟩
  refine Rn.callDef (k := 5) (n := 27) (binds := [("mode", .int m t)]) hA ((W.fn _ _ _ (by rfl)).keeps K) (W.lim.keeps K) (fun _ _ _ _ _ _ _ _ _ => BindsTo.of_eq rfl) ?_
    (hloc := by intro x hx; simp only [List.mem_cons, List.not_mem_nil, or_false] at hx; subst hx; rfl)
  intro qual cdv L h₁ S₁ hA'
  have K₁ := K.trans S₁.kp
  refine Rn.cons (Rn.ret ?_)
  walk_at "evs"
  refine ⟨K₁, (ifmt (hA'.le (by decide)) W K₁).mono ?_⟩
  rintro _ h₂ ⟨⟨t', rfl⟩, k₂⟩
  refine Pv.thenI (Pv.globI W (K₁.trans k₂) (by rfl)) fun t₂ => ?_
  refine Pv.val Pv.eqI ?_
  refine ⟨⟨decide (m / 4096 % 16 = 12), ?_, rfl⟩, S₁.kp.trans k₂⟩
  show Value.bool (m / 4096 % 16 * 4096 == 49152) = Value.bool _
  refine congrArg Value.bool ?_
  rw [Bool.eq_iff_iff]
  simp only [beq_iff_eq, decide_eq_true_eq]
  omega
end
end
section
set_option maxRecDepth 100000
set_option maxHeartbeats 1000000
set_option autoImplicit false
set_option linter.unusedVariables false
def ents : List (Addr × List (Addr × Int × Str)) := [(153, [(146, 40960, "l"), (147, 49152, "s"), (148, 32768, "-"), (149, 24576, "b"), (150, 16384, "d"), (151, 8192, "c"), (152, 4096, "p")]), (155, [(154, 256, "r")]), (157, [(156, 128, "w")]), (161, [(158, 2112, "s"), (159, 2048, "S"), (160, 64, "x")]), (163, [(162, 32, "r")]), (165, [(164, 16, "w")]), (169, [(166, 1032, "s"), (167, 1024, "S"), (168, 8, "x")]), (171, [(170, 4, "r")]), (173, [(172, 2, "w")]), (177, [(174, 513, "t"), (175, 512, "T"), (176, 1, "x")])]
/-- the question asked of an entry of the k-th table -/
def cnd (m : Int) (k : Nat) (bit : Int) : Bool := if k = 0 then m / 4096 % 16 * 4096 == bit else Builtin.bitAnd m bit == bit
def pickE (m : Int) (k : Nat) (es : List (Addr × Int × Str)) : Str := match es.find? (fun e => cnd m k e.2.1) with | some e => e.2.2 | none => if k = 0 then "?" else "-"
def fmTxt (m : Int) : List Str := ents.zipIdx.map fun e => pickE m e.2 e.1.2
/-- the values are these texts -/
def Strs (cs : List Str) (vs : List Value) : Prop := StrsAre vs cs
theorem Strs.snoc {cs : List Str} {vs : List Value} {c : Str} {t : Tok} (H : StrsAre vs cs) : StrsAre (vs ++ [.str c t]) (cs ++ [c]) := by
  induction H with
  | nil => exact .cons _ _ .nil
  | cons y t h ih => exact .cons _ _ ih
theorem Strs.len {cs : List Str} {vs : List Value} (H : StrsAre vs cs) : vs.length = cs.length := by
  induction H with
  | nil => rfl
  | cons y t h ih => simp [ih]
/-- what the tables say -/
structure Ents (b : Heap) : Prop where
  top : Tup b 178 (ents.map fun e => .ref e.1)
  tab : ∀ e ∈ ents, Tup b e.1 (e.2.map fun x => .ref x.1)
  pair : ∀ e ∈ ents, ∀ x ∈ e.2, ∃ t u, Tup b x.1 [.int x.2.1 t, .str x.2.2 u]
theorem Wd.ents {b : Heap} (W : Wd b) : Ents b := by
  refine ⟨by have := W.tt 178 (Mine.ents.map (·.1)) (by decide); rwa [List.map_map] at this, ?_, ?_⟩
  · have h : ∀ e ∈ Mine.ents, (e.1, e.2.map (·.1)) ∈ tTab := by decide
    intro e he
    have := W.tt _ _ (h e he)
    rwa [List.map_map] at this
  · have h : ∀ e ∈ Mine.ents, ∀ x ∈ e.2, x ∈ pTab := by decide +kernel
    intro e he x hx
    exact W.pt x.1 x.2.1 x.2.2 (h e he x hx)
abbrev envF (qual : Str) (cdv : Value) (L : Addr) : Env := envX qual (sA 41) L 185 cdv []
def stF : Stmt := ((bA 41)[1]?).getD (.Break default)
def forB (s : Stmt) : List Stmt := match s with | .For _ _ b _ _ => b | _ => []
def inF : Stmt := (forB stF)[0]?.getD (.Break default)
section
variable {prog : Program} {w : World} {A : Around} {h h₁ b : Heap} {qual : Str} {cdv : Value} {L : Addr}
theorem inner {k : Nat} {a Pm : Addr} {es : List (Addr × Int × Str)} {m : Int} {t ti : Tok} {vs : List Value} {cs : List Str} (hA : Ok 4 A) (W : Wd b) (K : Kp b h) (he : (a, es) ∈ ents) (S₁ : St h (fun _ => False) L h₁ [("mode", .int m t), ("perm", .ref Pm), ("index", .int k ti), ("table", .ref a)])
    (hP : h.get? Pm = none) (H : Lst h₁ Pm vs) (hc : StrsAre vs cs) (hl : vs.length < 100) :
    Rn prog w A h₁ (exec inF (envF qual cdv L)) (fun f h' => f = .next ∧ St h (fun _ => False) L h' [("mode", .int m t), ("perm", .ref Pm)] ∧ (∀ c o, c ≠ Pm → c ≠ L → h₁.get? c = some o → h'.get? c = some o) ∧ ∃ vs', Lst h' Pm vs' ∧ StrsAre vs' (cs ++ [pickE m k es])) := by
  have K₁ := K.trans S₁.kp
  have Ew := W.ents
  have hTa := (Ew.tab _ he)
  have hPL : Pm ≠ L := fun q => by
    obtain ⟨mm, hm, _⟩ := S₁.loc
    obtain ⟨o, es', ep, ho, hd, _⟩ := hm
    obtain ⟨n, e⟩ := H
    rw [q, ho] at e; cases e; cases hd
  refine Rn.forS ?_
  walk_at "evs"
  refine Rn.iterTup (hTa.keeps K₁) fun I h₂ hI hit k₂ => ?_
  have S₂ := S₁.keeps k₂
  obtain ⟨hI0, hIL⟩ := S₁.fresh hI (fun _ q => q.elim)
  have hIP : Pm ≠ I := fun q => by subst q; obtain ⟨n, e⟩ := H; rw [hI] at e; cases e
  have bI : b.get? I = none := by
    cases e : b.get? I with
    | none => rfl
    | some o => rw [K _ _ e] at hI0; cases hI0
  refine Rn.forLoopT (fun r h' => ∃ j, j + r = es.length ∧ St h (fun _ => False) L h' [("mode", .int m t), ("perm", .ref Pm), ("index", .int k ti)] ∧ IsTupIter h' I a j ∧ Lst h' Pm vs ∧ (es.take j).find? (fun e => cnd m k e.2.1) = none ∧ (∀ c o, c ≠ Pm → c ≠ L → h₁.get? c = some o → h'.get? c = some o))
    ?_ es.length ⟨0, by omega, S₂.sub (by walk_at "subs"), hit, H.keeps k₂, rfl, fun c o _ _ e => k₂ c o e⟩
  rintro r h₃ ⟨j, hj, S₃, hit₃, H₃, hno, hk₃⟩
  have oldI : ∀ c o, h₁.get? c = some o → c ≠ I := fun c o e q => by subst q; rw [hI] at e; cases e
  have K₃ := K.trans S₃.kp
  have hTa₃ := hTa.keeps K₃
  cases r with
  | zero =>
    have hjl : j = es.length := by omega
    subst hjl
    refine Rn.endTup hA.1 hit₃ hTa₃ (by simp) fun h₄ x₄ => ?_
    have S₄ := S₃.other x₄ hIL (.inr hI0)
    have H₄ := H₃.ext x₄ hIP
    rw [List.take_length] at hno
    have hpe : pickE m k es = (if k = 0 then ("?" : Str) else ("-" : Str)) := by simp only [pickE, hno]
    refine Rn.opq fun PB hB => ?_
    refine Rn.cons (Rn.ifS ?_)
    walk_at "evs"
    refine Pv.val Pv.eqI ?_
    walk_at "evs"
    by_cases hk : k = 0
    · rw [if_pos (by subst hk; rfl)]
      rw [if_pos hk] at hpe
      refine Rn.cons (Rn.exprS (Rn.method PySem.F.plainAttrs_list PySem.F.slot_list_append PySem.F.type_list_append ?_))
      refine Pv.val (Pv.nameS S₄ (by rfl)) ⟨fun s e => H₄.meth s e, Rn.cwM1 ?_⟩
      refine Pv.thenS Pv.strC fun u => ?_
      refine Rn.appendL H₄ (by omega) fun h₅ H₅ s₅ => ⟨fun a e => (nomatch e), Rn.nil (Rn.nil <| hB _ _ ⟨rfl, (S₄.other s₅.extBut hPL.symm (.inr hP)).sub (by walk_at "subs"), fun c o h1 h2 e => s₅.extBut c o h1 (x₄ c o (oldI c o e) (hk₃ c o h1 h2 e)), _, H₅, ?_⟩)⟩
      rw [hpe]; exact Strs.snoc hc
    · rw [if_neg (by simp; omega)]
      rw [if_neg hk] at hpe
      refine Rn.cons (Rn.exprS (Rn.method PySem.F.plainAttrs_list PySem.F.slot_list_append PySem.F.type_list_append ?_))
      refine Pv.val (Pv.nameS S₄ (by rfl)) ⟨fun s e => H₄.meth s e, Rn.cwM1 ?_⟩
      refine Pv.thenS Pv.strC fun u => ?_
      refine Rn.appendL H₄ (by omega) fun h₅ H₅ s₅ => ⟨fun a e => (nomatch e), Rn.nil (Rn.nil <| hB _ _ ⟨rfl, (S₄.other s₅.extBut hPL.symm (.inr hP)).sub (by walk_at "subs"), fun c o h1 h2 e => s₅.extBut c o h1 (x₄ c o (oldI c o e) (hk₃ c o h1 h2 e)), _, H₅, ?_⟩)⟩
      rw [hpe]; exact Strs.snoc hc
  | succ r =>
    have hjl : j < es.length := by omega
    have hx : (es.map fun x => Value.ref x.1)[j]? = some (.ref (es[j]).1) := by simp [hjl]
    refine Rn.nextTup hit₃ hTa₃ hx fun h₄ hit₄ s₄ => ?_
    have S₄ := S₃.other s₄.extBut hIL (.inr hI0)
    have H₄ := H₃.ext s₄.extBut hIP
    have K₄ := K.trans S₄.kp
    refine Rn.goTupIter hit₄ ?_
    obtain ⟨tb, tc, hTp⟩ := Ew.pair _ he es[j] (List.getElem_mem hjl)
    refine Rn.tup2 hA.1 (hTp.keeps K₄) fun h₅ k₅ => ?_
    refine Rn.storeS (S₄.keeps k₅) fun h₆ S₆ s₆ => Rn.storeS S₆ fun h₇ S₇ s₇ => ?_
    have H₇ := ((H₄.keeps k₅).ext s₆.extBut hPL).ext s₇.extBut hPL
    have hit₇ : IsTupIter h₇ I a (j + 1) := by
      obtain ⟨o, e, r⟩ := hit₄
      exact ⟨o, s₇.extBut _ _ hIL.symm (s₆.extBut _ _ hIL.symm (k₅ _ _ e)), r⟩
    have K₇ := K.trans S₇.kp
    have hk₇ : ∀ c o, c ≠ Pm → c ≠ L → h₁.get? c = some o → h₇.get? c = some o := fun c o h1 h2 e => s₇.extBut c o h2 (s₆.extBut c o h2 (k₅ c o (s₄.extBut c o (oldI c o e) (hk₃ c o h1 h2 e))))
    have nxt : cnd m k es[j].2.1 = false → (es.take (j + 1)).find? (fun e => cnd m k e.2.1) = none := fun hf => by
      rw [← List.take_append_getElem hjl, List.find?_append, hno]
      simp [hf]
    have got : cnd m k es[j].2.1 = true → pickE m k es = es[j].2.2 := fun ht => by
      have hf : es.find? (fun e => cnd m k e.2.1) = some es[j] := by
        have e0 : es.find? (fun e => cnd m k e.2.1) = (es.take j ++ es.drop j).find? (fun e => cnd m k e.2.1) := by rw [List.take_append_drop]
        rw [e0, List.find?_append, hno, List.drop_eq_getElem_cons hjl]
        show Option.or none (List.find? _ (es[j] :: _)) = _
        rw [List.find?_cons_of_pos (by exact ht)]
        rfl
      unfold pickE; rw [hf]
    generalize hb : es[j].2.1 = bit at S₆ S₇ nxt got
    generalize hch : es[j].2.2 = ch at S₇ got
    refine Rn.opq fun PB hB => ?_
    refine Rn.cons (Rn.ifS ?_)
    walk_at "evs"
    refine Pv.val Pv.eqI ?_
    walk_at "evs"
    by_cases hk : k = 0
    · rw [if_pos (by subst hk; rfl)]
      have hcnd : cnd m k bit = (m / 4096 % 16 * 4096 == bit) := by unfold cnd; rw [if_pos hk]
      refine Rn.cons (Rn.ifS ?_)
      walk_at "evs"
      refine ⟨K₇, (ifmt (hA.le (by decide)) W K₇).mono ?_⟩
      rintro _ h₈ ⟨⟨t8, rfl⟩, k₈⟩
      have S₈ := S₇.keeps k₈
      have H₈ := H₇.keeps k₈
      walk_at "evs"
      refine Pv.val Pv.eqI ?_
      walk_at "evs"
      by_cases q : (m / 4096 % 16 * 4096 == bit) = true
      · rw [if_pos q]
        refine Rn.cons (Rn.exprS (Rn.method PySem.F.plainAttrs_list PySem.F.slot_list_append PySem.F.type_list_append ?_))
        refine Pv.val (Pv.nameS S₈ (by rfl)) ⟨fun s e => H₈.meth s e, Rn.cwM1 ?_⟩
        walk_at "evs"
        refine Rn.appendL H₈ (by omega) fun h₉ H₉ s₉ => ⟨fun a e => (nomatch e), Rn.cons (Rn.brk <| hB _ _ ⟨rfl, (S₈.other s₉.extBut hPL.symm (.inr hP)).sub (by walk_at "subs"), fun c o h1 h2 e => s₉.extBut c o h1 (k₈ c o (hk₇ c o h1 h2 e)), _, H₉, ?_⟩)⟩
        rw [got (by rw [hcnd]; exact q)]; exact Strs.snoc hc
      · rw [if_neg q]
        refine Rn.nil (Rn.nil (Rn.nil <| hB _ _ ⟨r, Nat.lt_succ_self _, j + 1, by omega, S₈.sub (by walk_at "subs"), let ⟨o, e, rr⟩ := hit₇; ⟨o, k₈ _ _ e, rr⟩, H₈, nxt (by rw [hcnd]; simpa using q), fun c o h1 h2 e => k₈ c o (hk₇ c o h1 h2 e)⟩))
    · rw [if_neg (by simp; omega)]
      have hcnd : cnd m k bit = (Builtin.bitAnd m bit == bit) := by unfold cnd; rw [if_neg hk]
      refine Rn.cons (Rn.ifS ?_)
      walk_at "evs"
      refine Pv.thenI Pv.andI fun t8 => ?_
      walk_at "evs"
      refine Pv.val Pv.eqI ?_
      walk_at "evs"
      by_cases q : (Builtin.bitAnd m bit == bit) = true
      · rw [if_pos q]
        refine Rn.cons (Rn.exprS (Rn.method PySem.F.plainAttrs_list PySem.F.slot_list_append PySem.F.type_list_append ?_))
        refine Pv.val (Pv.nameS S₇ (by rfl)) ⟨fun s e => H₇.meth s e, Rn.cwM1 ?_⟩
        walk_at "evs"
        refine Rn.appendL H₇ (by omega) fun h₉ H₉ s₉ => ⟨fun a e => (nomatch e), Rn.cons (Rn.brk <| hB _ _ ⟨rfl, (S₇.other s₉.extBut hPL.symm (.inr hP)).sub (by walk_at "subs"), fun c o h1 h2 e => s₉.extBut c o h1 (hk₇ c o h1 h2 e), _, H₉, ?_⟩)⟩
        rw [got (by rw [hcnd]; exact q)]; exact Strs.snoc hc
      · rw [if_neg q]
        refine Rn.nil (Rn.nil (Rn.nil <| hB _ _ ⟨r, Nat.lt_succ_self _, j + 1, by omega, S₇.sub (by walk_at "subs"), hit₇, H₇, nxt (by rw [hcnd]; simpa using q), hk₇⟩))
theorem Rn.joinS {D : Addr} {vs : List Value} {cs : List Str} {t : Tok} {P : Value → Heap → Prop} (H : Lst h D vs) (hc : StrsAre vs cs) (hw : (cs.map (·.length)).sum + cs.length ≤ 1048576) (k : ∀ t', P (.str (Txt.join "" cs) t') h) : Rn prog w A h (call (.builtin "str.join") [.str "" t, .ref D]) P :=
  Rn.of fun s Q E es kk => by
    subst es
    exact join_listW H.isList (by simpa using hc) (by decide) hw fun t' tk => kk _ _ tk (k t')
theorem joined (cs : List Str) : (Txt.join (Str.ofString "") cs).cps.toList = cs.flatMap (·.cps.toList) := by
  rw [eq_of_beq (join_plain_closes (Str.ofString "") cs)]
  induction cs with
  | nil => rfl
  | cons c cs ih =>
    cases cs with
    | nil => simp [Str.join]
    | cons d ds =>
      show ((c ++ Str.ofString "") ++ Str.join (Str.ofString "") (d :: ds)).cps.toList = _
      rw [Str.cps_append, Str.cps_append, Array.toList_append, Array.toList_append, ih]
      have e : (Str.ofString "").cps.toList = [] := by decide
      rw [e]
      simp
theorem pick_len (m : Int) (k : Nat) (es : List (Addr × Int × Str)) (h : ∀ e ∈ es, e.2.2.length ≤ 1) : (pickE m k es).length ≤ 1 := by
  unfold pickE
  split
  · rename_i e he
    exact h e (List.mem_of_find?_eq_some he)
  · split <;> decide
theorem fm_sum (m : Int) : ((fmTxt m).map (·.length)).sum + (fmTxt m).length ≤ 1048576 := by
  have hl : (fmTxt m).length = 10 := by unfold fmTxt; rw [List.length_map, List.length_zipIdx]; rfl
  have hs : ∀ l : List Str, (∀ c ∈ l, c.length ≤ 1) → (l.map (·.length)).sum ≤ l.length := by
    intro l
    induction l with
    | nil => intro _; exact Nat.le_refl _
    | cons c l ih =>
      intro h
      have h1 := h c (.head _)
      have h2 := ih fun c hc => h c (.tail _ hc)
      simp only [List.map_cons, List.sum_cons, List.length_cons]
      omega
  have := hs (fmTxt m) (by
    intro c hc
    unfold fmTxt at hc
    obtain ⟨e, he, rfl⟩ := List.mem_map.mp hc
    have hmem : e.1 ∈ ents := by
      obtain ⟨x, i⟩ := e
      exact (List.mem_zipIdx he).2.2 ▸ List.getElem_mem _
    have hall : ∀ x ∈ ents, ∀ y ∈ x.2, y.2.2.length ≤ 1 := by decide +kernel
    exact pick_len m e.2 e.1.2 (hall e.1 hmem))
  omega
theorem keyF_text (W : Wd b) : KeyF prog w b 185 2 (fun m => (fmTxt m).flatMap (·.cps.toList)) := by
  refine ⟨⟨_, _, W.fn _ _ _ (by rfl)⟩, fun A h m t hA K => ?_⟩
  refine Rn.callDef (k := 5) (n := 41) (binds := [("mode", .int m t)]) hA ((W.fn _ _ _ (by rfl)).keeps K) (W.lim.keeps K) (fun _ _ _ _ _ _ _ _ _ => BindsTo.of_eq rfl) ?_
    (hloc := by intro x hx; simp only [List.mem_cons, List.not_mem_nil, or_false] at hx; subst hx; rfl)
  intro qual cdv L h₁ S₁ hA'
  have Ew := W.ents
  -- perm = []
  refine Rn.seq (I := fun h' => ∃ Pm, h.get? Pm = none ∧ St h (fun _ => False) L h' [("mode", .int m t), ("perm", .ref Pm)] ∧ Lst h' Pm []) (Rn.opq fun PQ hPQ => Rn.assignName ?_) ?_
  · refine Rn.listE (Rn.argsNil ⟨by simp, fun Pm h₂ hPm HL k₂ => ?_⟩)
    have S₂ := S₁.keeps k₂
    obtain ⟨hP0, hPL⟩ := S₁.fresh hPm (fun _ q => q.elim)
    exact Rn.storeS S₂ fun h₃ S₃ s₃ => hPQ _ _ ⟨rfl, Pm, hP0, S₃.sub (by walk_at "subs"), HL.ext s₃.extBut hPL.symm⟩
  rintro h₂ ⟨Pm, hP, S₂, H₂⟩
  have K₂ := K.trans S₂.kp
  have lenE : ents.length = 10 := rfl
  refine Rn.seq (I := fun h' => ∃ vs', St h (fun _ => False) L h' [("mode", .int m t), ("perm", .ref Pm)] ∧ Lst h' Pm vs' ∧ StrsAre vs' (fmTxt m)) (Rn.forS ?_) ?_
  · walk_at "evs"
    refine Rn.enumT (Ew.top.keeps K₂) fun e it h₃ he hit hne hE hT k₃ => ?_
    refine Pv.val (Pv.iterEnum hE) ?_
    obtain ⟨he0, heL⟩ := S₂.fresh he (fun _ q => q.elim)
    obtain ⟨hi0, hiL⟩ := S₂.fresh hit (fun _ q => q.elim)
    have h178 : ∀ c, h.get? c = none → (178 : Addr) ≠ c := fun c hc q => by
      obtain ⟨o, ho, _⟩ := Ew.top
      rw [← q] at hc; rw [K _ _ ho] at hc; cases hc
    have ePm : Pm ≠ e := fun q => by subst q; obtain ⟨n, z⟩ := H₂; rw [he] at z; cases z
    have iPm : Pm ≠ it := fun q => by subst q; obtain ⟨n, z⟩ := H₂; rw [hit] at z; cases z
    refine Rn.forLoopT (fun r h' => ∃ (k : Nat) (vs' : List Value) (old : Value), k + r = 10 ∧ St h (fun _ => False) L h' [("mode", .int m t), ("perm", .ref Pm)] ∧ IsEnum h' e it k old ∧ IsTupIter h' it 178 k ∧ Lst h' Pm vs' ∧ StrsAre vs' ((fmTxt m).take k))
      ?_ 10 ⟨0, [], .none, rfl, (S₂.keeps k₃).sub (by walk_at "subs"), hE, hT, H₂.keeps k₃, .nil⟩
    rintro r h₄ ⟨k, vs', old, hk, S₄, hE₄, hT₄, H₄, hc₄⟩
    have K₄ := K.trans S₄.kp
    have flen : (fmTxt m).length = 10 := by unfold fmTxt; rw [List.length_map, List.length_zipIdx]; rfl
    have hvl : vs'.length = k := by rw [Strs.len hc₄, List.length_take, flen]; omega
    cases r with
    | zero =>
      have hk10 : k = 10 := by omega
      subst hk10
      refine Rn.enumEnd hA'.1 hE₄ hT₄ (Ew.top.keeps K₄) (h178 it hi0) (by simp [lenE]) fun h₅ x₅ => Rn.nil ⟨rfl, vs', S₄.other x₅ hiL (.inr hi0), H₄.ext x₅ iPm, ?_⟩
      rwa [List.take_of_length_le (by omega)] at hc₄
    | succ r =>
      have hkl : k < ents.length := by rw [lenE]; omega
      have hx : (ents.map fun e => Value.ref e.1)[k]? = some (.ref (ents[k]).1) := by simp [hkl]
      refine Rn.enumNext hA'.1 hE₄ hT₄ (Ew.top.keeps K₄) hne (h178 e he0) (h178 it hi0) hx fun T h₅ ti hT0 hO hT₅ hTp hTe x₅ => ?_
      refine Rn.enumGo hO fun h₆ hE₆ s₆ => ?_
      have keep6 : ∀ c o, c ≠ e → c ≠ it → h₄.get? c = some o → h₆.get? c = some o := fun c o h1 h2 z => s₆.extBut c o h1 (x₅ c o h1 h2 z)
      have S₆ : St h (fun _ => False) L h₆ [("mode", .int m t), ("perm", .ref Pm)] := by
        refine ⟨?_, fun c o hX z => keep6 c o (fun q => by rw [q, he0] at z; cases z) (fun q => by rw [q, hi0] at z; cases z) (S₄.ext c o hX z), S₄.new⟩
        obtain ⟨mm, ⟨o, es, ep, ho, r'⟩, r⟩ := S₄.loc
        exact ⟨mm, ⟨o, es, ep, keep6 L o heL hiL ho, r'⟩, r⟩
      have H₆ : Lst h₆ Pm vs' := let ⟨n, z⟩ := H₄; ⟨n, keep6 _ _ ePm iPm z⟩
      have hTp₆ : Tup h₆ T [.int k ti, .ref (ents[k]).1] := let ⟨o, z, r⟩ := hTp; ⟨o, s₆.extBut _ _ hTe z, r⟩
      have hT₆ : IsTupIter h₆ it 178 (k + 1) := let ⟨o, z, r⟩ := hT₅; ⟨o, s₆.extBut _ _ hne.symm z, r⟩
      refine Rn.tup2 hA'.1 hTp₆ fun h₇ k₇ => ?_
      refine Rn.storeS (S₆.keeps k₇) fun h₈ S₈ s₈ => Rn.storeS S₈ fun h₉ S₉ s₉ => ?_
      have hPL : Pm ≠ L := fun q => by
        obtain ⟨mm, ⟨o, es, ep, ho, hd, _⟩, _⟩ := S₄.loc
        obtain ⟨n, z⟩ := H₄
        rw [q, ho] at z; cases z; cases hd
      have H₉ := ((H₆.keeps k₇).ext s₈.extBut hPL).ext s₉.extBut hPL
      refine Rn.cons ((inner (es := (ents[k]).2) (hA'.le (by decide)) W K (List.getElem_mem hkl) (S₉.sub (by walk_at "subs")) hP H₉ hc₄ (by omega)).mono ?_)
      rintro f h₁₀ ⟨rfl, S₁₀, hk₁₀, vs₁₀, H₁₀, hc₁₀⟩
      refine Rn.nil ⟨r, Nat.lt_succ_self _, k + 1, vs₁₀, _, by omega, S₁₀, hk₁₀ _ _ ePm.symm heL.symm (s₉.extBut _ _ heL.symm (s₈.extBut _ _ heL.symm (k₇ _ _ hE₆))), ?_, H₁₀, ?_⟩
      · obtain ⟨o, z, rr⟩ := hT₆
        exact ⟨o, hk₁₀ _ _ iPm.symm hiL.symm (s₉.extBut _ _ hiL.symm (s₈.extBut _ _ hiL.symm (k₇ _ _ z))), rr⟩
      · have hkf : k < (fmTxt m).length := by omega
        have hg : (fmTxt m)[k] = pickE m k (ents[k]).2 := by
          have h1 : (fmTxt m)[k]? = some (pickE m k (ents[k]).2) := by
            unfold fmTxt
            rw [List.getElem?_map, List.getElem?_zipIdx, List.getElem?_eq_getElem hkl]
            show some (pickE m (0 + k) (ents[k]).2) = _
            rw [Nat.zero_add]
          rw [List.getElem?_eq_getElem hkf] at h1
          exact Option.some.inj h1
        rw [← List.take_append_getElem hkf, hg]
        exact hc₁₀
  rintro h₃ ⟨vs', S₃, H₃, hc₃⟩
  refine Rn.cons (Rn.ret (Rn.method PySem.F.plainAttrs_str PySem.F.slot_str_join PySem.F.type_str_join ?_))
  refine Pv.thenS Pv.strC fun tj => ?_
  refine ⟨fun s e => ⟨typeIs_str _ _ _, fun a q => (nomatch q)⟩, Rn.cwM1 ?_⟩
  walk_at "evs"
  refine Rn.joinS H₃ hc₃ (fm_sum m) fun t' => ?_
  exact ⟨⟨_, t', rfl, (joined _).symm⟩, S₃.kp⟩
end
end
section
set_option maxRecDepth 100000
set_option maxHeartbeats 1000000
set_option autoImplicit false
set_option linter.unusedVariables false
def kinds : List Nat := (Str.ofString "?pc?d?b?-?l?s???").cps.toList
/-- the three signs of a figure -/
def part (m f a : Int) (e : Str) : List Nat := [(Str.ofString "-r").cps.toList.getD (f / 4 % 2).toNat 0, (Str.ofString "-w").cps.toList.getD (f / 2 % 2).toNat 0, e.cps.toList.getD (f % 2 + m / a % 2 * 2).toNat 0]
def lawTxt (m : Int) : List Nat := kinds.getD (m / 4096 % 16).toNat 0 :: (part m (m / 64) 2048 "-xSs" ++ (part m (m / 8) 1024 "-xSs" ++ part m m 512 "-xTt"))
theorem two (x : Int) : x % 2 = 0 ∨ x % 2 = 1 := by omega
theorem pick1 (m : Int) (k : Nat) (hk : k ≠ 0) (a : Addr) (bit : Int) (c : Str) (q : Bool) (h : (Builtin.bitAnd m bit == bit) = q) : pickE m k [(a, bit, c)] = if q = true then c else Str.ofString "-" := by
  unfold pickE cnd
  simp only [hk, if_false, List.find?, h]
  cases q <;> rfl
theorem pick3 (m : Int) (k : Nat) (hk : k ≠ 0) (a1 a2 a3 : Addr) (b1 b2 b3 : Int) (c1 c2 c3 : Str) (q1 q2 q3 : Bool) (h1 : (Builtin.bitAnd m b1 == b1) = q1) (h2 : (Builtin.bitAnd m b2 == b2) = q2) (h3 : (Builtin.bitAnd m b3 == b3) = q3) :
    pickE m k [(a1, b1, c1), (a2, b2, c2), (a3, b3, c3)] = if q1 = true then c1 else if q2 = true then c2 else if q3 = true then c3 else Str.ofString "-" := by
  unfold pickE cnd
  simp only [hk, if_false, List.find?, h1, h2, h3]
  cases q1 <;> cases q2 <;> cases q3 <;> rfl
theorem pick0 (m : Int) (es : List (Addr × Int × Str)) (c : Int) (h : m / 4096 % 16 = c) : pickE m 0 es = match es.find? (fun e => c * 4096 == e.2.1) with | some e => e.2.2 | none => Str.ofString "?" := by
  unfold pickE cnd
  simp only [if_true, h] <;> (cases List.find? (fun e => c * 4096 == e.2.1) es <;> rfl)
theorem lawTxt_eq (m : Int) : lawTxt m = (fmTxt m).flatMap (·.cps.toList) := by
  have k0 : [kinds.getD (m / 4096 % 16).toNat 0] = (pickE m 0 [(146, 40960, "l"), (147, 49152, "s"), (148, 32768, "-"), (149, 24576, "b"), (150, 16384, "d"), (151, 8192, "c"), (152, 4096, "p")]).cps.toList := by
    obtain ⟨c, hc⟩ := Int.eq_ofNat_of_zero_le (Int.emod_nonneg (m / 4096) (show (16 : Int) ≠ 0 by decide))
    have h16 : c < 16 := by
      have := Int.emod_lt_of_pos (m / 4096) (show (0 : Int) < 16 by decide)
      rw [hc] at this
      exact Int.ofNat_lt.mp this
    rw [pick0 m _ _ hc, hc]
    clear hc
    revert c
    decide +kernel
  have one : ∀ (k : Nat) (a : Addr) (bit : Int) (c : Nat) (s : Str) (f : Int), k ≠ 0 → bit ≠ 0 → Builtin.bitAnd m bit = f % 2 * bit → s = ⟨#[45, c]⟩ → [s.cps.toList.getD (f % 2).toNat 0] = (pickE m k [(a, bit, ⟨#[c]⟩)]).cps.toList := by
    intro k a bit c s f hk hb h hs
    subst hs
    rcases two f with q | q
    · rw [pick1 m k hk a bit _ false (by rw [h, q]; simp; omega), q]; rfl
    · rw [pick1 m k hk a bit _ true (by rw [h, q]; simp), q]; rfl
  have three : ∀ (k : Nat) (a1 a2 a3 : Addr) (A X : Int) (cx cA cb : Nat) (s : Str) (fA fX : Int), k ≠ 0 → 0 < A → 0 < X → Builtin.bitAnd m (A + X) = fA % 2 * A + fX % 2 * X → Builtin.bitAnd m A = fA % 2 * A → Builtin.bitAnd m X = fX % 2 * X → s = ⟨#[45, cx, cA, cb]⟩ →
      [s.cps.toList.getD (fX % 2 + fA % 2 * 2).toNat 0] = (pickE m k [(a1, A + X, ⟨#[cb]⟩), (a2, A, ⟨#[cA]⟩), (a3, X, ⟨#[cx]⟩)]).cps.toList := by
    intro k a1 a2 a3 A X cx cA cb s fA fX hk hA hX h1 h2 h3 hs
    subst hs
    rcases two fA with q | q <;> rcases two fX with r | r
    · rw [pick3 m k hk a1 a2 a3 _ _ _ _ _ _ false false false (by rw [h1, q, r]; simp; omega) (by rw [h2, q]; simp; omega) (by rw [h3, r]; simp; omega), q, r]; rfl
    · rw [pick3 m k hk a1 a2 a3 _ _ _ _ _ _ false false true (by rw [h1, q, r]; simp; omega) (by rw [h2, q]; simp; omega) (by rw [h3, r]; simp), q, r]; rfl
    · rw [pick3 m k hk a1 a2 a3 _ _ _ _ _ _ false true false (by rw [h1, q, r]; simp; omega) (by rw [h2, q]; simp) (by rw [h3, r]; simp; omega), q, r]; rfl
    · rw [pick3 m k hk a1 a2 a3 _ _ _ _ _ _ true true true (by rw [h1, q, r]; simp) (by rw [h2, q]; simp) (by rw [h3, r]; simp), q, r]; rfl
  have e1 : m / 64 / 4 = m / 256 := by rw [Int.ediv_ediv_of_nonneg (by decide)]; rfl
  have e2 : m / 64 / 2 = m / 128 := by rw [Int.ediv_ediv_of_nonneg (by decide)]; rfl
  have e3 : m / 8 / 4 = m / 32 := by rw [Int.ediv_ediv_of_nonneg (by decide)]; rfl
  have e4 : m / 8 / 2 = m / 16 := by rw [Int.ediv_ediv_of_nonneg (by decide)]; rfl
  have r1 := one 1 154 256 114 "-r" (m / 256) (by decide) (by decide) (ba_256 m) (by decide)
  have w1 := one 2 156 128 119 "-w" (m / 128) (by decide) (by decide) (ba_128 m) (by decide)
  have x1 := three 3 158 159 160 2048 64 120 83 115 "-xSs" (m / 2048) (m / 64) (by decide) (by decide) (by decide) (ba_2112 m) (ba_2048 m) (ba_64 m) (by decide)
  have r2 := one 4 162 32 114 "-r" (m / 32) (by decide) (by decide) (ba_32 m) (by decide)
  have w2 := one 5 164 16 119 "-w" (m / 16) (by decide) (by decide) (ba_16 m) (by decide)
  have x2 := three 6 166 167 168 1024 8 120 83 115 "-xSs" (m / 1024) (m / 8) (by decide) (by decide) (by decide) (ba_1032 m) (ba_1024 m) (ba_8 m) (by decide)
  have r3 := one 7 170 4 114 "-r" (m / 4) (by decide) (by decide) (ba_4 m) (by decide)
  have w3 := one 8 172 2 119 "-w" (m / 2) (by decide) (by decide) (ba_2 m) (by decide)
  have x3 := three 9 174 175 176 512 1 120 84 116 "-xTt" (m / 512) m (by decide) (by decide) (by decide) (by rw [show (512 + 1 : Int) = 513 from rfl, ba_513 m, Int.mul_one]) (ba_512 m) (by rw [ba_1 m, Int.ediv_one]) (by decide)
  have split : (fmTxt m).flatMap (·.cps.toList) = (pickE m 0 [(146, 40960, "l"), (147, 49152, "s"), (148, 32768, "-"), (149, 24576, "b"), (150, 16384, "d"), (151, 8192, "c"), (152, 4096, "p")]).cps.toList ++
      ((pickE m 1 [(154, 256, ⟨#[114]⟩)]).cps.toList ++ ((pickE m 2 [(156, 128, ⟨#[119]⟩)]).cps.toList ++ ((pickE m 3 [(158, 2048 + 64, ⟨#[115]⟩), (159, 2048, ⟨#[83]⟩), (160, 64, ⟨#[120]⟩)]).cps.toList ++
      ((pickE m 4 [(162, 32, ⟨#[114]⟩)]).cps.toList ++ ((pickE m 5 [(164, 16, ⟨#[119]⟩)]).cps.toList ++ ((pickE m 6 [(166, 1024 + 8, ⟨#[115]⟩), (167, 1024, ⟨#[83]⟩), (168, 8, ⟨#[120]⟩)]).cps.toList ++
      ((pickE m 7 [(170, 4, ⟨#[114]⟩)]).cps.toList ++ ((pickE m 8 [(172, 2, ⟨#[119]⟩)]).cps.toList ++ ((pickE m 9 [(174, 512 + 1, ⟨#[116]⟩), (175, 512, ⟨#[84]⟩), (176, 1, ⟨#[120]⟩)]).cps.toList ++ []))))))))) := rfl
  rw [split, ← k0, ← r1, ← w1, ← x1, ← r2, ← w2, ← x2, ← r3, ← w3, ← x3]
  unfold lawTxt part
  rw [e1, e2, e3, e4]
  rfl
section
variable {prog : Program} {w : World} {A : Around} {h b : Heap} {env : Env}
theorem Pv.divP {a c : Int} {t u : Tok} (hc : 0 < c) (hp : Builtin.divisionGoesByPylong a c = false) : Pv prog w A h (binaryOp .FloorDiv (.int a t) (.int c u)) (IsI (a / c)) := by
  refine (Pv.divI (by omega) hp).mono ?_
  rintro v ⟨t, rfl⟩
  exact ⟨t, by rw [Int.fdiv_eq_ediv_of_nonneg _ (by omega)]⟩
theorem Pv.modP {a c : Int} {t u : Tok} (hc : 0 < c) : Pv prog w A h (binaryOp .Mod (.int a t) (.int c u)) (IsI (a % c)) := by
  refine (Pv.modI (by omega)).mono ?_
  rintro v ⟨t, rfl⟩
  exact ⟨t, by rw [Int.fmod_eq_emod_of_nonneg _ (by omega)]⟩
theorem Pv.itemStr {value slice : Expr} {x : Str} {t u : Tok} {i : Int} (h0 : 0 ≤ i) (h1 : i < x.cps.toList.length) (hl : x.cps.toList.length < 1000)
    (hs : subscripted slice false (.str x t) (.int i u) = operate [.str x t, .int i u] (getItem (.str x t) (.int i u)) := by with_unfolding_all rfl) :
    Pv prog w A h (subscriptTail value slice (.str x t) (.int i u)) (IsS ⟨#[x.cps.toList.getD i.toNat 0]⟩) := by
  refine Rn.of fun s Q E es kk => ?_
  subst es
  refine tail_any (typeIs_str s x t) F.slot_str_getitem.lookup (P.getItem_str (c := x.cps.toList.getD i.toNat 0) ?_ ?_ (kk _ _ _ ⟨rfl, _, rfl⟩)) hs
  · simp only [Bool.or_eq_false_iff, decide_eq_false_iff_not]
    omega
  · have hlen : x.length = x.cps.toList.length := by simp [Str.length]
    have hsi : seqIndex? i x.length = some i.toNat := by
      unfold seqIndex?
      rw [hlen]
      simp only [show ¬ i < 0 by omega, if_false]
      rw [if_pos (by simp only [Bool.and_eq_true, decide_eq_true_eq]; omega)]
    rw [hsi]
    show x.cps[i.toNat]? = _
    rw [← Array.getElem?_toList, List.getD_eq_getElem?_getD, List.getElem?_eq_getElem (by omega)]
    rfl
theorem Pv.addS {x y : Str} {t u : Tok} (h1 : x.length < 1000) (h2 : y.length < 1000) : Pv prog w A h (binaryOp .Add (.str x t) (.str y u)) (IsS (x ++ y)) :=
  Rn.of fun s Q E es kk => by subst es; exact PyProof.Rows.add_str (fun t' tk => kk _ _ tk ⟨rfl, t', rfl⟩) (by rw [sizeLine_eq]; omega)
theorem Pv.iaddS {x y : Str} {t u : Tok} (h1 : x.length < 1000) (h2 : y.length < 1000) : Pv prog w A h (inplaceOp .Add (.str x t) (.str y u)) (IsS (x ++ y)) :=
  Rn.of fun s Q E es kk => by subst es; exact PyProof.Rows.iadd_str (fun t' tk => kk _ _ tk ⟨rfl, t', rfl⟩) (by rw [sizeLine_eq]; omega)
theorem Tup.at {l : Addr} {vs : List Value} {h' : Heap} (H : Tup h l vs) (e : ∀ o, h.get? l = some o → h'.get? l = some o) : Tup h' l vs := let ⟨o, ho, r⟩ := H; ⟨o, e _ ho, r⟩
end
/-- the three figures of a mode -/
structure TT (m : Int) (T T1 T2 T3 : Addr) (h : Heap) : Prop where
  top : Tup h T [.ref T1, .ref T2, .ref T3]
  one : ∃ a b c, Tup h T1 [.int (m / 64) a, .int 2048 b, .str "-xSs" c]
  two : ∃ a b c, Tup h T2 [.int (m / 8) a, .int 1024 b, .str "-xSs" c]
  thr : ∃ a b c, Tup h T3 [.int m a, .int 512 b, .str "-xTt" c]
def figs (m : Int) : List (Int × Int × Str) := [(m / 64, 2048, "-xSs"), (m / 8, 1024, "-xSs"), (m, 512, "-xTt")]
theorem Tup.dat {h : Heap} {l : Addr} {vs : List Value} (H : Tup h l vs) : Dat h l := let ⟨o, e, _, n, hd⟩ := H; ⟨o, e, .inl ⟨_, n, hd⟩⟩
theorem TT.keep {m : Int} {T T1 T2 T3 : Addr} {h h' : Heap} (H : TT m T T1 T2 T3 h) (k : ∀ c o, c = T ∨ c = T1 ∨ c = T2 ∨ c = T3 → h.get? c = some o → h'.get? c = some o) : TT m T T1 T2 T3 h' :=
  ⟨H.top.at fun o e => k _ o (.inl rfl) e, let ⟨a, b, c, q⟩ := H.one; ⟨a, b, c, q.at fun o e => k _ o (.inr (.inl rfl)) e⟩, let ⟨a, b, c, q⟩ := H.two; ⟨a, b, c, q.at fun o e => k _ o (.inr (.inr (.inl rfl))) e⟩,
    let ⟨a, b, c, q⟩ := H.thr; ⟨a, b, c, q.at fun o e => k _ o (.inr (.inr (.inr rfl))) e⟩⟩
theorem TT.dat {m : Int} {T T1 T2 T3 : Addr} {h : Heap} (H : TT m T T1 T2 T3 h) : ∀ c, c = T ∨ c = T1 ∨ c = T2 ∨ c = T3 → Dat h c := by
  rintro c (rfl | rfl | rfl | rfl)
  · exact H.top.dat
  · obtain ⟨_, _, _, q⟩ := H.one; exact q.dat
  · obtain ⟨_, _, _, q⟩ := H.two; exact q.dat
  · obtain ⟨_, _, _, q⟩ := H.thr; exact q.dat
theorem TT.tup {m : Int} {T T1 T2 T3 : Addr} {h : Heap} (H : TT m T T1 T2 T3 h) (j : Nat) (hj : j < 3) : ∃ (Tj : Addr) (f a : Int) (e : Str), ([Value.ref T1, .ref T2, .ref T3])[j]? = some (.ref Tj) ∧ (figs m)[j]? = some (f, a, e) ∧ (a = 2048 ∨ a = 1024 ∨ a = 512) ∧ e.cps.toList.length = 4 ∧ ∃ x y z, Tup h Tj [.int f x, .int a y, .str e z] := by
  match j, hj with
  | 0, _ => exact ⟨T1, _, _, _, rfl, rfl, .inl rfl, by decide, H.one⟩
  | 1, _ => exact ⟨T2, _, _, _, rfl, rfl, .inr (.inl rfl), by decide, H.two⟩
  | 2, _ => exact ⟨T3, _, _, _, rfl, rfl, .inr (.inr rfl), by decide, H.thr⟩
section
variable {prog : Program} {w : World} {A : Around} {h b : Heap}
theorem St.ndat {X : Addr → Prop} {L c : Addr} {h₀ : Heap} {ls : List (Str × Value)} (S : St h₀ X L h ls) (D : Dat h c) : c ≠ L := by
  rintro rfl
  obtain ⟨m, hm, _⟩ := S.loc
  exact D.ns hm
theorem law_text {m : Int} {t : Tok} (hA : Ok 2 A) (W : Wd b) (K : Kp b h) : Rn prog w A h (call (.ref 192) [.int m t]) (fun v h' => (∃ x t', v = .str x t' ∧ x.cps.toList = lawTxt m) ∧ Kp h h') := by
  refine Rn.callDef (k := 1) (n := 43) (binds := [("mode", .int m t)]) hA ((W.fn _ _ _ (by rfl)).keeps K) (W.lim.keeps K) (fun _ _ _ _ _ _ _ _ _ => BindsTo.of_eq rfl) ?_
    (hloc := by intro x hx; simp only [List.mem_cons, List.not_mem_nil, or_false] at hx; subst hx; rfl)
  intro qual cdv L h₁ S₁ hA'
  refine Rn.opq fun P0 h0 => ?_
  -- text = ..
  refine Rn.seq (I := fun h' => ∃ tx, St h (fun _ => False) L h' [("mode", .int m t), ("text", .str ⟨#[kinds.getD (m / 4096 % 16).toNat 0]⟩ tx)]) (Rn.opq fun P hP => Rn.assignName ?_) ?_
  · refine Rn.subscript ?_
    refine Pv.thenS Pv.strC fun t1 => ?_
    walk_at "evs"
    refine Pv.thenI (Pv.divP (by decide) (PyProof.noPylong_of_log2 (by decide +kernel))) fun t2 => ?_
    walk_at "evs"
    refine Pv.thenI (Pv.modP (by decide)) fun t3 => ?_
    refine Pv.thenS (Pv.itemStr (by omega) (by rw [show (Str.ofString "?pc?d?b?-?l?s???").cps.toList.length = 16 by decide]; omega) (by decide)) fun t4 => ?_
    exact Rn.storeS S₁ fun h₂ S₂ s₂ => hP _ _ ⟨rfl, t4, S₂.sub (by walk_at "subs")⟩
  rintro h₂ ⟨tx, S₂⟩
  refine Rn.seq (I := fun h' => ∃ x tx, x.cps.toList = lawTxt m ∧ St h (fun _ => False) L h' [("text", .str x tx)]) (Rn.opq fun P hP => Rn.forS ?_) ?_
  · refine Rn.tupleE (Rn.argsCons (Rn.tupleE ?_))
    walk_at "evs"
    refine Pv.thenI (Pv.divP (by decide) (PyProof.noPylong_of_log2 (by decide +kernel))) fun u1 => ?_
    walk_at "evs"
    refine Pv.thenS Pv.strC fun u2 => ?_
    walk_at "evs"
    refine ⟨by simp, fun T1 h₃ hT1 hU1 k₃ _ => ?_⟩
    have S₃ := S₂.keeps k₃
    refine Rn.argsCons (Rn.tupleE ?_)
    walk_at "evs"
    refine Pv.thenI (Pv.divP (by decide) (PyProof.noPylong_of_log2 (by decide +kernel))) fun u3 => ?_
    walk_at "evs"
    refine Pv.thenS Pv.strC fun u4 => ?_
    walk_at "evs"
    refine ⟨by simp, fun T2 h₄ hT2 hU2 k₄ _ => ?_⟩
    have S₄ := S₃.keeps k₄
    refine Rn.argsCons (Rn.tupleE ?_)
    walk_at "evs"
    refine Pv.thenS Pv.strC fun u5 => ?_
    walk_at "evs"
    refine ⟨by simp, fun T3 h₅ hT3 hU3 k₅ _ => ?_⟩
    have S₅ := S₄.keeps k₅
    walk_at "evs"
    refine ⟨by simp, fun T h₆ hT hU k₆ _ => ?_⟩
    have S₆ := S₅.keeps k₆
    have tt : TT m T T1 T2 T3 h₆ := ⟨hU, ⟨_, _, _, ((hU1.keeps k₄).keeps k₅).keeps k₆⟩, ⟨_, _, _, (hU2.keeps k₅).keeps k₆⟩, ⟨_, _, _, hU3.keeps k₆⟩⟩
    refine Rn.iterTup hU fun I h₇ hI hit k₇ => ?_
    have S₇ := S₆.keeps k₇
    obtain ⟨hI0, hIL⟩ := S₆.fresh hI (fun _ q => q.elim)
    have nI : ∀ c, c = T ∨ c = T1 ∨ c = T2 ∨ c = T3 → c ≠ I := fun c hc q => by
      obtain ⟨o, e, _⟩ := tt.dat c hc
      rw [q, hI] at e; cases e
    refine Rn.forLoopT (fun r h' => ∃ (j : Nat) (x : Str) (tx : Tok), j + r = 3 ∧ St h (fun _ => False) L h' [("mode", .int m t), ("text", .str x tx)] ∧ IsTupIter h' I T j ∧ TT m T T1 T2 T3 h' ∧ x.cps.toList = kinds.getD (m / 4096 % 16).toNat 0 :: ((figs m).take j).flatMap fun f => part m f.1 f.2.1 f.2.2)
      ?_ 3 ⟨0, _, tx, rfl, S₇, hit, tt.keep fun c o _ e => k₇ c o e, rfl⟩
    rintro r h₈ ⟨j, x, tx, hj, S₈, hit₈, tt₈, hx⟩
    have xlen : x.cps.toList.length ≤ 1 + 3 * j := by
      rw [hx, List.length_cons, List.length_flatMap]
      have : ∀ l : List (Int × Int × Str), (l.map fun f => (part m f.1 f.2.1 f.2.2).length).sum = 3 * l.length := by
        intro l
        induction l with
        | nil => rfl
        | cons a l ih => rw [List.map_cons, List.sum_cons, ih]; show 3 + 3 * l.length = 3 * (l.length + 1); omega
      rw [this, List.length_take]
      omega
    have xl : x.length ≤ 10 := by
      have : x.length = x.cps.toList.length := by simp [Str.length]
      omega
    cases r with
    | zero =>
      have hj3 : j = 3 := by omega
      subst hj3
      refine Rn.endTup hA'.1 hit₈ tt₈.top rfl fun h₉ x₉ => Rn.nil (hP _ _ ⟨rfl, x, tx, ?_, (S₈.other x₉ hIL (.inr hI0)).sub (by walk_at "subs")⟩)
      rw [hx]
      show _ :: ((part m (m / 64) 2048 "-xSs") ++ ((part m (m / 8) 1024 "-xSs") ++ ((part m m 512 "-xTt") ++ []))) = _
      unfold lawTxt
      simp
    | succ r =>
      have hj3 : j < 3 := by omega
      obtain ⟨Tj, f, a, e, hTj, hfj, ha, hel, y1, y2, y3, hTup⟩ := tt₈.tup j hj3
      refine Rn.nextTup hit₈ tt₈.top hTj fun h₉ hit₉ s₉ => ?_
      have S₉ := S₈.other s₉.extBut hIL (.inr hI0)
      have tt₉ := tt₈.keep (h' := h₉) fun c o hc z => s₉.extBut c o (nI c hc) z
      have hTj' : Tj = T ∨ Tj = T1 ∨ Tj = T2 ∨ Tj = T3 := by
        match j, hj3, hTj with
        | 0, _, q => injection q with q; injection q with q; exact .inr (.inl q.symm)
        | 1, _, q => injection q with q; injection q with q; exact .inr (.inr (.inl q.symm))
        | 2, _, q => injection q with q; injection q with q; exact .inr (.inr (.inr q.symm))
      have hTup₉ : Tup h₉ Tj [.int f y1, .int a y2, .str e y3] := hTup.at fun o z => s₉.extBut _ o (nI _ hTj') z
      refine Rn.goTupIter hit₉ ?_
      refine Rn.tup3 hA'.1 hTup₉ fun h₁₀ k₁₀ => ?_
      refine Rn.storeS (S₉.keeps k₁₀) fun h₁₁ S₁₁ s₁₁ => Rn.storeS S₁₁ fun h₁₂ S₁₂ s₁₂ => Rn.storeS S₁₂ fun h₁₃ S₁₃ s₁₃ => ?_
      have nL : ∀ c, c = T ∨ c = T1 ∨ c = T2 ∨ c = T3 → c ≠ L := fun c hc => S₉.ndat (tt₉.dat c hc)
      have tt₁₃ := tt₉.keep (h' := h₁₃) fun c o hc z => s₁₃.extBut c o (nL c hc) (s₁₂.extBut c o (nL c hc) (s₁₁.extBut c o (nL c hc) (k₁₀ c o z)))
      have hit₁₃ : IsTupIter h₁₃ I T (j + 1) := by
        obtain ⟨o, z, rr⟩ := hit₉
        exact ⟨o, s₁₃.extBut _ _ hIL.symm (s₁₂.extBut _ _ hIL.symm (s₁₁.extBut _ _ hIL.symm (k₁₀ _ _ z))), rr⟩
      have ft : (figs m).take (j + 1) = (figs m).take j ++ [(f, a, e)] := by rw [List.take_add_one, hfj]; rfl
      have len2 : (Str.ofString "-r").cps.toList.length = 2 ∧ (Str.ofString "-w").cps.toList.length = 2 := by decide
      -- text += '-r'[..] + '-w'[..]
      refine Rn.opq fun PB hB => ?_
      refine Rn.seq (I := fun h' => ∃ x' tx', St h (fun _ => False) L h' [("mode", .int m t), ("text", .str x' tx'), ("figure", .int f y1), ("above", .int a y2), ("ends", .str e y3)] ∧ IsTupIter h' I T (j + 1) ∧ TT m T T1 T2 T3 h' ∧
        x'.cps.toList = x.cps.toList ++ [(Str.ofString "-r").cps.toList.getD (f / 4 % 2).toNat 0, (Str.ofString "-w").cps.toList.getD (f / 2 % 2).toNat 0] ∧ x'.length < 100) (Rn.opq fun P hP => Rn.augName ?_) ?_
      · refine Pv.val (Pv.loadS S₁₃ (by rfl)) ?_
        refine Rn.binOp (Rn.subscript (Pv.thenS Pv.strC fun z1 => ?_))
        walk_at "evs"
        refine Pv.thenI (Pv.divP (by decide) (PyProof.noPylong_of_log2 (by decide +kernel))) fun z2 => ?_
        walk_at "evs"
        refine Pv.thenI (Pv.modP (by decide)) fun z3 => ?_
        refine Pv.thenS (Pv.itemStr (by omega) (by rw [len2.1]; omega) (by decide)) fun z4 => ?_
        refine Rn.subscript (Pv.thenS Pv.strC fun z5 => ?_)
        walk_at "evs"
        refine Pv.thenI (Pv.divP (by decide) (PyProof.noPylong_of_log2 (by decide +kernel))) fun z6 => ?_
        walk_at "evs"
        refine Pv.thenI (Pv.modP (by decide)) fun z7 => ?_
        refine Pv.thenS (Pv.itemStr (by omega) (by rw [len2.2]; omega) (by decide)) fun z8 => ?_
        refine Pv.thenS (Pv.addS (by show 1 < 1000; decide) (by show 1 < 1000; decide)) fun z9 => ?_
        refine Pv.thenS (Pv.iaddS (by omega) (by rw [Str.length_append]; show 1 + 1 < 1000; decide)) fun z10 => ?_
        refine Rn.storeS S₁₃ fun h₁₄ S₁₄ s₁₄ => hP _ _ ⟨rfl, _, z10, S₁₄.sub (by walk_at "subs"), let ⟨o, z, rr⟩ := hit₁₃; ⟨o, s₁₄.extBut _ _ hIL.symm z, rr⟩, tt₁₃.keep fun c o hc z => s₁₄.extBut c o (nL c hc) z, ?_, ?_⟩
        · rw [Str.cps_append, Str.cps_append, Array.toList_append, Array.toList_append]; rfl
        · rw [Str.length_append, Str.length_append]; show x.length + (1 + 1) < 100; omega
      rintro h₁₄ ⟨x', tx', S₁₄, hit₁₄, tt₁₄, hx', hl'⟩
      have ia : (0 : Int) ≤ f % 2 + m / a % 2 * 2 ∧ f % 2 + m / a % 2 * 2 < 4 := by omega
      -- text += ends[..]
      refine Rn.cons (Rn.augName ?_)
      refine Pv.val (Pv.loadS S₁₄ (by rfl)) ?_
      refine Rn.subscript ?_
      walk_at "evs"
      refine Pv.thenI (Pv.modP (by decide)) fun z1 => ?_
      walk_at "evs"
      refine Pv.thenI (Pv.divP (by omega) (PyProof.noPylong_of_log2 (by rcases ha with q | q | q <;> (rw [q]; decide +kernel)))) fun z2 => ?_
      walk_at "evs"
      refine Pv.thenI (Pv.modP (by decide)) fun z3 => ?_
      walk_at "evs"
      refine Pv.thenI (Pv.mulI (.of_right (by decide))) fun z4 => ?_
      walk_at "evs"
      refine Pv.thenS (Pv.itemStr ia.1 (by rw [hel]; exact ia.2) (by rw [hel]; decide)) fun z5 => ?_
      refine Pv.thenS (Pv.iaddS (by omega) (by show 1 < 1000; decide)) fun z6 => ?_
      refine Rn.storeS S₁₄ fun h₁₅ S₁₅ s₁₅ => Rn.nil (hB _ _ ⟨r, Nat.lt_succ_self _, j + 1, _, z6, by omega, S₁₅.sub (by walk_at "subs"), let ⟨o, z, rr⟩ := hit₁₄; ⟨o, s₁₅.extBut _ _ hIL.symm z, rr⟩, tt₁₄.keep fun c o hc z => s₁₅.extBut c o (nL c hc) z, ?_⟩)
      rw [Str.cps_append, Array.toList_append, hx', hx, ft, List.flatMap_append]
      show _ = _ :: (_ ++ (part m f a e ++ []))
      unfold part
      simp
  rintro h₃ ⟨x, tx, hx, S₃⟩
  refine Rn.cons (Rn.ret ?_)
  walk_at "evs"
  exact h0 _ _ ⟨⟨x, tx, rfl, hx⟩, S₃.kp⟩
end
end
section
set_option maxRecDepth 100000
set_option maxHeartbeats 1000000
set_option autoImplicit false
set_option linter.unusedVariables false
def codes : List Nat := [4, 2, 6, 8, 1, 10, 12]
def κD (d : Nat) : Nat := if d < 7 then 0 else if d = 9 then 2 else 1
def kD (d : Nat) (m : Int) : List Nat := if d < 7 then [(decide (m / 4096 % 16 = (codes.getD d 0 : Nat))).toNat] else if d = 9 then lawTxt m else if d = 7 then [(m / 4096 % 16 * 4096).toNat] else [(m % 4096).toNat]
def fD : List Addr := [103, 110, 117, 124, 131, 138, 145, 96, 89, 185]
theorem kind_tab : ∀ c, c < 16 → ∀ d, d < 7 → (kinds.getD c 0 == (Str.ofString "dcb-pls").cps.toList.getD d 0) = decide (c = codes.getD d 0) := by decide
section
variable {prog : Program} {w : World} {A : Around} {h b : Heap}
theorem keyFD (W : Wd b) (d : Nat) (hd : d < 10) : KeyF prog w b (fD.getD d 0) (κD d) (kD d) := by
  match d, hd with
  | 0, _ => exact keyF_dir W
  | 1, _ => exact keyF_chr W
  | 2, _ => exact keyF_blk W
  | 3, _ => exact keyF_reg W
  | 4, _ => exact keyF_fifo W
  | 5, _ => exact keyF_lnk W
  | 6, _ => exact keyF_sock W
  | 7, _ => exact keyF_fmt W
  | 8, _ => exact keyF_mode W
  | 9, _ =>
    have e : kD 9 = fun m => (fmTxt m).flatMap (·.cps.toList) := by funext m; exact lawTxt_eq m
    rw [e]; exact keyF_text W
theorem Pv.eqS {x y : Str} {t u : Tok} : Pv prog w A h (compareOp .Eq (.str x t) (.str y u)) (· = .bool (x.cps.toList == y.cps.toList)) := Rn.of fun s Q E es kk => by subst es; exact P.eq_str (kk _ _ s.toks ⟨rfl, rfl⟩)
theorem law_key {m : Int} {d : Nat} {t u : Tok} (hA : Ok 3 A) (W : Wd b) (K : Kp b h) (hd : d < 10) : Rn prog w A h (call (.ref 199) [.int m t, .int d u]) (fun v h' => IsK (κD d) (kD d m) v ∧ Kp h h') := by
  refine Rn.callDef (k := 2) (n := 44) (binds := [("mode", .int m t), ("number", .int d u)]) hA ((W.fn _ _ _ (by rfl)).keeps K) (W.lim.keeps K) (fun _ _ _ _ _ _ _ _ _ => BindsTo.of_eq rfl) ?_
    (hloc := by intro x hx; simp only [List.mem_cons, List.not_mem_nil, or_false] at hx; rcases hx with rfl | rfl <;> rfl)
  intro qual cdv L h₁ S₁ hA'
  have K₁ := K.trans S₁.kp
  refine Rn.cons (Rn.ifS ?_)
  walk_at "evs"
  by_cases h7 : d < 7
  · rw [if_pos (by simp; omega)]
    refine Rn.cons (Rn.ret (Rn.compare (Rn.subscript (Pv.thenS Pv.strC fun t1 => ?_))))
    walk_at "evs"
    refine Pv.thenI (Pv.divP (by decide) (PyProof.noPylong_of_log2 (by decide +kernel))) fun t2 => ?_
    walk_at "evs"
    refine Pv.thenI (Pv.modP (by decide)) fun t3 => ?_
    refine Pv.thenS (Pv.itemStr (by omega) (by rw [show (Str.ofString "?pc?d?b?-?l?s???").cps.toList.length = 16 by decide]; omega) (by decide)) fun t4 => ?_
    refine Rn.subscript (Pv.thenS Pv.strC fun t5 => ?_)
    walk_at "evs"
    refine Pv.thenS (Pv.itemStr (by omega) (by rw [show (Str.ofString "dcb-pls").cps.toList.length = 7 by decide]; omega) (by decide)) fun t6 => ?_
    refine Pv.val Pv.eqS ?_
    have e1 : κD d = 0 := by unfold κD; rw [if_pos h7]
    have e2 : kD d m = [(decide (m / 4096 % 16 = (codes.getD d 0 : Nat))).toNat] := by unfold kD; rw [if_pos h7]
    rw [e1, e2]
    refine ⟨⟨decide (m / 4096 % 16 = (codes.getD d 0 : Nat)), ?_, rfl⟩, S₁.kp⟩
    show Value.bool ([kinds.getD (m / 4096 % 16).toNat 0] == [(Str.ofString "dcb-pls").cps.toList.getD ((d : Int)).toNat 0]) = Value.bool _
    refine congrArg Value.bool ?_
    have := kind_tab (m / 4096 % 16).toNat (by omega) d h7
    rw [Int.toNat_natCast]
    show (kinds.getD (m / 4096 % 16).toNat 0 == (Str.ofString "dcb-pls").cps.toList.getD d 0 && true) = _
    rw [Bool.and_true, this, decide_eq_decide]
    omega
  rw [if_neg (by simp; omega)]
  refine Rn.nil (Rn.cons (Rn.ifS ?_))
  walk_at "evs"
  refine Pv.val Pv.eqI ?_
  walk_at "evs"
  by_cases h9 : d = 9
  · subst h9
    rw [if_pos (by rfl)]
    refine Rn.cons (Rn.ret ?_)
    walk_at "evs"
    refine ⟨K₁, (law_text (hA'.le (by decide)) W K₁).mono ?_⟩
    rintro _ h₂ ⟨⟨x, t', rfl, hx⟩, k₂⟩
    exact ⟨⟨x, t', rfl, hx.symm⟩, S₁.kp.trans k₂⟩
  rw [if_neg (by simp; omega)]
  refine Rn.nil (Rn.cons (Rn.ret (Rn.ifExp ?_)))
  walk_at "evs"
  refine Pv.val Pv.eqI ?_
  walk_at "evs"
  by_cases h77 : d = 7
  · subst h77
    rw [if_pos (by rfl)]
    walk_at "evs"
    refine Pv.thenI (Pv.divP (by decide) (PyProof.noPylong_of_log2 (by decide +kernel))) fun t2 => ?_
    walk_at "evs"
    refine Pv.thenI (Pv.modP (by decide)) fun t3 => ?_
    walk_at "evs"
    refine Pv.thenI (Pv.mulI (.of_right (by decide))) fun t4 => ?_
    exact ⟨⟨(m / 4096 % 16 * 4096).toNat, t4, by show Value.int _ _ = _; rw [Int.toNat_of_nonneg (by omega)], rfl⟩, S₁.kp⟩
  · have h8 : d = 8 := by omega
    subst h8
    rw [if_neg (by decide)]
    walk_at "evs"
    refine Pv.thenI (Pv.modP (by decide)) fun t3 => ?_
    exact ⟨⟨(m % 4096).toNat, t3, by show Value.int _ _ = _; rw [Int.toNat_of_nonneg (by omega)], rfl⟩, S₁.kp⟩
end
end
section
set_option maxRecDepth 100000
set_option maxHeartbeats 1000000
set_option autoImplicit false
set_option linter.unusedVariables false
section
variable {prog : Program} {w : World} {A : Around} {h b : Heap} {env : Env}
theorem Rn.addL {l m : Addr} {vs us : List Value} {P : Value → Heap → Prop} (H : Lst h l vs) (H' : Lst h m us) (hz : vs.length + us.length < 1000) (k : ∀ D h', h.get? D = none → Lst h' D (vs ++ us) → Kp h h' → P (.ref D) h') : Rn prog w A h (binaryOp .Add (.ref l) (.ref m)) P := by
  obtain ⟨n, e⟩ := H
  obtain ⟨n', e'⟩ := H'
  refine Rn.of fun s Q E es kk => ?_
  subst es
  refine PySem.P.add_list e e' (kk _ _ s.toks (k _ _ (fresh_size _) ⟨0, ?_⟩ (Kp.push _ _))) (by simp [sizeLine_eq]; omega)
  rw [Heap.get?_push_size _ rfl]
  simp
theorem Rn.revListX {l : Addr} {vs : List Value} {P : Value → Heap → Prop} (H : Lst h l vs) (k : ∀ I h', h.get? I = none → h'.IsRevIter I l ((vs.length : Int) - 1) → Kp h h' → P (.ref I) h') : Rn prog w A h (call (.type "reversed") [.ref l]) P :=
  Rn.of fun s Q E es kk => by
    subst es
    refine call_reversed_list H.isList (kk _ _ _ (k _ _ (fresh_size _) ⟨_, Heap.get?_push_size _ rfl, rfl, ?_⟩ (Kp.push _ _)))
    rw [List.size_toArray]; rfl
end
theorem KpX.lst {X : Addr → Prop} {fs : List Addr} {h h' : Heap} {l : Addr} {vs : List Value} (k : KpX X fs h h') (H : Lst h l vs) (hX : ¬ X l) (hf : ∀ a ∈ fs, ∃ m, h.Ns a m) : Lst h' l vs := by
  obtain ⟨n, e⟩ := id H
  refine ⟨n, k.1 l _ hX (fun q => ?_) e⟩
  obtain ⟨m, hm⟩ := hf l q
  exact H.dat.ns hm
/-- the frame behind a call that may have turned the frames' slots -/
theorem St.kpx {h₀ h h' : Heap} {X : Addr → Prop} {fs : List Addr} {L : Addr} {ls : List (Str × Value)} (S : St h₀ (fun a => a ∈ fs) L h ls) (k : KpX X (L :: fs) h h') (hX : ∀ a, X a → h₀.get? a = none) : St h₀ (fun a => a ∈ fs) L h' ls := by
  refine ⟨?_, fun c o hc e => k.1 c o (fun q => by rw [hX c q] at e; cases e) (fun q => ?_) (S.ext c o hc e), S.new⟩
  · obtain ⟨m, hm, r⟩ := S.loc
    exact ⟨m, k.2 L m (.head _) hm, r⟩
  · rcases List.mem_cons.mp q with q | q
    · exact S.ne e q
    · exact hc q
theorem Fms.kpx {b : Heap} {A : Around} {h h' : Heap} {fs : List Addr} {X : Addr → Prop} (F : Fms b A h fs) (k : KpX X fs h h') : Fms b A h' fs := by
  obtain ⟨⟨envs, h1, h2, h3⟩, hn⟩ := F
  refine ⟨⟨envs, h1, h2, ?_⟩, fun a ha => let ⟨m, hm⟩ := hn a ha; ⟨m, k.2 a m ha hm⟩⟩
  subst h2
  clear h1
  induction envs with
  | nil => trivial
  | cons env rest ih =>
    obtain ⟨hk, ⟨L, o, hf, hnn, ho, hd⟩, hr⟩ := h3
    have e1 : (env :: rest).filterMap (·.frame) = L :: rest.filterMap (·.frame) := by rw [List.filterMap_cons, hf]
    rw [e1] at k hn
    obtain ⟨m, hm⟩ := hn L (.head _)
    obtain ⟨o', es, ep, ho', hd', _⟩ := k.2 L m (.head _) hm
    refine ⟨hk, ⟨L, o', hf, hnn, ho', fun vs q => by rw [hd'] at q; cases q⟩, ?_⟩
    have sub : ∀ (l : List Env), (∀ a ∈ l.filterMap (·.frame), ∃ m, h.Ns a m ∧ h'.Ns a m) → h.FunFrames b l → h'.FunFrames b l := by
      intro l
      induction l with
      | nil => intro _ _; trivial
      | cons e l ih =>
        intro hl hF
        obtain ⟨a1, ⟨L2, o2, f2, n2, g2, d2⟩, a3⟩ := hF
        have e2 : (e :: l).filterMap (·.frame) = L2 :: l.filterMap (·.frame) := by rw [List.filterMap_cons, f2]
        rw [e2] at hl
        obtain ⟨m2, _, o3, es3, ep3, g3, d3, _⟩ := hl L2 (.head _)
        exact ⟨a1, ⟨L2, o3, f2, n2, g3, fun vs q => by rw [d3] at q; cases q⟩, ih (fun a ha => hl a (.tail _ ha)) a3⟩
    exact sub rest (fun a ha => let ⟨m, hm⟩ := hn a (.tail _ ha); ⟨m, hm, k.2 a m (.tail _ ha) hm⟩) hr
section
variable {prog : Program} {w : World} {A : Around} {h b : Heap} {κ : Nat} {kf : Int → List Nat} {fs : List Addr} {r q : Addr} {vs : List Value} {is : List Int} {cut : Nat} {t : Tok}
def retE (s : Stmt) : Expr := match s with | .Return (some e) _ => e | _ => .Constant .none 0 default
theorem way_fall {L : Addr} {h₁ : Heap} {qual : Str} {cdv : Value} (hA : Ok 20 A) (W : Wd b) (K : Kp b h) (hfb : ∀ a ∈ fs, b.get? a = none) (Fm : Fms b A h₁ (L :: fs)) (F : KeyF prog w b q κ kf)
    (S : St h (fun a => a ∈ fs) L h₁ [("row", .ref r), ("key", .ref q), ("cut", .int cut t)]) (hfr : ∀ a m, a ∈ fs → h.Ns a m → h₁.Ns a m) (H : Lst h₁ r vs) (hi : Ints is vs) (h2 : 2 ≤ vs.length) (h64 : vs.length < 60) (hc : cut ≤ vs.length)
    (e : Expr) (he : e = retE ((ifB (stA 47 0)).getD 0 (.Break default))) :
    Rn prog w A h₁ (eval e (envX qual (sA 47) L 218 cdv [])) (fun v h' => ∃ D us, v = .ref D ∧ Lst h' D us ∧ Ints (isort (cK true kf) is) us ∧ KpX (fun _ => False) fs h h') := by
  subst he
  have K₁ := S.base K hfb
  have lk : ∀ {X : Addr → Prop} {hh hh' : Heap}, KpX X (L :: fs) hh hh' → (∀ a m, a ∈ fs → h.Ns a m → hh.Ns a m) → ∀ a m, a ∈ fs → h.Ns a m → hh'.Ns a m := fun k f a m ha hm => k.2 a m (.tail _ ha) (f a m ha hm)
  refine Rn.binOp (Rn.callK ?_)
  walk_at "ev"
  refine Rn.cwKDef (W.fn _ _ _ (by rfl)) ?_
  walk_at "evs"
  refine Rn.kwCons ?_
  walk_at "ev"
  refine Rn.kwNil ⟨K₁, ?_⟩
  show Rn _ _ _ _ (call (.ref 82) [.int cut t, .ref r] [(Str.ofString "key", .ref q)]) _
  refine (nlg (X := fun _ => False) hA W K₁ Fm F (fun _ q => q.elim) (.list H) hi h2 h64 hc).mono ?_
  rintro _ h₂ ⟨D, us, rfl, HD, hI₂, kx₂⟩
  have S₂ := S.kpx kx₂ (fun _ q => q.elim)
  have H₂ := kx₂.lst H id Fm.ns
  have Fm₂ := Fm.kpx kx₂
  have K₂ := S₂.base K hfb
  have fr₂ := lk kx₂ hfr
  refine Rn.subscript (Rn.callK ?_)
  walk_at "ev"
  refine Rn.cwKDef (W.fn _ _ _ (by rfl)) ?_
  walk_at "evs"
  refine Pv.thenI (Pv.lenL H₂ (by omega)) fun t1 => ?_
  walk_at "evs"
  rename_i t2
  have ei : (vs.length : Int) - (cut : Int) = ((vs.length - cut : Nat) : Int) := by omega
  rw [ei]
  refine Rn.revListX H₂ fun I h₃ hI hR k₃ => ?_
  have S₃ := S₂.keeps k₃
  have K₃ := K₂.trans k₃
  have H₃ := H₂.keeps k₃
  have HD₃ := HD.keeps k₃
  have Fm₃ := Fm₂.keeps k₃
  have hI0 : h.get? I = none := by
    cases e : h.get? I with
    | none => rfl
    | some o =>
      by_cases hf : I ∈ fs
      · obtain ⟨m, hm⟩ := Fm₂.ns I (.tail _ hf)
        obtain ⟨o', _, _, ho', _⟩ := hm
        rw [hI] at ho'; cases ho'
      · rw [S₂.ext I o hf e] at hI; cases hI
  have bI : b.get? I = none := by
    cases e : b.get? I with
    | none => rfl
    | some o => rw [K _ _ e] at hI0; cases hI0
  have hrI : r ≠ I := fun q => by subst q; obtain ⟨n, e⟩ := H₂; rw [hI] at e; cases e
  have hDI : D ≠ I := fun q => by subst q; obtain ⟨n, e⟩ := HD; rw [hI] at e; cases e
  walk_at "evs"
  refine Rn.kwCons ?_
  walk_at "ev"
  refine Rn.kwNil ⟨K₃, ?_⟩
  show Rn _ _ _ _ (call (.ref 76) [.int ((vs.length - cut : Nat) : Int) t2, .ref I] [(Str.ofString "key", .ref q)]) _
  refine (nsm (X := (· = I)) (vs := vs.reverse) (is := is.reverse) hA W K₃ Fm₃ F (fun a e => e ▸ bI) (.rev r vs hR H₃ hrI rfl rfl) hi.rev (by simpa using h2) (by simpa using h64) (by simp)).mono ?_
  rintro _ h₄ ⟨D₂, us₂, rfl, HD₂, hI₄, kx₄⟩
  have S₄ := S₃.kpx kx₄ (fun a e => e ▸ hI0)
  have HD₄ := kx₄.lst HD₃ hDI Fm₃.ns
  have fr₄ := lk kx₄ (fun a m ha hm => (fr₂ a m ha hm).keeps k₃)
  have l1 := hI₂.1
  have l2 := hI₄.1
  rw [List.length_take, isort_len, ← hi.1] at l1
  rw [List.length_take, isort_len, List.length_reverse, ← hi.1] at l2
  refine Rn.sliceE (Rn.partN (Rn.partN (Rn.partS (Rn.unary ?_))))
  walk_at "evs"
  refine Pv.thenI Pv.negI fun t5 => ?_
  intro sl h₅ hsl hSl k₅
  refine Rn.sliceT (HD₂.keeps k₅) hSl .none .none (.int _ _) (by decide) (by omega) fun D₃ h₆ hD₃ H₆ k₆ => ?_
  rw [pick_rev] at H₆
  refine Rn.addL ((HD₄.keeps k₅).keeps k₆) H₆ (by rw [List.length_reverse]; omega) fun D₄ h₇ hD₄ H₇ k₇ => ?_
  refine ⟨D₄, _, rfl, H₇, ?_, ?_⟩
  · have hh := halves (cK_so true kf) is cut (by rw [← hi.1]; exact hc)
    rw [cK_flp] at hh
    rw [← hh, ← hi.1]
    exact hI₂.app hI₄.rev
  · have kk := (k₅.trans k₆).trans k₇
    exact ⟨fun a o _ hf e => kk a o (S₄.ext a o hf e), fun a m ha hm => (fr₄ a m ha hm).keeps kk⟩
theorem way_rise {L : Addr} {h₁ : Heap} {qual : Str} {cdv : Value} (hA : Ok 20 A) (W : Wd b) (K : Kp b h) (hfb : ∀ a ∈ fs, b.get? a = none) (Fm : Fms b A h₁ (L :: fs)) (F : KeyF prog w b q κ kf)
    (S : St h (fun a => a ∈ fs) L h₁ [("row", .ref r), ("key", .ref q), ("cut", .int cut t)]) (hfr : ∀ a m, a ∈ fs → h.Ns a m → h₁.Ns a m) (H : Lst h₁ r vs) (hi : Ints is vs) (h2 : 2 ≤ vs.length) (h64 : vs.length < 60) (hc : cut ≤ vs.length)
    (e : Expr) (he : e = retE (stA 47 1)) :
    Rn prog w A h₁ (eval e (envX qual (sA 47) L 218 cdv [])) (fun v h' => ∃ D us, v = .ref D ∧ Lst h' D us ∧ Ints (isort (cK false kf) is) us ∧ KpX (fun _ => False) fs h h') := by
  subst he
  have K₁ := S.base K hfb
  have lk : ∀ {X : Addr → Prop} {hh hh' : Heap}, KpX X (L :: fs) hh hh' → (∀ a m, a ∈ fs → h.Ns a m → hh.Ns a m) → ∀ a m, a ∈ fs → h.Ns a m → hh'.Ns a m := fun k f a m ha hm => k.2 a m (.tail _ ha) (f a m ha hm)
  refine Rn.binOp (Rn.callK ?_)
  walk_at "ev"
  refine Rn.cwKDef (W.fn _ _ _ (by rfl)) ?_
  walk_at "evs"
  refine Rn.kwCons ?_
  walk_at "ev"
  refine Rn.kwNil ⟨K₁, ?_⟩
  show Rn _ _ _ _ (call (.ref 76) [.int cut t, .ref r] [(Str.ofString "key", .ref q)]) _
  refine (nsm (X := fun _ => False) hA W K₁ Fm F (fun _ q => q.elim) (.list H) hi h2 h64 hc).mono ?_
  rintro _ h₂ ⟨D, us, rfl, HD, hI₂, kx₂⟩
  have S₂ := S.kpx kx₂ (fun _ q => q.elim)
  have H₂ := kx₂.lst H id Fm.ns
  have Fm₂ := Fm.kpx kx₂
  have K₂ := S₂.base K hfb
  have fr₂ := lk kx₂ hfr
  refine Rn.subscript (Rn.callK ?_)
  walk_at "ev"
  refine Rn.cwKDef (W.fn _ _ _ (by rfl)) ?_
  walk_at "evs"
  refine Pv.thenI (Pv.lenL H₂ (by omega)) fun t1 => ?_
  walk_at "evs"
  rename_i t2
  have ei : (vs.length : Int) - (cut : Int) = ((vs.length - cut : Nat) : Int) := by omega
  rw [ei]
  refine Rn.revListX H₂ fun I h₃ hI hR k₃ => ?_
  have S₃ := S₂.keeps k₃
  have K₃ := K₂.trans k₃
  have H₃ := H₂.keeps k₃
  have HD₃ := HD.keeps k₃
  have Fm₃ := Fm₂.keeps k₃
  have hI0 : h.get? I = none := by
    cases e : h.get? I with
    | none => rfl
    | some o =>
      by_cases hf : I ∈ fs
      · obtain ⟨m, hm⟩ := Fm₂.ns I (.tail _ hf)
        obtain ⟨o', _, _, ho', _⟩ := hm
        rw [hI] at ho'; cases ho'
      · rw [S₂.ext I o hf e] at hI; cases hI
  have bI : b.get? I = none := by
    cases e : b.get? I with
    | none => rfl
    | some o => rw [K _ _ e] at hI0; cases hI0
  have hrI : r ≠ I := fun q => by subst q; obtain ⟨n, e⟩ := H₂; rw [hI] at e; cases e
  have hDI : D ≠ I := fun q => by subst q; obtain ⟨n, e⟩ := HD; rw [hI] at e; cases e
  walk_at "evs"
  refine Rn.kwCons ?_
  walk_at "ev"
  refine Rn.kwNil ⟨K₃, ?_⟩
  show Rn _ _ _ _ (call (.ref 82) [.int ((vs.length - cut : Nat) : Int) t2, .ref I] [(Str.ofString "key", .ref q)]) _
  refine (nlg (X := (· = I)) (vs := vs.reverse) (is := is.reverse) hA W K₃ Fm₃ F (fun a e => e ▸ bI) (.rev r vs hR H₃ hrI rfl rfl) hi.rev (by simpa using h2) (by simpa using h64) (by simp)).mono ?_
  rintro _ h₄ ⟨D₂, us₂, rfl, HD₂, hI₄, kx₄⟩
  have S₄ := S₃.kpx kx₄ (fun a e => e ▸ hI0)
  have HD₄ := kx₄.lst HD₃ hDI Fm₃.ns
  have fr₄ := lk kx₄ (fun a m ha hm => (fr₂ a m ha hm).keeps k₃)
  have l1 := hI₂.1
  have l2 := hI₄.1
  rw [List.length_take, isort_len, ← hi.1] at l1
  rw [List.length_take, isort_len, List.length_reverse, ← hi.1] at l2
  refine Rn.sliceE (Rn.partN (Rn.partN (Rn.partS (Rn.unary ?_))))
  walk_at "evs"
  refine Pv.thenI Pv.negI fun t5 => ?_
  intro sl h₅ hsl hSl k₅
  refine Rn.sliceT (HD₂.keeps k₅) hSl .none .none (.int _ _) (by decide) (by omega) fun D₃ h₆ hD₃ H₆ k₆ => ?_
  rw [pick_rev] at H₆
  refine Rn.addL ((HD₄.keeps k₅).keeps k₆) H₆ (by rw [List.length_reverse]; omega) fun D₄ h₇ hD₄ H₇ k₇ => ?_
  refine ⟨D₄, _, rfl, H₇, ?_, ?_⟩
  · have hh := halves (cK_so false kf) is cut (by rw [← hi.1]; exact hc)
    rw [cK_flp] at hh
    rw [← hh, ← hi.1]
    exact hI₂.app hI₄.rev
  · have kk := (k₅.trans k₆).trans k₇
    exact ⟨fun a o _ hf e => kk a o (S₄.ext a o hf e), fun a m ha hm => (fr₄ a m ha hm).keeps kk⟩
theorem law_passed {fl : Bool} (hA : Ok 21 A) (W : Wd b) (K : Kp b h) (Fm : Fms b A h fs) (F : KeyF prog w b q κ kf) (H : Lst h r vs) (hi : Ints is vs) (h2 : 2 ≤ vs.length) (h64 : vs.length < 60) (hc : cut ≤ vs.length) :
    Rn prog w A h (call (.ref 218) [.ref r, .ref q, .int cut t, .bool fl]) (fun v h' => ∃ D us, v = .ref D ∧ Lst h' D us ∧ Ints (isort (cK fl kf) is) us ∧ KpX (fun _ => False) fs h h') := by
  refine Rn.callDef (k := 20) (n := 47) (binds := [("row", .ref r), ("key", .ref q), ("cut", .int cut t), ("falls", .bool fl)]) hA ((W.fn _ _ _ (by rfl)).keeps K) (W.lim.keeps K) (fun _ _ _ _ _ _ _ _ _ => BindsTo.of_eq rfl) ?_
    (hloc := by intro x hx; simp only [List.mem_cons, List.not_mem_nil, or_false] at hx; rcases hx with rfl | rfl | rfl | rfl <;> rfl)
  intro qual cdv L h₁ S₁ hA'
  have S₂ : St h (fun a => a ∈ fs) L h₁ [("row", .ref r), ("key", .ref q), ("cut", .int cut t)] := (S₁.weak fun _ q => q.elim).sub (by walk_at "subs")
  have Fm₁ : Fms b (A.deeper (envX qual (sA 47) L 218 cdv [])) h₁ (L :: fs) := (Fm.keeps S₁.kp).deeper K S₁ rfl rfl
  have fr : ∀ a m, a ∈ fs → h.Ns a m → h₁.Ns a m := fun a m _ hm => hm.keeps S₁.kp
  refine Rn.cons (Rn.ifS (Rn.testVal (Pv.val (Pv.nameS S₁ (by rfl)) (Rn.truthyB ?_))))
  cases fl with
  | true =>
    rw [if_pos rfl]
    refine Rn.cons (Rn.ret ((way_fall hA' W K Fm.new Fm₁ F S₂ fr (H.keeps S₁.kp) hi h2 h64 hc _ rfl).mono ?_))
    rintro _ h' ⟨D, us, rfl, rr⟩
    exact ⟨D, us, rfl, rr⟩
  | false =>
    rw [if_neg Bool.false_ne_true]
    refine Rn.nil (Rn.cons (Rn.ret ((way_rise hA' W K Fm.new Fm₁ F S₂ fr (H.keeps S₁.kp) hi h2 h64 hc _ rfl).mono ?_)))
    rintro _ h' ⟨D, us, rfl, rr⟩
    exact ⟨D, us, rfl, rr⟩
end
end
section
set_option maxRecDepth 100000
set_option maxHeartbeats 1000000
set_option autoImplicit false
set_option linter.unusedVariables false
/-- ahead, the last pass first -/
def ahd (ms : List Int) : List (Bool × Nat) → Nat → Nat → Bool
  | [], i, j => decide (i < j)
  | (fl, d) :: r, i, j => if kD d (ms.getD i 0) = kD d (ms.getD j 0) then ahd ms r i j else decide (kD d (ms.getD i 0) < kD d (ms.getD j 0)) != fl
/-- a told pass -/
def TP (h : Heap) (ms : List Int) (v : Value) (p : Bool × Nat) : Prop := ∃ tu K kvs, v = .ref tu ∧ Tup h tu [.bool p.1, .ref K] ∧ Lst h K kvs ∧ kvs.length = ms.length ∧ ∀ (j : Nat) kv, kvs[j]? = some kv → IsK (κD p.2) (kD p.2 (ms.getD j 0)) kv
def Told (h : Heap) (T : Addr) (ms : List Int) (ps : List (Bool × Nat)) : Prop := ∃ ts, Lst h T ts ∧ ts.length = ps.length ∧ ∀ (i : Nat) v p, ts[i]? = some v → ps[i]? = some p → TP h ms v p
theorem TP.keeps {h h' : Heap} {ms : List Int} {v : Value} {p : Bool × Nat} (H : TP h ms v p) (k : Kp h h') : TP h' ms v p := let ⟨tu, K, kvs, e, ht, hl, r⟩ := H; ⟨tu, K, kvs, e, ht.keeps k, hl.keeps k, r⟩
theorem TP.keepD {h h' : Heap} {ms : List Int} {v : Value} {p : Bool × Nat} (H : TP h ms v p) (k : ∀ c o, Dat h c → h.get? c = some o → h'.get? c = some o) : TP h' ms v p := by
  obtain ⟨tu, K, kvs, e, ht, hl, r⟩ := H
  exact ⟨tu, K, kvs, e, ht.at fun o z => k _ o ht.dat z, let ⟨n, z⟩ := hl; ⟨n, k _ _ hl.dat z⟩, r⟩
section
variable {prog : Program} {w : World} {A : Around} {h b : Heap}
theorem Pv.neK {κ : Nat} {k k' : List Nat} {v v' : Value} (H : IsK κ k v) (H' : IsK κ k' v') : Pv prog w A h (compareOp .NotEq v v') (· = .bool (!decide (k = k'))) := by
  unfold IsK at H H'
  split at H
  · obtain ⟨c, rfl, rfl⟩ := H
    obtain ⟨c', rfl, rfl⟩ := H'
    refine Rn.of fun s _ _ e kk => ?_
    subst e
    refine ne_bool (kk _ _ s.toks ⟨rfl, ?_⟩)
    cases c <;> cases c' <;> rfl
  · obtain ⟨n, t, rfl, rfl⟩ := H
    obtain ⟨n', t', rfl, rfl⟩ := H'
    refine Pv.neI.mono fun a e => ?_
    rw [e]
    refine congrArg Value.bool ?_
    by_cases q : n = n'
    · subst q; simp
    · have hne : (n : Int) ≠ n' := fun h => q (Int.ofNat.inj h)
      have e1 : ((n : Int) != (n' : Int)) = true := by rw [bne_iff_ne]; exact hne
      rw [e1, decide_eq_false (fun h => q (by injection h))]; rfl
  · obtain ⟨x, t, rfl, rfl⟩ := H
    rename_i h1 h2
    have H' : ∃ (x : Str) (t : Tok), v' = .str x t ∧ k' = x.cps.toList := by
      split at H'
      · exact absurd rfl h1
      · exact absurd rfl h2
      · exact H'
    obtain ⟨x', t', rfl, rfl⟩ := H'
    refine Rn.of fun s _ _ e kk => ?_
    subst e
    refine PySem.P.ne_str (kk _ _ s.toks ⟨rfl, ?_⟩)
    refine congrArg Value.bool ?_
    by_cases q : x.cps.toList = x'.cps.toList
    · rw [q]; simp
    · have e1 : (x.cps.toList != x'.cps.toList) = true := by rw [bne_iff_ne]; exact q
      rw [e1, decide_eq_false q]; rfl
theorem Pv.neB {c d : Bool} : Pv prog w A h (compareOp .NotEq (.bool c) (.bool d)) (· = .bool (c != d)) := Rn.of fun s _ _ e kk => by
  subst e
  refine ne_bool (kk _ _ s.toks ⟨rfl, ?_⟩)
  cases c <;> cases d <;> rfl
theorem law_ahead {ms : List Int} {T : Addr} {ps : List (Bool × Nat)} {i j : Nat} {t u : Tok} (hA : Ok 3 A) (W : Wd b) (K : Kp b h) (H : Told h T ms ps) (hi : i < ms.length) (hj : j < ms.length) (hm : ms.length < 100) (hp : ps.length < 100) :
    Rn prog w A h (call (.ref 206) [.int i t, .int j u, .ref T]) (fun v h' => v = .bool (ahd ms ps.reverse i j) ∧ Kp h h') := by
  refine Rn.callDef (k := 2) (n := 45) (binds := [("one", .int i t), ("other", .int j u), ("told", .ref T)]) hA ((W.fn _ _ _ (by rfl)).keeps K) (W.lim.keeps K) (fun _ _ _ _ _ _ _ _ _ => BindsTo.of_eq rfl) ?_
    (hloc := by intro x hx; simp only [List.mem_cons, List.not_mem_nil, or_false] at hx; rcases hx with rfl | rfl | rfl <;> rfl)
  intro qual cdv L h₁ S₁ hA'
  obtain ⟨ts, HL, hlen, hts⟩ := H
  have HL₁ := HL.keeps S₁.kp
  refine Rn.cons (Rn.forS (Rn.subscript ?_))
  walk_at "evs"
  refine Rn.sliceE (Rn.partN (Rn.partN (Rn.partS (Rn.unary ?_))))
  walk_at "evs"
  refine Pv.thenI Pv.negI fun t5 => ?_
  intro sl h₂ hsl hSl k₂
  refine Rn.sliceT (HL₁.keeps k₂) hSl .none .none (.int _ _) (by decide) (by omega) fun D h₃ hD H₃ k₃ => ?_
  rw [pick_rev] at H₃
  refine Rn.iterListX H₃ fun I h₄ hI hit k₄ => ?_
  have S₄ := ((S₁.keeps k₂).keeps k₃).keeps k₄
  have kk4 : Kp h h₄ := ((S₁.kp.trans k₂).trans k₃).trans k₄
  obtain ⟨hI0, hIL⟩ := ((S₁.keeps k₂).keeps k₃).fresh hI (fun _ q => q.elim)
  have hDI : D ≠ I := fun q => by subst q; obtain ⟨n, e⟩ := H₃; rw [hI] at e; cases e
  have hD0 : h.get? D = none := by
    cases e : h.get? D with
    | none => rfl
    | some o => rw [k₂ _ _ (S₁.kp _ _ e)] at hD; cases hD
  have hDL : D ≠ L := by
    have := ((S₁.keeps k₂).keeps k₃).ndat H₃.dat
    exact this
  have rl : ts.reverse.length = ps.reverse.length := by simp [hlen]
  refine Rn.forLoopT (fun r h' => ∃ k : Nat, k + r = ps.length ∧ St h (fun _ => False) L h' [("one", .int i t), ("other", .int j u)] ∧ h'.IsListIter I D k ∧ Lst h' D ts.reverse ∧ ahd ms (ps.reverse.drop k) i j = ahd ms ps.reverse i j)
    ?_ ps.length ⟨0, by omega, S₄.sub (by walk_at "subs"), hit, H₃.keeps k₄, rfl⟩
  rintro r h₅ ⟨k, hk, S₅, hit₅, H₅, hah⟩
  cases r with
  | zero =>
    have hkl : k = ps.length := by omega
    refine Rn.of fun s Q E es kk => ?_
    subst es
    refine wpAny_pyNext_list_end hA'.1 hit₅ H₅.isList (by simp [hlen, hkl]) fun h₆ x₆ => kk _ h₆ s.toks ?_
    refine Rn.nil ?_
    have S₆ := S₅.other x₆ hIL (.inr hI0)
    refine Rn.cons (Rn.ret ?_)
    walk_at "evs"
    refine ⟨?_, S₆.kp⟩
    rw [← hah, List.drop_eq_nil_of_le (by simp; omega)]
    show Value.bool (decide ((i : Int) < (j : Int))) = Value.bool (decide (i < j))
    refine congrArg Value.bool ?_
    rw [decide_eq_decide]; omega
  | succ r =>
    have hkl : k < ps.length := by omega
    have hkt : k < ts.reverse.length := by rw [rl]; simpa using hkl
    refine Rn.of fun s Q E es kk => ?_
    subst es
    obtain ⟨tv, htv⟩ : ∃ v, ts.reverse[k]? = some v := ⟨_, List.getElem?_eq_getElem hkt⟩
    refine wpAny_pyNext_list_item (x := tv) hit₅ H₅.isList (by rw [List.getElem?_toArray]; exact htv) fun h₆ hit₆ s₆ => kk _ h₆ s.toks ?_
    clear kk
    have S₆ := S₅.other s₆.extBut hIL (.inr hI0)
    have H₆ := H₅.ext s₆.extBut hDI
    refine (go_tuple _ h₆ ⟨_, hit₆⟩).mono ?_
    intro _ h6 e6
    rw [e6]
    -- the pass
    obtain ⟨⟨fl, d⟩, hpx⟩ : ∃ p, ps.reverse[k]? = some p := ⟨_, List.getElem?_eq_getElem (by simpa using hkl)⟩
    have hdrop : ps.reverse.drop k = (fl, d) :: ps.reverse.drop (k + 1) := by
      obtain ⟨hlt, e⟩ := List.getElem?_eq_some_iff.mp hpx
      rw [List.drop_eq_getElem_cons hlt, e]
    have hix := htv
    rw [List.getElem?_reverse (by simpa using hkt)] at hix
    rw [List.getElem?_reverse hkl, ← hlen] at hpx
    obtain ⟨tu, Kl, kvs, ev, htu, hkl', hkn, hks⟩ := hts _ _ _ hix hpx
    rw [ev]
    have k6 : Kp h h₆ := S₆.kp
    refine Rn.tup2 hA'.1 (htu.keeps k6) fun h₇ k₇ => ?_
    refine Rn.storeS (S₆.keeps k₇) fun h₈ S₈ s₈ => Rn.storeS S₈ fun h₉ S₉ s₉ => ?_
    have hK₉ : Lst h₉ Kl kvs := hkl'.keeps S₉.kp
    have hit₉ : h₉.IsListIter I D (k + 1) := let ⟨o, z, rr⟩ := hit₆; ⟨o, s₉.extBut _ _ hIL.symm (s₈.extBut _ _ hIL.symm (k₇ _ _ z)), rr⟩
    have H₉ := ((H₆.keeps k₇).ext s₈.extBut hDL).ext s₉.extBut hDL
    have gi : kvs[i]? = some (kvs.getD i .none) := getD_lt (by omega)
    have gj : kvs[j]? = some (kvs.getD j .none) := getD_lt (by omega)
    have ki := hks i _ gi
    have kj := hks j _ gj
    have hstep : ahd ms (ps.reverse.drop k) i j = if kD d (ms.getD i 0) = kD d (ms.getD j 0) then ahd ms (ps.reverse.drop (k + 1)) i j else decide (kD d (ms.getD i 0) < kD d (ms.getD j 0)) != fl := by
      rw [hdrop]; rfl
    refine Rn.opq fun PB hB => ?_
    refine Rn.cons (Rn.ifS ?_)
    walk_at "evs"
    refine Pv.val (Pv.itemList hK₉ (by omega) (by omega) (by rw [Int.toNat_natCast]; exact gi)) ?_
    walk_at "evs"
    refine Pv.val (Pv.itemList hK₉ (by omega) (by omega) (by rw [Int.toNat_natCast]; exact gj)) ?_
    refine Pv.val (Pv.neK ki kj) ?_
    walk_at "evs"
    by_cases q : kD d (ms.getD i 0) = kD d (ms.getD j 0)
    · rw [if_neg (by rw [decide_eq_true q]; decide)]
      rw [if_pos q] at hstep
      exact Rn.nil (Rn.nil (hB _ _ ⟨r, Nat.lt_succ_self _, k + 1, by omega, S₉.sub (by walk_at "subs"), hit₉, H₉, by rw [← hah, hstep]⟩))
    · rw [if_pos (by rw [decide_eq_false q]; rfl)]
      rw [if_neg q] at hstep
      refine Rn.cons (Rn.ret ?_)
      refine Rn.compare (Rn.compare ?_)
      walk_at "evs"
      refine Pv.val (Pv.itemList hK₉ (by omega) (by omega) (by rw [Int.toNat_natCast]; exact gi)) ?_
      walk_at "evs"
      refine Pv.val (Pv.itemList hK₉ (by omega) (by omega) (by rw [Int.toNat_natCast]; exact gj)) ?_
      refine Pv.val (Pv.ltK ki kj) ?_
      walk_at "evs"
      refine Pv.val Pv.neB ?_
      exact hB _ _ ⟨by rw [← hah, hstep], S₉.kp⟩
end
end
section
set_option maxRecDepth 100000
set_option maxHeartbeats 1000000
set_option autoImplicit false
set_option linter.unusedVariables false
section
variable {prog : Program} {w : World} {A : Around} {h b : Heap} {env : Env}
/-- the frame of a comprehension with one cell of its own -/
theorem Rn.compFrameC {scope : Scope} {globals : Addr} {cl : List (Str × Addr)} {qual x : Str} {P : Env → Heap → Prop}
    (k : ∀ h', Kp h h' → Loc h' h.objs.size [] → h'.IsCell (h.objs.size + 1) none → P (newEnv scope h.objs.size globals ((x, h.objs.size + 1) :: cl) qual none .none (some env) builtinsNs) h')
    (hn : ∀ N, cellsFrom N scope.names cl = (x, N) :: cl := by intro _; rfl) (hp : ∀ h, pushCells h scope.names = h.push { cls := .type "cell", data := .cell none } := by intro _; rfl) : Rn prog w A h (newFunctionEnv scope globals cl [] qual none .none (some env)) P := by
  refine Rn.of fun s Q E e kk => ?_
  subst e
  simp only [newFunctionEnv, Option.isSome_some, if_true]
  refine wpAny_bind (wpAny_alloc ?_)
  refine wpAny_bind (wpAny_layCells _ (fun name kind cells => by cases hkc : kind == NameKind.cell <;> simp [hkc]) _ _ _ _ ?_)
  rw [hp, hn]
  rw [show ({ s with heap := s.heap.push { cls := .type "dict", data := .dict #[] } } : Shared).heap.objs.size = s.heap.objs.size + 1 from Heap.size_push ..]
  have hc := Heap.get?_push_size (s.heap.push { cls := .type "dict", data := .dict #[] }) (o := { cls := .type "cell", data := .cell none }) rfl
  rw [Heap.size_push] at hc
  exact wpAny_bind (wpAny_pure (wpAny_pure (kk _ _ s.toks (k _ ((Kp.push _ _).trans (Kp.push _ _)) ⟨_, (Heap.Ns.new s.heap (.type "dict")).keeps (Kp.push _ _), fun x v e => by cases e⟩ ⟨_, hc, rfl⟩))))
theorem Rn.iterRange {r : Addr} {n : Nat} {t u v : Tok} {P : Value → Heap → Prop} (hr : IsRange h r 0 n 1 t u v) (hn : n < 900) (k : ∀ I h', h.get? I = none → IsRangeIter h' I 0 n 1 → Kp h h' → P (.ref I) h') : Rn prog w A h (pyIter (.ref r)) P :=
  Rn.of fun s Q E es kk => by
    subst es
    refine wpAny_pyIter_range hr (small_up n (by omega)) (kk _ _ s.toks (k _ _ (fresh_size _) ?_ (Kp.push _ _)))
    rw [rsz_up]; exact Heap.get?_push_size _ rfl
theorem Itr.range {x : Str} {pos : Pos} {I : Addr} {N n : Nat} (hA : A.handled = none) (hI : I < N) :
    Itr prog w A (.Name x pos) I N n (· = I) (fun i v _ => IsI i v) (fun i h => IsRangeIter h I i ((n : Int) - i) 1) (fun _ => True) where
  lt := fun b e => e ▸ hI
  keep := fun i h h' H k => k _ _ hI H
  item := fun i h hi H => by
    refine Rn.nextRI H (by omega) fun h' t H' s => ⟨_, rfl, Rn.pure ⟨⟨t, rfl⟩, ?_, fun b o hb e => s.extBut b o hb e⟩⟩
    have e1 : (i : Int) + 1 = ((i + 1 : Nat) : Int) := by omega
    have e2 : (n : Int) - i - 1 = (n : Int) - ((i + 1 : Nat) : Int) := by omega
    rw [e1, e2] at H'
    exact H'
  fin := fun h H => Rn.endRI hA H (by omega) fun h' x => ⟨rfl, trivial, fun b o hb e => x b o hb e⟩
  self := fun i h H => Pv.iterRI H
end
theorem cellAt {h h' : Heap} {c : Addr} {v : Option Value} (H : h.IsCell c v) (k : ∀ o, h.get? c = some o → h'.get? c = some o) : h'.IsCell c v := let ⟨o, e, r⟩ := H; ⟨o, k o e, r⟩
/-- how many go ahead -/
def rank (ms : List Int) (ps : List (Bool × Nat)) (i : Nat) : Nat := ((List.range ms.length).filter fun j => ahd ms ps.reverse j i).length
abbrev cellsO (L : Addr) : List (Str × Addr) := [("ranks", L + 4), ("places", L + 3), ("told", L + 2), ("modes", L + 1)]
/-- the state of _law_order's frame -/
structure OS (h : Heap) (L M T : Addr) (h' : Heap) : Prop where
  loc : Loc h' L []
  kp : Kp h h'
  new : h.objs.size ≤ L
  m : h'.IsCell (L + 1) (some (.ref M))
  t : h'.IsCell (L + 2) (some (.ref T))
theorem OS.keeps {h : Heap} {L M T : Addr} {h' h'' : Heap} (S : OS h L M T h') (k : Kp h' h'') : OS h L M T h'' := ⟨S.loc.keeps k, S.kp.trans k, S.new, S.m.keeps k, S.t.keeps k⟩
theorem OS.keep {h : Heap} {L M T : Addr} {h' h'' : Heap} {c : Addr} (S : OS h L M T h') (x : Heap.ExtBut c h' h'') (h0 : h.get? c = none) (n1 : c ≠ L) (n2 : c ≠ L + 1) (n3 : c ≠ L + 2) : OS h L M T h'' := by
  refine ⟨?_, fun a o e => x a o (fun q => by rw [q, h0] at e; cases e) (S.kp a o e), S.new, let ⟨o, e, r⟩ := S.m; ⟨o, x _ _ n2.symm e, r⟩, let ⟨o, e, r⟩ := S.t; ⟨o, x _ _ n3.symm e, r⟩⟩
  obtain ⟨m, ⟨o, es, ep, ho, r⟩, q⟩ := S.loc
  exact ⟨m, ⟨o, es, ep, x _ _ n1.symm ho, r⟩, q⟩
theorem OS.extX {h : Heap} {L M T : Addr} {h' h'' : Heap} {X : Addr → Prop} (S : OS h L M T h') (x : ∀ c o, ¬ X c → h'.get? c = some o → h''.get? c = some o) (hX : ∀ c, X c → Dat h' c ∧ h.get? c = none) : OS h L M T h'' := by
  have nl : ¬ X L := fun q => by obtain ⟨m, hm, _⟩ := S.loc; exact (hX _ q).1.ns hm
  have n1 : ¬ X (L + 1) := fun q => (hX _ q).1.cell S.m
  have n2 : ¬ X (L + 2) := fun q => (hX _ q).1.cell S.t
  refine ⟨?_, fun a o e => x a o (fun q => by rw [(hX _ q).2] at e; cases e) (S.kp a o e), S.new, let ⟨o, e, r⟩ := S.m; ⟨o, x _ _ n1 e, r⟩, let ⟨o, e, r⟩ := S.t; ⟨o, x _ _ n2 e, r⟩⟩
  obtain ⟨m, ⟨o, es, ep, ho, r⟩, q⟩ := S.loc
  exact ⟨m, ⟨o, es, ep, x _ _ nl ho, r⟩, q⟩
theorem Told.keeps {h h' : Heap} {T : Addr} {ms : List Int} {ps : List (Bool × Nat)} (H : Told h T ms ps) (k : Kp h h') : Told h' T ms ps := let ⟨ts, a, b, c⟩ := H; ⟨ts, a.keeps k, b, fun i v p e e' => (c i v p e e').keeps k⟩
section
variable {prog : Program} {w : World} {A : Around} {h b : Heap} {qual : Str} {cdv : Value} {L M T R : Addr} {ms : List Int} {ps : List (Bool × Nat)}
abbrev envO (qual : Str) (cdv : Value) (L : Addr) : Env := envX qual (sA 46) L 211 cdv (cellsO L)
def asgV (s : Stmt) : Expr := match s with | .Assign _ v _ => v | _ => .Constant .none 0 default
structure FO (h : Heap) (L T R : Addr) (n : Nat) (t1 t2 t3 : Tok) (C : Addr) (h' : Heap) : Prop where
  loc : Loc h' C []
  kp : Kp h h'
  t : h'.IsCell (L + 2) (some (.ref T))
  p : h'.IsCell (L + 3) (some (.ref R))
  r : IsRange h' R 0 n 1 t1 t2 t3
/-- the ranks -/
theorem order_ranks {h₁ : Heap} {t1 t2 t3 : Tok} (hA : Ok 6 A) (W : Wd b) (K : Kp b h) (S : OS h L M T h₁) (hP : h₁.IsCell (L + 3) (some (.ref R))) (hR : IsRange h₁ R 0 ms.length 1 t1 t2 t3) (HT : Told h T ms ps) (hm : ms.length < 100) (hp : ps.length < 100) :
    Rn prog w A h₁ (eval (asgV (stA 46 1)) (envO qual cdv L)) (fun v h' => ∃ D us, v = .ref D ∧ Lst h' D us ∧ us.length = ms.length ∧ (∀ (i : Nat) y, us[i]? = some y → IsI (rank ms ps i) y) ∧ Kp h₁ h') := by
  refine Rn.listComp (cl := [("told", L + 2), ("places", L + 3)]) ?_
  refine Pv.val (Pv.nameC hP) ?_
  refine Rn.iterRange hR (by omega) fun I h₂ hI hit k₂ => ?_
  have S₂ := S.keeps k₂
  have hP₂ := hP.keeps k₂
  have hR₂ : IsRange h₂ R 0 ms.length 1 t1 t2 t3 := k₂ _ _ hR
  have hIl : I < h₂.objs.size := Heap.lt_size hit
  refine Rn.compFrameC (x := "k") fun h₄ k₄' hLoc₄ hC₄ => ?_
  have k₄ : Kp h₂ h₄ := (Kp.push _ _).trans k₄'
  have hsz : (h₂.push { cls := .type "list", data := .seq #[] }).objs.size = h₂.objs.size + 1 := Heap.size_push ..
  have hD₄ : Lst h₄ h₂.objs.size [] := ⟨0, k₄' _ _ (Heap.get?_push_size _ rfl)⟩
  rw [hsz] at hLoc₄ hC₄
  have it₄ : IsRangeIter h₄ I ((0 : Nat) : Int) ((ms.length : Int) - (0 : Nat)) 1 := k₄ _ _ (by simpa using hit)
  refine ⟨(Itr.range (x := "k") (pos := default) (n := ms.length) hA.1 hIl).self 0 h₄ it₄, ?_⟩
  rw [hsz]
  have hLI : ∀ (c : Addr), (∃ o, h₁.get? c = some o) → c < h₂.objs.size ∧ c ≠ I := fun c ⟨o, e⟩ => ⟨Heap.lt_size (k₂ _ _ e), fun q => by rw [q, hI] at e; cases e⟩
  have eT : ∃ o, h₁.get? (L + 2) = some o := let ⟨o, e, _⟩ := S.t; ⟨o, e⟩
  have eP : ∃ o, h₁.get? (L + 3) = some o := let ⟨o, e, _⟩ := hP; ⟨o, e⟩
  have pres : ∀ h5 h6 : Heap, FO h L T R ms.length t1 t2 t3 (h₂.objs.size + 1) h5 → (∀ c o, (c < h₂.objs.size ∧ c ≠ I) ∨ c = h₂.objs.size + 1 → h5.get? c = some o → h6.get? c = some o) → FO h L T R ms.length t1 t2 t3 (h₂.objs.size + 1) h6 := by
    rintro h5 h6 ⟨⟨m, ⟨o, es, ep, ho, r'⟩, r⟩, b, c, d, e⟩ k
    exact ⟨⟨m, ⟨o, es, ep, k _ _ (.inr rfl) ho, r'⟩, r⟩, fun x o q => k _ _ (.inl (hLI _ ⟨_, S.kp _ _ q⟩)) (b _ _ q), cellAt c fun o q => k _ _ (.inl (hLI _ eT)) q, cellAt d fun o q => k _ _ (.inl (hLI _ eP)) q, k _ _ (.inl (hLI _ ⟨_, hR⟩)) e⟩
  refine RnC.compMap (N := h₂.objs.size) (n := ms.length) (Y := (· = h₂.objs.size + 1 + 1)) (h₂ := h₂) (Itr.range hA.1 hIl) (fun _ => true)
    (fun i y _ => IsI (rank ms ps i) y) (fun h' => FO h L T R ms.length t1 t2 t3 (h₂.objs.size + 1) h' ∧ ∃ v₀, h'.IsCell (h₂.objs.size + 1 + 1) v₀)
    (fun i h' => FO h L T R ms.length t1 t2 t3 (h₂.objs.size + 1) h' ∧ ∃ t, h'.IsCell (h₂.objs.size + 1 + 1) (some (.int i t)))
    rfl (by omega) (Nat.le_refl _) ?_ ?_ ?_ ?_ ?_ ?_ it₄ ⟨⟨hLoc₄, S₂.kp.trans k₄, S₂.t.keeps k₄, hP₂.keeps k₄, k₄ _ _ hR₂⟩, _, hC₄⟩ hD₄ k₄ ?_
  · rintro c rfl
    exact ⟨Nat.le_add_right _ 2, Nat.ne_of_gt (Nat.lt_add_of_pos_right (by decide : 0 < 2))⟩
  · rintro h5 h6 ⟨a, v₀, f⟩ k
    have n1 : ∀ j : Nat, h₂.objs.size + (j + 1) ≠ I := fun j e => absurd hIl (by rw [← e]; exact Nat.not_lt.mpr (Nat.le_add_right _ _))
    have n2 : ∀ j : Nat, h₂.objs.size + (j + 1) ≠ h₂.objs.size := fun j => Nat.ne_of_gt (Nat.lt_add_of_pos_right (Nat.succ_pos _))
    refine ⟨pres h5 h6 a fun c o hc e => ?_, v₀, cellAt f fun o q => k _ _ (n1 1) (n2 1) q⟩
    rcases hc with ⟨hc, hc'⟩ | rfl
    · exact k c o hc' (Nat.ne_of_lt hc) e
    · exact k _ o (n1 0) (n2 0) e
  · rintro i h5 ⟨a, t, f⟩
    exact ⟨a, _, f⟩
  · intro i y h5 h6 H _
    exact H
  · rintro i v h5 hin ⟨a, v₀, f⟩ ⟨t, rfl⟩
    refine Rn.assignT (Rn.storeC f fun h6 f6 s6 => ⟨⟨pres h5 h6 a fun c o hc e => s6.extBut c o (fun q => ?_) e, t, f6⟩, fun c o hc e => s6.extBut c o hc e⟩)
    subst q
    rcases hc with ⟨hc, _⟩ | hc
    · exact absurd hc (Nat.not_lt.mpr (Nat.le_add_right _ 2))
    · exact absurd hc (Nat.succ_ne_self _)
  · rintro i h5 hin ⟨a, t, f⟩ _ _
    refine Rn.testsNil ⟨rfl, Kp.refl _, fun _ => ?_⟩
    have K5 : Kp b h5 := K.trans a.kp
    walk_at "ev"
    walk_at "ev"
    walk_at "ev"
    walk_at "ev"
    refine Rn.listComp (cl := [("told", L + 2), ("k", h₂.objs.size + 1 + 1)]) ?_
    refine Pv.val (Pv.nameC a.p) ?_
    refine Rn.iterRange a.r (by omega) fun J g₂ hJ jit j₂ => ?_
    have hJl : J < g₂.objs.size := Heap.lt_size jit
    refine Rn.compFrame fun g₄ U₄ => ?_
    have gsz : (g₂.push { cls := .type "list", data := .seq #[] }).objs.size = g₂.objs.size + 1 := Heap.size_push ..
    have j₄ : Kp g₂ g₄ := (Kp.push _ _).trans U₄.kp
    have gD₄ : Lst g₄ g₂.objs.size [] := ⟨0, U₄.kp _ _ (Heap.get?_push_size _ rfl)⟩
    have gL₄ := U₄.loc
    rw [gsz] at gL₄
    have jt₄ : IsRangeIter g₄ J ((0 : Nat) : Int) ((ms.length : Int) - (0 : Nat)) 1 := j₄ _ _ (by simpa using jit)
    refine ⟨(Itr.range (x := "k") (pos := default) (n := ms.length) hA.1 hJl).self 0 g₄ jt₄, ?_⟩
    rw [gsz]
    have kJ : ∀ {g : Heap}, (∀ c o, ¬ c = J → g₂.get? c = some o → g.get? c = some o) → Kp h5 g := fun k c o e => k c o (fun q => by rw [q, hJ] at e; cases e) (j₂ _ _ e)
    refine RnC.compMap (N := g₂.objs.size) (n := ms.length) (Y := (· = g₂.objs.size + 1)) (h₂ := g₂) (Itr.range hA.1 hJl) (fun j => ahd ms ps.reverse j i)
      (fun _ _ _ => True) (fun g => Loc g (g₂.objs.size + 1) []) (fun j g => ∃ t, Loc g (g₂.objs.size + 1) [("j", .int j t)])
      rfl (by omega) (Nat.le_refl _) ?_ ?_ ?_ ?_ ?_ ?_ jt₄ gL₄ gD₄ j₄ ?_
    · rintro c rfl
      exact ⟨Nat.le_succ _, Nat.succ_ne_self _⟩
    · rintro g5 g6 ⟨m, ⟨o, es, ep, ho, r'⟩, r⟩ k
      exact ⟨m, ⟨o, es, ep, k _ _ (fun e => absurd hJl (by rw [← e]; exact Nat.not_lt.mpr (Nat.le_succ _))) (Nat.succ_ne_self _) ho, r'⟩, r⟩
    · rintro j g5 ⟨u, hL⟩
      exact hL.sub (by walk_at "subs")
    · intro _ _ _ _ _ _
      trivial
    · rintro j v g5 hjn hL ⟨u, rfl⟩
      exact Rn.assignT (Rn.storeName hL fun g6 hL6 s6 => ⟨⟨u, hL6⟩, fun c o hc e => s6.extBut c o hc e⟩)
    · rintro j g5 hjn ⟨u, hL⟩ _ hk5
      have kg := kJ hk5
      have Kg : Kp b g5 := K5.trans kg
      refine Rn.testsOne (Rn.testVal ?_)
      walk_at "ev"
      walk_at "ev"
      walk_at "ev"
      refine Rn.argsCons (Pv.val (Pv.name hL rfl) ?_)
      refine Rn.argsCons (Pv.val (Pv.nameC (f.keeps kg)) ?_)
      refine Rn.argsCons (Pv.val (Pv.nameC (a.t.keeps kg)) ?_)
      walk_at "ev"
      refine ⟨Kg, (law_ahead (hA.le (by omega)) W Kg (HT.keeps (a.kp.trans kg)) hjn hin hm hp).mono ?_⟩
      rintro v g6 ⟨rfl, k6⟩
      refine Rn.truthyB ⟨rfl, k6, fun _ => ?_⟩
      exact Pv.val (Pv.name (hL.keeps k6) rfl) ⟨trivial, Kp.refl _⟩
    · intro g5 ys _ hL5 hD5 hlen hys hk5
      obtain ⟨mC, hmC, _⟩ := hL5
      refine ⟨mC, hmC, fun g7 s7 => ?_⟩
      have hD7 := hD5.ext s7.extBut (Nat.ne_of_lt (Nat.lt_succ_self _))
      have k7 : Kp h5 g7 := fun c o e => s7.extBut c o (fun q => by
        have := Heap.lt_size (j₂ _ _ e)
        rw [q] at this
        exact absurd this (Nat.not_lt.mpr (Nat.le_succ _))) (kJ hk5 c o e)
      have hlr : ys.length = rank ms ps i := hlen
      have hlm : ys.length ≤ ms.length := by
        rw [hlen]; exact Nat.le_trans (List.length_filter_le ..) (Nat.le_of_eq List.length_range)
      walk_at "ev"
      refine Pv.thenI (Pv.lenL hD7 (by omega)) fun u => ?_
      rw [hlr]
      exact ⟨⟨u, rfl⟩, k7⟩
  · intro h5 ys _ hL hD5 hlen hys hk
    have hfl : (List.range ms.length).filter (fun _ => true) = List.range ms.length := by simp
    rw [hfl] at hlen hys
    obtain ⟨a, v₀, f⟩ := hL
    obtain ⟨mC, hmC, _⟩ := a.loc
    have kI : Kp h₁ h5 := fun c o e => hk c o (fun q => by rw [q, hI] at e; cases e) (k₂ _ _ e)
    refine ⟨mC, hmC, fun h7 s7 => ?_⟩
    have k7 : Kp h₁ h7 := fun c o e => s7.extBut c o (fun q => by
        have := Heap.lt_size (k₂ _ _ e)
        rw [q] at this
        exact absurd this (Nat.not_lt.mpr (Nat.le_succ _))) (kI c o e)
    refine ⟨_, ys, rfl, hD5.ext s7.extBut (Nat.ne_of_lt (Nat.lt_succ_self _)), by rw [hlen, List.length_range], fun j y e => ?_, k7⟩
    obtain ⟨i, hij, hy⟩ := hys j y e
    have hjn : j < ms.length := by have := (List.getElem?_eq_some_iff.mp hij).1; simpa using this
    have hij' : i = j := by rw [List.getElem?_range hjn] at hij; exact (Option.some.inj hij).symm
    subst hij'
    exact hy
end
end
section
set_option maxRecDepth 100000
set_option maxHeartbeats 1000000
set_option autoImplicit false
set_option linter.unusedVariables false
section
variable {prog : Program} {w : World} {A : Around} {h b : Heap} {env : Env}
theorem Pv.indexL {l : Addr} {vs : List Value} {is : List Int} {k : Int} {t : Tok} {j : Nat} (H : Lst h l vs) (hi : Ints is vs) (hl : vs.length < 1000) (hj : is[j]? = some k) (hno : ∀ m, m < j → is[m]? ≠ some k) :
    Pv prog w A h (call (.builtin "list.index") [.ref l, .int k t]) (IsI j) :=
  Rn.of fun s Q E es kk => by
    subst es
    obtain ⟨n, e⟩ := H
    have hjl : j < is.length := (List.getElem?_eq_some_iff.mp hj).1
    have hjv : j < vs.length := by rw [hi.1]; exact hjl
    have val : ∀ (m : Nat) (hm : m < vs.length), ∃ u, vs[m] = .int (is.getD m 0) u := fun m hm => by
      obtain ⟨u, e⟩ := hi.2 m _ (List.getElem?_eq_getElem hm)
      exact ⟨u, e⟩
    refine call_meets PySem.F.slot_list_index ⟨_, e, rfl⟩ PySem.F.entry_list_index (PySem.F.args_list_index_2 _ _)
      (PySem.MeetsSeq.list_index l vs.toArray n (.int k t) (fun y => match y with | .int a _ => a == k | _ => false) ?_ j (by simpa using hjv) (by omega) ?_ ?_) ⟨e, kk _ _ _ ⟨rfl, _, rfl⟩⟩
    · intro y hy
      have hy' : y ∈ vs := by simpa using hy
      obtain ⟨m, hm, rfl⟩ := List.getElem_of_mem hy'
      obtain ⟨u, e⟩ := val m hm
      rw [e]
      exact PySem.MeetsSeq.EqGives.int _ _ _ _
    · obtain ⟨u, e⟩ := val j hjv
      have : is.getD j 0 = k := by rw [List.getD_eq_getElem?_getD, hj]; rfl
      simp [e, hj]
    · intro m hm hmj
      have hmv : m < vs.length := by simpa using hm
      obtain ⟨u, e⟩ := val m hmv
      have hml : m < is.length := by rw [← hi.1]; exact hmv
      have : is.getD m 0 ≠ k := fun q => hno m hmj (by rw [List.getD_eq_getElem?_getD, List.getElem?_eq_getElem hml] at q; rw [List.getElem?_eq_getElem hml]; exact congrArg some q)
      simp [e]
      simpa using this
end
section
variable {prog : Program} {w : World} {A : Around} {h b : Heap} {M T : Addr} {ms : List Int} {mvs : List Value} {ps : List (Bool × Nat)} {ix : Nat → Nat}
theorem law_order (hA : Ok 7 A) (W : Wd b) (K : Kp b h) (HM : Lst h M mvs) (hi : Ints ms mvs) (HT : Told h T ms ps) (hm : ms.length < 100) (hp : ps.length < 100)
    (hix : ∀ k, k < ms.length → ix k < ms.length ∧ rank ms ps (ix k) = k ∧ ∀ j, j < ix k → rank ms ps j ≠ k) :
    Rn prog w A h (call (.ref 211) [.ref M, .ref T]) (fun v h' => ∃ D us, v = .ref D ∧ Lst h' D us ∧ Ints ((List.range ms.length).map fun k => ms.getD (ix k) 0) us ∧ Kp h h') := by
  refine Rn.callDefC (k := 6) (n := 46) (binds := [("modes", .ref M), ("told", .ref T)]) (ls := []) hA ((W.fn _ _ _ (by rfl)).keeps K) (W.lim.keeps K)
    (fun _ _ _ _ _ _ _ _ _ => BindsTo.of_eq rfl) (by walk_at "subs") ?_ ?_
  · intro qual cdv L h₁ S₁ hc hA'
    have cM : h₁.IsCell (L + 1) (some (.ref M)) := (hc "modes" (L + 1) rfl).1
    have cT : h₁.IsCell (L + 2) (some (.ref T)) := (hc "told" (L + 2) rfl).1
    have cP : h₁.IsCell (L + 3) none := (hc "places" (L + 3) rfl).1
    have cR : h₁.IsCell (L + 4) none := (hc "ranks" (L + 4) rfl).1
    have K₁ := K.trans S₁.kp
    have HM₁ := HM.keeps S₁.kp
    have O₁ : OS h L M T h₁ := ⟨S₁.loc, S₁.kp, S₁.new, cM, cT⟩
    have hml : mvs.length = ms.length := hi.1
    have nw : ∀ j : Nat, h.get? (L + j) = none := fun j => by
      cases e : h.get? (L + j) with
      | none => rfl
      | some o => exact absurd (Heap.lt_size e) (Nat.not_lt.mpr (Nat.le_trans S₁.new (Nat.le_add_right _ _)))
    have ne : ∀ i j : Nat, i ≠ j → L + i ≠ L + j := fun i j e q => e (Nat.add_left_cancel q)
    refine Rn.cons (Rn.assignName ?_)
    walk_at "ev"
    walk_at "ev"
    walk_at "ev"
    walk_at "ev"
    walk_at "ev"
    walk_at "ev"
    walk_at "ev"
    refine Rn.argsCons (Pv.val (Pv.nameC cM) ?_)
    walk_at "ev"
    refine Pv.thenI (Pv.lenL HM₁ (by omega)) fun tn => ?_
    walk_at "ev"
    refine Rn.range1 fun R h₂ t1 t2 hR hRg k₂ => ?_
    rw [hml] at hRg
    refine Rn.storeC (cP.keeps k₂) fun h₃ cP₃ s₃ => ?_
    have O₃ : OS h L M T h₃ := (O₁.keeps k₂).keep s₃.extBut (nw 3) (ne 3 0 (by decide)) (ne 3 1 (by decide)) (ne 3 2 (by decide))
    have hRL : R ≠ L + 3 := fun e => by subst e; obtain ⟨o, e, _⟩ := cP; rw [hR] at e; cases e
    have hRg₃ : IsRange h₃ R 0 ms.length 1 t1 tn t2 := s₃.extBut _ _ hRL hRg
    have cR₃ : h₃.IsCell (L + 4) none := cellAt (cR.keeps k₂) fun o e => s₃.extBut _ _ (ne 4 3 (by decide)) e
    refine Rn.cons (Rn.assignName ?_)
    refine (order_ranks hA' W K O₃ cP₃ hRg₃ HT hm hp).mono ?_
    rintro _ h₄ ⟨D, us, rfl, hD, hul, hus, k₄⟩
    refine Rn.storeC (cR₃.keeps k₄) fun h₅ cR₅ s₅ => ?_
    have O₅ : OS h L M T h₅ := (O₃.keeps k₄).keep s₅.extBut (nw 4) (ne 4 0 (by decide)) (ne 4 1 (by decide)) (ne 4 2 (by decide))
    have cP₅ : h₅.IsCell (L + 3) (some (.ref R)) := cellAt (cP₃.keeps k₄) fun o e => s₅.extBut _ _ (ne 3 4 (by decide)) e
    have hDL : D ≠ L + 4 := fun e => hD.dat.cell (e ▸ cR₃.keeps k₄)
    have hD₅ := hD.ext s₅.extBut hDL
    have hRL4 : R ≠ L + 4 := fun e => by subst e; obtain ⟨o, e, d⟩ := cR₃; rw [hRg₃] at e; cases e; cases d
    have hRg₅ : IsRange h₅ R 0 ms.length 1 t1 tn t2 := s₅.extBut _ _ hRL4 (k₄ _ _ hRg₃)
    have HM₅ := HM.keeps O₅.kp
    have hius : Ints ((List.range ms.length).map fun i => (rank ms ps i : Int)) us := ⟨by simp [hul], fun i v e => by
      have hil : i < ms.length := by rw [← hul]; exact (List.getElem?_eq_some_iff.mp e).1
      have eg : ((List.range ms.length).map fun i => (rank ms ps i : Int)).getD i 0 = rank ms ps i := by
        rw [List.getD_eq_getElem?_getD, List.getElem?_map, List.getElem?_range hil]; rfl
      rw [eg]; exact hus i v e⟩
    refine Rn.cons (Rn.ret (Rn.listComp (cl := [("ranks", L + 4), ("modes", L + 1)]) ?_))
    refine Pv.val (Pv.nameC cP₅) ?_
    refine Rn.iterRange hRg₅ (by omega) fun J g₂ hJ jit j₂ => ?_
    have hJl : J < g₂.objs.size := Heap.lt_size jit
    refine Rn.compFrame fun g₄ U₄ => ?_
    have gsz : (g₂.push { cls := .type "list", data := .seq #[] }).objs.size = g₂.objs.size + 1 := Heap.size_push ..
    have j₄ : Kp g₂ g₄ := (Kp.push _ _).trans U₄.kp
    have gD₄ : Lst g₄ g₂.objs.size [] := ⟨0, U₄.kp _ _ (Heap.get?_push_size _ rfl)⟩
    have gL₄ := U₄.loc
    rw [gsz] at gL₄
    have jt₄ : IsRangeIter g₄ J ((0 : Nat) : Int) ((ms.length : Int) - (0 : Nat)) 1 := j₄ _ _ (by simpa using jit)
    refine ⟨(Itr.range (x := "k") (pos := default) (n := ms.length) hA'.1 hJl).self 0 g₄ jt₄, ?_⟩
    rw [gsz]
    have kJ : ∀ {g : Heap}, (∀ c o, ¬ c = J → g₂.get? c = some o → g.get? c = some o) → Kp h₅ g := fun k c o e => k c o (fun q => by rw [q, hJ] at e; cases e) (j₂ _ _ e)
    refine RnC.compMap (N := g₂.objs.size) (n := ms.length) (Y := (· = g₂.objs.size + 1)) (h₂ := g₂) (Itr.range hA'.1 hJl) (fun _ => true)
      (fun k y _ => IsI (ms.getD (ix k) 0) y) (fun g => Loc g (g₂.objs.size + 1) []) (fun j g => ∃ t, Loc g (g₂.objs.size + 1) [("k", .int j t)])
      rfl (by omega) (Nat.le_refl _) ?_ ?_ ?_ ?_ ?_ ?_ jt₄ gL₄ gD₄ j₄ ?_
    · rintro c rfl
      exact ⟨Nat.le_succ _, Nat.succ_ne_self _⟩
    · rintro g5 g6 ⟨m, ⟨o, es, ep, ho, r'⟩, r⟩ k
      exact ⟨m, ⟨o, es, ep, k _ _ (fun e => absurd hJl (by rw [← e]; exact Nat.not_lt.mpr (Nat.le_succ _))) (Nat.succ_ne_self _) ho, r'⟩, r⟩
    · rintro j g5 ⟨u, hL⟩
      exact hL.sub (by walk_at "subs")
    · intro _ _ _ _ H _
      exact H
    · rintro j v g5 hjn hL ⟨u, rfl⟩
      exact Rn.assignT (Rn.storeName hL fun g6 hL6 s6 => ⟨⟨u, hL6⟩, fun c o hc e => s6.extBut c o hc e⟩)
    · rintro j g5 hjn ⟨u, hL⟩ _ hk5
      have kg := kJ hk5
      obtain ⟨hx1, hx2, hx3⟩ := hix j hjn
      refine Rn.testsNil ⟨rfl, Kp.refl _, fun _ => ?_⟩
      refine Rn.subscript (Pv.val (Pv.nameC (O₅.m.keeps kg)) ?_)
      refine Rn.method PySem.F.plainAttrs_list PySem.F.slot_list_index PySem.F.type_list_index ?_
      refine Pv.val (Pv.nameC (cR₅.keeps kg)) ⟨fun s e => (hD₅.keeps kg).meth s e, Rn.cwM1 ?_⟩
      refine Pv.val (Pv.name hL rfl) ?_
      refine Pv.then (Pv.indexL (j := ix j) (hD₅.keeps kg) hius (by omega) ?_ ?_) ?_
      · rw [List.getElem?_map, List.getElem?_range hx1]
        exact congrArg (fun z : Nat => some (z : Int)) hx2
      · intro m hm' q
        rw [List.getElem?_map, List.getElem?_range (Nat.lt_trans hm' hx1)] at q
        have := Option.some.inj q
        exact hx3 m hm' (Int.ofNat.inj this)
      rintro _ ⟨v, rfl⟩
      have hlt : ix j < mvs.length := by rw [hml]; exact hx1
      refine Pv.val (Pv.itemList (x := mvs[ix j]) (HM₅.keeps kg) (by omega) (by omega) (by simp)) ⟨hi.2 _ _ (List.getElem?_eq_getElem hlt), Kp.refl _⟩
    · intro g5 ys _ hL5 hD5 hlen hys hk5
      obtain ⟨mC, hmC, _⟩ := hL5
      have hfl : (List.range ms.length).filter (fun _ => true) = List.range ms.length := by simp
      rw [hfl] at hlen hys
      refine ⟨mC, hmC, fun g7 s7 => ?_⟩
      have hD7 := hD5.ext s7.extBut (Nat.ne_of_lt (Nat.lt_succ_self _))
      have k7 : Kp h₅ g7 := fun c o e => s7.extBut c o (fun q => by
        have := Heap.lt_size (j₂ _ _ e)
        rw [q] at this
        exact absurd this (Nat.not_lt.mpr (Nat.le_succ _))) (kJ hk5 c o e)
      refine ⟨_, ys, rfl, hD7, ⟨by simp [hlen], fun j y e => ?_⟩, O₅.kp.trans k7⟩
      obtain ⟨i, hij, hy⟩ := hys j y e
      have hjn : j < ms.length := by have := (List.getElem?_eq_some_iff.mp hij).1; simpa using this
      have hij' : i = j := by rw [List.getElem?_range hjn] at hij; exact (Option.some.inj hij).symm
      subst hij'
      have eg : ((List.range ms.length).map fun k => ms.getD (ix k) 0).getD i 0 = ms.getD (ix i) 0 := by
        rw [List.getD_eq_getElem?_getD, List.getElem?_map, List.getElem?_range hjn]; rfl
      rw [eg]; exact hy
  · intro N x hx
    simp only [List.mem_cons, List.not_mem_nil, or_false] at hx
    rcases hx with rfl | rfl <;> exact .inr ⟨rfl, rfl⟩
end
end
section
open PySem PySem.W PyProof.Rows
set_option autoImplicit false
set_option linter.unusedVariables false
theorem ahd_asym (ms : List Int) : ∀ (r : List (Bool × Nat)) (i j : Nat), ahd ms r i j = true → ahd ms r j i = false
  | [], i, j, h => by
    simp only [ahd, decide_eq_true_eq, decide_eq_false_iff_not] at h ⊢
    omega
  | (fl, d) :: r, i, j, h => by
    simp only [ahd] at h ⊢
    by_cases e : kD d (ms.getD i 0) = kD d (ms.getD j 0)
    · rw [if_pos e] at h
      rw [if_pos e.symm]
      exact ahd_asym ms r i j h
    · rw [if_neg e] at h
      rw [if_neg (Ne.symm e)]
      have h1 : kD d (ms.getD i 0) < kD d (ms.getD j 0) → ¬ kD d (ms.getD j 0) < kD d (ms.getD i 0) := fun a b => List.lt_irrefl _ (List.lt_trans a b)
      have h2 : ¬ kD d (ms.getD i 0) < kD d (ms.getD j 0) → kD d (ms.getD j 0) < kD d (ms.getD i 0) := fun a => Decidable.byContradiction fun b => e (lt_total a b)
      cases fl
      · simp only [Bool.bne_false, decide_eq_true_eq, decide_eq_false_iff_not] at h ⊢
        exact h1 h
      · simp only [Bool.bne_true, Bool.not_eq_true', decide_eq_false_iff_not, Bool.not_eq_false', decide_eq_true_eq] at h ⊢
        exact h2 h
/-- the places' order after the passes, the last pass first -/
def pls (ms : List Int) : List (Bool × Nat) → List Nat
  | [] => List.range ms.length
  | (fl, d) :: r => isort (onP (cK fl (kD d)) ms) (pls ms r)
theorem pls_perm (ms : List Int) : ∀ r, (pls ms r).Perm (List.range ms.length)
  | [] => .refl _
  | (fl, d) :: r => (isort_perm _ _).trans (pls_perm ms r)
theorem pls_sorted (ms : List Int) : ∀ r, (pls ms r).Pairwise fun i j => ahd ms r i j = true
  | [] => (List.pairwise_lt_range).imp fun h => by simpa [ahd] using h
  | (fl, d) :: r => by
    refine (isort_sorted (onP_so (cK_so fl (kD d)) ms) (pls ms r) (pls_sorted ms r)).imp ?_
    intro i j h
    simp only [ahd]
    have h1 : kD d (ms.getD i 0) < kD d (ms.getD j 0) → ¬ kD d (ms.getD j 0) < kD d (ms.getD i 0) := fun a b => List.lt_irrefl _ (List.lt_trans a b)
    by_cases e : kD d (ms.getD i 0) = kD d (ms.getD j 0)
    · rw [if_pos e]
      rcases h with h | h
      · exfalso
        unfold onP cK kc at h
        rw [e] at h
        simp at h
        exact List.lt_irrefl _ h
      · exact h.2
    · rw [if_neg e]
      have h2 : ¬ kD d (ms.getD i 0) < kD d (ms.getD j 0) → kD d (ms.getD j 0) < kD d (ms.getD i 0) := fun a => Decidable.byContradiction fun b => e (lt_total a b)
      cases fl
      · simp only [Bool.bne_false, decide_eq_true_eq]
        rcases h with h | h
        · exact of_decide_eq_true h
        · exact Decidable.byContradiction fun a => of_decide_eq_false h.1 (h2 a)
      · simp only [Bool.bne_true, Bool.not_eq_true', decide_eq_false_iff_not]
        rcases h with h | h
        · exact fun a => h1 a (of_decide_eq_true h)
        · exact fun a => of_decide_eq_false h.1 a
theorem pls_row (ms : List Int) (fl : Bool) (d : Nat) (r : List (Bool × Nat)) : (pls ms ((fl, d) :: r)).map (fun i => ms.getD i 0) = isort (cK fl (kD d)) ((pls ms r).map fun i => ms.getD i 0) :=
  isort_map _ _ fun _ _ _ _ => rfl
theorem cnt_sorted {r : Nat → Nat → Bool} (as : ∀ i j, r i j = true → r j i = false) : ∀ (l : List Nat) (k : Nat) (x : Nat), l.Pairwise (fun i j => r i j = true) → l[k]? = some x → (l.filter fun j => r j x).length = k
  | [], k, x, _, e => by simp at e
  | y :: ys, 0, x, h, e => by
    have h' := List.pairwise_cons.mp h
    have : y = x := by simpa using e
    subst this
    have e1 : r y y = false := by cases q : r y y with | false => rfl | true => exact absurd (as _ _ q) (by rw [q]; decide)
    rw [List.length_eq_zero_iff, List.filter_eq_nil_iff]
    intro z hz
    rcases List.mem_cons.mp hz with rfl | hz
    · simp [e1]
    · simp [as _ _ (h'.1 z hz)]
  | y :: ys, k + 1, x, h, e => by
    have h' := List.pairwise_cons.mp h
    have e' : ys[k]? = some x := by simpa using e
    rw [List.filter_cons_of_pos (p := fun j => r j x) (h'.1 x (List.mem_of_getElem? e')), List.length_cons, cnt_sorted as ys k x h'.2 e']
theorem rank_pls (ms : List Int) (ps : List (Bool × Nat)) (k : Nat) (hk : k < ms.length) : (pls ms ps.reverse).getD k 0 < ms.length ∧ rank ms ps ((pls ms ps.reverse).getD k 0) = k ∧ ∀ j, j < (pls ms ps.reverse).getD k 0 → rank ms ps j ≠ k := by
  have hp := pls_perm ms ps.reverse
  have hl : (pls ms ps.reverse).length = ms.length := by rw [hp.length_eq, List.length_range]
  have rk : ∀ k x, (pls ms ps.reverse)[k]? = some x → rank ms ps x = k := fun k x e => by
    rw [rank, ← (hp.filter _).length_eq]
    exact cnt_sorted (ahd_asym ms _) _ k x (pls_sorted ms _) e
  have hk' : k < (pls ms ps.reverse).length := by rw [hl]; exact hk
  have e : (pls ms ps.reverse)[k]? = some ((pls ms ps.reverse).getD k 0) := by rw [List.getD_eq_getElem?_getD, List.getElem?_eq_getElem hk']; rfl
  have hx : (pls ms ps.reverse).getD k 0 < ms.length := List.mem_range.mp (hp.mem_iff.mp (List.mem_of_getElem? e))
  refine ⟨hx, rk _ _ e, fun j hj q => ?_⟩
  have hj' : j ∈ pls ms ps.reverse := hp.mem_iff.mpr (List.mem_range.mpr (Nat.lt_trans hj hx))
  obtain ⟨m, hm, hmj⟩ := List.getElem_of_mem hj'
  have em : (pls ms ps.reverse)[m]? = some j := by rw [List.getElem?_eq_getElem hm, hmj]
  have hmk : m = k := by rw [← rk _ _ em, q]
  rw [hmk, e] at em
  exact absurd (Option.some.inj em) (Nat.ne_of_gt hj)
/-- the order as _law_order gives it is the row -/
theorem order_row (ms : List Int) (r : List (Bool × Nat)) : ((List.range ms.length).map fun k => ms.getD ((pls ms r).getD k 0) 0) = (pls ms r).map fun i => ms.getD i 0 := by
  have hl : (pls ms r).length = ms.length := by rw [(pls_perm ms r).length_eq, List.length_range]
  apply List.ext_getElem
  · simp [hl]
  · intro i h1 h2
    have hi : i < (pls ms r).length := by simpa using h2
    simp [List.getD_eq_getElem?_getD, List.getElem?_eq_getElem hi]
end
section
open PySem PySem.Calls PySem.W PyProof.Rows PyProof.V PySem.SeqAt
set_option maxRecDepth 100000
set_option autoImplicit false
set_option linter.unusedVariables false
/-- a key as data -/
def dK (κ : Nat) (k : List Nat) : PyData := match κ with
  | 0 => .bool (decide (k = [1]))
  | 1 => .int (k.headD 0 : Nat)
  | _ => .str ⟨k.toArray⟩
theorem IsK.reads {h : Heap} {κ : Nat} {k : List Nat} {v : Value} (H : IsK κ k v) : Reads h v (dK κ k) [] := by
  match κ, H with
  | 0, H =>
    obtain ⟨c, rfl, rfl⟩ := H
    cases c
    · exact Reads.bool false
    · exact Reads.bool true
  | 1, H =>
    obtain ⟨n, t, rfl, rfl⟩ := H
    exact Reads.int _ _
  | (n + 2), H =>
    obtain ⟨x, t, rfl, rfl⟩ := H
    exact Reads.str _ _
def flatD (d : PyData) : Prop := d.canLay0 = true ∧ d.depth ≤ 1 ∧ noMix d d = true ∧ PySem.Spec.same d d = true
theorem readsAll_of {h : Heap} : ∀ {vs : List Value} {ds : List PyData}, vs.length = ds.length → (∀ (i : Nat) v d, vs[i]? = some v → ds[i]? = some d → Reads h v d []) → ReadsAll h vs ds []
  | [], [], _, _ => .nil
  | v :: vs, d :: ds, hl, H => by
    have := ReadsAll.cons (H 0 v d rfl rfl) (readsAll_of (h := h) (vs := vs) (ds := ds) (by simpa using hl) fun i v d e e' => H (i + 1) v d (by simpa using e) (by simpa using e'))
    simpa using this
theorem flat_all : ∀ {ds : List PyData}, (∀ d ∈ ds, flatD d) → PyData.canLayAll0 ds = true ∧ PyData.depthAll ds ≤ 1 ∧ noMixAll ds ds = true ∧ PySem.Spec.sameAll ds ds = true
  | [], _ => by simp [PyData.canLayAll0, PyData.depthAll, noMixAll, PySem.Spec.sameAll]
  | d :: ds, H => by
    obtain ⟨a, b, c, e⟩ := H d (.head _)
    obtain ⟨a', b', c', e'⟩ := flat_all (ds := ds) fun x hx => H x (.tail _ hx)
    simp only [PyData.canLayAll0, PyData.depthAll, noMixAll, PySem.Spec.sameAll, a, a', c, c', e, e', Bool.and_self, true_and, and_true]
    omega
section
variable {prog : Program} {w : World} {A : Around} {h b : Heap} {env : Env}
theorem Pv.neSame {l m : Addr} {vs us : List Value} {ds : List PyData} {k : Nat} (hA : Ok k A) (H : Lst h l vs) (H' : Lst h m us) (hv : ReadsAll h vs ds []) (hu : ReadsAll h us ds []) (hd : ∀ d ∈ ds, flatD d) :
    Pv prog w A h (compareOp .NotEq (.ref l) (.ref m)) (· = .bool false) :=
  Rn.of fun s Q E es kk => by
    subst es
    obtain ⟨n, e⟩ := H
    obtain ⟨n', e'⟩ := H'
    obtain ⟨a1, a2, a3, a4⟩ := flat_all hd
    have sh : shaped (.list ds) = true := by
      have h2 : PyData.depth (.list ds) ≤ 64 := by simp only [PyData.depth]; omega
      show (PyData.canLay0 (.list ds) && decide (PyData.depth (.list ds) ≤ 64)) = true
      rw [Bool.and_eq_true]
      exact ⟨by simp only [PyData.canLay0]; exact a1, decide_eq_true h2⟩
    refine ne_dataH_same (Reads.list e rfl rfl (by simpa using hv)) (Reads.list e' rfl rfl (by simpa using hu)) sh sh ?_ (by simp only [noMix]; exact a3) (by simp only [PySem.Spec.same]; rw [a4]; exact kk _ _ s.toks ⟨rfl, rfl⟩)
    have := hA.2.2
    show A.units + 64 < 9900
    omega
theorem Rn.addT {l m : Addr} {vs us : List Value} {P : Value → Heap → Prop} (H : Tup h l vs) (H' : Tup h m us) (hv : vs ≠ []) (hu : us ≠ []) (hz : vs.length + us.length < 1000) (k : ∀ D h', h.get? D = none → Tup h' D (vs ++ us) → Kp h h' → P (.ref D) h') : Rn prog w A h (binaryOp .Add (.ref l) (.ref m)) P := by
  obtain ⟨⟨cls, dd, data, sl⟩, ho, hc, n, hd⟩ := H
  obtain ⟨⟨cls2, dd2, data2, sl2⟩, ho2, hc2, n2, hd2⟩ := H'
  simp only at hc hd hc2 hd2
  subst hc hd hc2 hd2
  refine Rn.of fun s Q E es kk => ?_
  subst es
  refine concat_meets ⟨_, ho, rfl⟩ ⟨_, ho2, rfl⟩ noFill_tuple_add seq_tuple_add PySem.F.slot_tuple_add PySem.F.entry_tuple_add (PySem.F.args_tuple_add_2 _ _)
    (tuple_addW2 l m vs.toArray us.toArray n n2 dd dd2 sl sl2 (by simpa using hv) (by simpa using hu) (by rw [List.size_toArray, List.size_toArray, sizeLine_eq]; omega)) ⟨ho, ho2, kk _ _ s.toks (k _ _ (fresh_size _) ⟨_, Heap.get?_push_size _ rfl, rfl, 0, ?_⟩ (Kp.push _ _))⟩
  simp
theorem Pv.isBool {κ : Nat} {k : List Nat} {v : Value} (H : IsK κ k v) : Pv prog w A h (call (.builtin "isinstance") [v, .type "bool"]) (· = .bool (κ == 0)) :=
  Rn.of fun s Q E es kk => by
    subst es
    match κ, H with
    | 0, H =>
      obtain ⟨c, rfl, rfl⟩ := H
      exact PySem.IsiPair.bool_bool (kk _ _ s.toks ⟨rfl, rfl⟩)
    | 1, H =>
      obtain ⟨n, t, rfl, rfl⟩ := H
      exact PySem.IsiPair.int_bool (kk _ _ _ ⟨rfl, rfl⟩)
    | (n + 2), H =>
      obtain ⟨x, t, rfl, rfl⟩ := H
      exact PySem.IsiPair.str_bool (kk _ _ _ ⟨rfl, rfl⟩)
end
theorem flat_bool (b : Bool) : flatD (.bool b) := ⟨rfl, by simp [PyData.depth], rfl, by simp [PySem.Spec.same]⟩
theorem flat_int (i : Int) : flatD (.int i) := ⟨rfl, by simp [PyData.depth], rfl, by simp [PySem.Spec.same]⟩
theorem lawTxt_ok (m : Int) : ∀ c ∈ lawTxt m, c < 0x110000 := by
  have g : ∀ (l : List Nat) (i : Nat), (∀ c ∈ l, c < 0x110000) → l.getD i 0 < 0x110000 := fun l i H => by
    rw [List.getD_eq_getElem?_getD]
    cases e : l[i]? with
    | none => decide
    | some c => exact H c (List.mem_of_getElem? e)
  have p : ∀ f a (e : Str), (∀ c ∈ e.cps.toList, c < 0x110000) → ∀ c ∈ part m f a e, c < 0x110000 := fun f a e H c hc => by
    simp only [part, List.mem_cons, List.not_mem_nil, or_false] at hc
    rcases hc with rfl | rfl | rfl
    · exact g _ _ (by decide)
    · exact g _ _ (by decide)
    · exact g _ _ H
  intro c hc
  simp only [lawTxt, List.mem_cons, List.mem_append] at hc
  rcases hc with rfl | hc | hc | hc
  · exact g _ _ (by decide)
  · exact p _ _ _ (by decide) c hc
  · exact p _ _ _ (by decide) c hc
  · exact p _ _ _ (by decide) c hc
theorem flat_kD (d : Nat) (m : Int) : flatD (dK (κD d) (kD d m)) := by
  unfold κD kD
  by_cases h7 : d < 7
  · simp only [h7, if_true]
    exact flat_bool _
  · by_cases h9 : d = 9
    · subst h9
      show flatD (.str ⟨(lawTxt m).toArray⟩)
      refine ⟨?_, by simp [PyData.depth], rfl, by simp [PySem.Spec.same]⟩
      show PySem.PyData.strOk ⟨(lawTxt m).toArray⟩ = true
      unfold PySem.PyData.strOk
      simp only [List.all_toArray, List.all_eq_true, decide_eq_true_eq]
      exact lawTxt_ok m
    · simp only [h7, h9, if_false]
      exact flat_int _
end
section
set_option maxRecDepth 100000
set_option maxHeartbeats 1000000
set_option autoImplicit false
set_option linter.unusedVariables false
section
variable {prog : Program} {w : World} {A : Around} {h b : Heap} {env : Env}
/-- a comprehension over a list, without tests: what stood stands -/
theorem Rn.compOver {elt iter : Expr} {x : Str} {p pos : Pos} {scope : Scope} {cl : List (Str × Addr)} {M : Addr} {vs : List Value} (F : Nat → Value → Prop)
    (hA : A.handled = none) (hM : Lst h M vs) (hz : vs.length < 1000) (hit : Pv prog w A h (eval iter env) (· = .ref M))
    (helt : ∀ (i : Nat) (v : Value) (C : Addr) (g : Heap), vs[i]? = some v → Kp h g → Loc g C [(x, v)] →
      Rn prog w A g (eval elt { newEnv scope C env.globals cl env.qual none .none (some env) builtinsNs with scope := relabel scope env }) (fun y g' => F i y ∧ Kp g g'))
    (hlx : ∀ C, ({ newEnv scope C env.globals cl env.qual none .none (some env) builtinsNs with scope := relabel scope env } : Env).kindOf x = some .local := by intro _; rfl)
    (hkx : ∀ C, ({ newEnv scope C env.globals cl env.qual none .none (some env) builtinsNs with scope := relabel scope env } : Env).scope.kind = .function := by intro _; rfl)
    (hclos : closureFor scope env = Pure.pure cl := by rfl) (hkind : scope.kind = .function := by rfl) (hnames : ∀ x ∈ scope.names, x.2 = .local → scope.names.lookup x.1 = some .local := by decide)
    (hs : ∀ x, foldedSetIterable iter env x = Pure.pure x := by intro _; rfl) (hc : ∀ x ∈ scope.names, x.2 ≠ .cell := by decide) :
    Rn prog w A h (eval (.ListComp elt [⟨.Name x p, iter, [], 0⟩] scope pos) env)
      (fun v h' => ∃ D ys, v = .ref D ∧ h.get? D = none ∧ Lst h' D ys ∧ ys.length = vs.length ∧ (∀ (i : Nat) y, ys[i]? = some y → F i y) ∧ Kp h h') := by
  refine Rn.listComp (cl := cl) ?_ hclos hkind hnames hs
  refine Pv.val hit ?_
  refine Rn.iterListX hM fun J g₂ hJ jit j₂ => ?_
  have hM₂ := hM.keeps j₂
  have hJl : J < g₂.objs.size := let ⟨o, e, _⟩ := jit; Heap.lt_size e
  have hMJ : M ≠ J := fun e => by subst e; obtain ⟨n, e⟩ := hM; rw [hJ] at e; cases e
  refine Rn.compFrame (fun g₄ U₄ => ?_) hc hkind
  have gsz : (g₂.push { cls := .type "list", data := .seq #[] }).objs.size = g₂.objs.size + 1 := Heap.size_push ..
  have j₄ : Kp g₂ g₄ := (Kp.push _ _).trans U₄.kp
  have gD₄ : Lst g₄ g₂.objs.size [] := ⟨0, U₄.kp _ _ (Heap.get?_push_size _ rfl)⟩
  have gL₄ := U₄.loc
  rw [gsz] at gL₄
  have jt₄ : g₄.IsListIter J M 0 ∧ Lst g₄ M vs := ⟨let ⟨o, e, r⟩ := jit; ⟨o, j₄ _ _ e, r⟩, hM₂.keeps j₄⟩
  have T : Itr prog w A (.Name x p) J g₂.objs.size vs.length (· = J) (fun i v _ => vs[i]? = some v) (fun i h => h.IsListIter J M i ∧ Lst h M vs) (fun _ => True) :=
    Itr.list hA hJl hM₂.lt hMJ go_name
  refine ⟨T.self 0 g₄ jt₄, ?_⟩
  rw [gsz]
  have kJ : ∀ {g : Heap}, (∀ c o, ¬ c = J → g₂.get? c = some o → g.get? c = some o) → Kp h g := fun k c o e => k c o (fun q => by rw [q, hJ] at e; cases e) (j₂ _ _ e)
  refine RnC.compMap (N := g₂.objs.size) (n := vs.length) (Y := (· = g₂.objs.size + 1)) (h₂ := g₂) T (fun _ => true)
    (fun k y _ => F k y) (fun g => Loc g (g₂.objs.size + 1) []) (fun j g => ∃ v, vs[j]? = some v ∧ Loc g (g₂.objs.size + 1) [(x, v)])
    rfl hz (Nat.le_refl _) ?_ ?_ ?_ ?_ ?_ ?_ jt₄ gL₄ gD₄ j₄ ?_
  · rintro c rfl
    exact ⟨Nat.le_succ _, Nat.succ_ne_self _⟩
  · rintro g5 g6 ⟨m, ⟨o, es, ep, ho, r'⟩, r⟩ k
    exact ⟨m, ⟨o, es, ep, k _ _ (fun e => absurd hJl (by rw [← e]; exact Nat.not_lt.mpr (Nat.le_succ _))) (Nat.succ_ne_self _) ho, r'⟩, r⟩
  · rintro j g5 ⟨u, _, hL⟩
    exact hL.sub (by intro p hp; cases hp)
  · intro _ _ _ _ H _
    exact H
  · rintro j v g5 hjn hL hv
    exact Rn.assignT (Rn.storeName hL (fun g6 hL6 s6 => ⟨⟨v, hv, hL6⟩, fun c o hc e => s6.extBut c o hc e⟩) (hlx _) (hkx _))
  · rintro j g5 hjn ⟨u, hu, hL⟩ _ hk5
    exact Rn.testsNil ⟨rfl, Kp.refl _, fun _ => helt j u _ g5 hu (kJ hk5) hL⟩
  · intro g5 ys _ hL5 hD5 hlen hys hk5
    obtain ⟨mC, hmC, _⟩ := hL5
    have hfl : (List.range vs.length).filter (fun _ => true) = List.range vs.length := by simp
    rw [hfl] at hlen hys
    refine ⟨mC, hmC, fun g7 s7 => ?_⟩
    have hD7 := hD5.ext s7.extBut (Nat.ne_of_lt (Nat.lt_succ_self _))
    have k7 : Kp h g7 := fun c o e => s7.extBut c o (fun q => by
      have := Heap.lt_size (j₂ _ _ e)
      rw [q] at this
      exact absurd this (Nat.not_lt.mpr (Nat.le_succ _))) (kJ hk5 c o e)
    refine ⟨_, ys, rfl, ?_, hD7, by rw [hlen, List.length_range], fun j y e => ?_, k7⟩
    · cases e : h.get? g₂.objs.size with
      | none => rfl
      | some o => exact absurd (Heap.lt_size (j₂ _ _ e)) (Nat.lt_irrefl _)
    · obtain ⟨i, hij, hy⟩ := hys j y e
      have hjn : j < vs.length := by have := (List.getElem?_eq_some_iff.mp hij).1; simpa using this
      have hij' : i = j := by rw [List.getElem?_range hjn] at hij; exact (Option.some.inj hij).symm
      subst hij'
      exact hy
end
end
section
set_option maxRecDepth 100000
set_option maxHeartbeats 1000000
set_option autoImplicit false
set_option linter.unusedVariables false
/-- a list or a tuple -/
def Sq (h : Heap) (c : Addr) : Prop := ∃ o, h.get? c = some o ∧ ∃ xs n, o.data = .seq xs n
theorem Sq.dat {h : Heap} {c : Addr} (S : Sq h c) : Dat h c := let ⟨o, e, r⟩ := S; ⟨o, e, .inl r⟩
theorem Lst.sq {h : Heap} {l : Addr} {vs : List Value} (H : Lst h l vs) : Sq h l := let ⟨n, e⟩ := H; ⟨_, e, _, n, rfl⟩
theorem Tup.sq {h : Heap} {l : Addr} {vs : List Value} (H : Tup h l vs) : Sq h l := let ⟨o, e, _, n, hd⟩ := H; ⟨o, e, _, n, hd⟩
theorem Sq.iter {h : Heap} {c l : Addr} {i : Nat} (S : Sq h c) (H : h.IsListIter c l i) : False := by
  obtain ⟨o, e, xs, n, r⟩ := S
  obtain ⟨o', e', _, hd⟩ := H
  rw [e] at e'; cases e'
  rw [hd] at r; cases r
/-- what stands for law's things -/
structure LD (ms : List Int) (mvs xvs : List Value) (M F T R D : Addr) (ps : List (Bool × Nat)) (is : List Int) (h : Heap) : Prop where
  m : Lst h M mvs
  f : Tup h F (fD.map .ref)
  t : Told h T ms ps
  r : ∃ rvs, Lst h R rvs ∧ Ints is rvs
  d : Lst h D xvs
section
variable {ms : List Int} {mvs xvs : List Value} {M F T R D : Addr} {ps : List (Bool × Nat)} {is : List Int} {h h' : Heap}
theorem LD.sq (H : LD ms mvs xvs M F T R D ps is h) (k : ∀ c o, Sq h c → h.get? c = some o → h'.get? c = some o) : LD ms mvs xvs M F T R D ps is h' := by
  obtain ⟨m, f, ⟨ts, t1, t2, t3⟩, ⟨rvs, r1, r2⟩, d⟩ := H
  have L : ∀ {l : Addr} {vs : List Value}, Lst h l vs → Lst h' l vs := fun H => let ⟨n, e⟩ := id H; ⟨n, k _ _ H.sq e⟩
  have U : ∀ {l : Addr} {vs : List Value}, Tup h l vs → Tup h' l vs := fun H => H.at fun o e => k _ o H.sq e
  refine ⟨L m, U f, ⟨ts, L t1, t2, fun i v p e e' => ?_⟩, ⟨rvs, L r1, r2⟩, L d⟩
  obtain ⟨tu, K, kvs, e1, e2, e3, r⟩ := t3 i v p e e'
  exact ⟨tu, K, kvs, e1, U e2, L e3, r⟩
theorem LD.keeps (H : LD ms mvs xvs M F T R D ps is h) (k : Kp h h') : LD ms mvs xvs M F T R D ps is h' := H.sq fun c o _ e => k c o e
/-- no list of plain things is the told list -/
theorem Told.ne {l : Addr} {vs : List Value} (H : Told h T ms ps) (Hl : Lst h l vs) {v : Value} (h0 : vs[0]? = some v) (hv : ∀ a, v ≠ .ref a) : l ≠ T := by
  rintro rfl
  obtain ⟨ts, t1, t2, t3⟩ := H
  have e := Hl.inj t1
  subst e
  have hl : 0 < ps.length := by rw [← t2]; exact (List.getElem?_eq_some_iff.mp h0).1
  obtain ⟨tu, K, kvs, e1, _⟩ := t3 0 v _ h0 (List.getElem?_eq_getElem hl)
  exact hv _ e1
theorem Ints.ne {vs : List Value} (H : Ints is vs) (hl : 0 < is.length) : ∃ v, vs[0]? = some v ∧ ∀ a, v ≠ .ref a := by
  have hl' : 0 < vs.length := by rw [H.1]; exact hl
  obtain ⟨t, e⟩ := H.2 0 _ (List.getElem?_eq_getElem hl')
  exact ⟨_, List.getElem?_eq_getElem hl', fun a q => by rw [e] at q; cases q⟩
theorem IsK.nref {κ : Nat} {k : List Nat} {v : Value} (H : IsK κ k v) (a : Addr) : v ≠ .ref a := by
  unfold IsK at H
  split at H
  · obtain ⟨c, rfl, _⟩ := H; exact fun q => by cases q
  · obtain ⟨c, t, rfl, _⟩ := H; exact fun q => by cases q
  · obtain ⟨c, t, rfl, _⟩ := H; exact fun q => by cases q
/-- one more pass is told -/
theorem LD.told {tu K : Addr} {kvs ts : List Value} {p : Bool × Nat} {xs : List Int} (H : LD ms mvs xvs M F T R D ps is h) (hts : Lst h T ts) (x : Heap.ExtBut T h h') (Ht : Lst h' T (ts ++ [.ref tu])) (htu : Tup h tu [.bool p.1, .ref K]) (hK : Lst h K kvs)
    (hkn : kvs.length = ms.length) (hks : ∀ (j : Nat) kv, kvs[j]? = some kv → IsK (κD p.2) (kD p.2 (ms.getD j 0)) kv) (hm : 0 < ms.length) (hi : Ints ms mvs) (his : 0 < is.length) (hxi : Ints xs xvs) (hx : 0 < xs.length) :
    LD ms mvs xvs M F T R D (ps ++ [p]) is h' := by
  have H' := H
  obtain ⟨m, f, ⟨ts', t1, t2, t3⟩, ⟨rvs, r1, r2⟩, d⟩ := H
  have e := t1.inj hts
  subst e
  have hT := H'.t
  have nM : M ≠ T := let ⟨v, a, b⟩ := hi.ne hm; hT.ne m a b
  have nR : R ≠ T := let ⟨v, a, b⟩ := r2.ne his; hT.ne r1 a b
  have nD : D ≠ T := let ⟨v, a, b⟩ := hxi.ne hx; hT.ne d a b
  have nK : ∀ {K : Addr} {kvs : List Value} {q : Bool × Nat}, Lst h K kvs → kvs.length = ms.length → (∀ (j : Nat) kv, kvs[j]? = some kv → IsK (κD q.2) (kD q.2 (ms.getD j 0)) kv) → K ≠ T := fun hK hl hk => by
    have h0 := List.getElem?_eq_getElem (show 0 < _ by rw [hl]; exact hm)
    exact hT.ne hK h0 (hk 0 _ h0).nref
  refine ⟨m.ext x nM, f.ext x t1, ⟨_, Ht, by simp [t2], fun i v q e e' => ?_⟩, ⟨rvs, r1.ext x nR, r2⟩, d.ext x nD⟩
  by_cases hil : i < ts'.length
  · rw [List.getElem?_append_left hil] at e
    rw [List.getElem?_append_left (by omega)] at e'
    obtain ⟨tu', K', kvs', e1, e2, e3, e4, e5⟩ := t3 i v q e e'
    exact ⟨tu', K', kvs', e1, e2.ext x t1, e3.ext x (nK e3 e4 e5), e4, e5⟩
  · have hi0 : i = ts'.length := by
      have := (List.getElem?_eq_some_iff.mp e).1
      simp at this
      omega
    subst hi0
    rw [List.getElem?_append_right (Nat.le_refl _)] at e
    rw [t2, List.getElem?_append_right (Nat.le_refl _)] at e'
    simp at e e'
    subst e e'
    exact ⟨tu, K, kvs, rfl, htu.ext x t1, hK.ext x (nK hK hkn hks), hkn, hks⟩
end
/-- law's frame -/
structure LS (b h : Heap) (A : Around) (L F I D : Addr) (vx : Option Value) (k : Nat) (h' : Heap) (ls : List (Str × Value)) : Prop where
  st : St h (fun a => a ∈ ([] : List Addr)) L h' ls
  cf : h'.IsCell (L + 1) (some (.ref F))
  cx : h'.IsCell (L + 2) vx
  it : h'.IsListIter I D k
  fm : Fms b A h' [L]
section
variable {b h h' h'' : Heap} {A : Around} {L F I D : Addr} {vx : Option Value} {k : Nat} {ls : List (Str × Value)}
theorem LS.keeps (S : LS b h A L F I D vx k h' ls) (x : Kp h' h'') : LS b h A L F I D vx k h'' ls :=
  ⟨S.st.keeps x, S.cf.keeps x, S.cx.keeps x, let ⟨o, e, r⟩ := S.it; ⟨o, x _ _ e, r⟩, S.fm.keeps x⟩
theorem LS.kp (S : LS b h A L F I D vx k h' ls) : Kp h h' := fun a o e => S.st.ext a o (by simp) e
theorem LS.sub {l' : List (Str × Value)} (S : LS b h A L F I D vx k h' ls) (hs : ∀ p ∈ l', ls.lookup p.1 = some p.2) : LS b h A L F I D vx k h' l' := ⟨S.st.sub hs, S.cf, S.cx, S.it, S.fm⟩
theorem iterL_at {h h' : Heap} {I D : Addr} {k : Nat} (H : h.IsListIter I D k) (x : ∀ o, h.get? I = some o → h'.get? I = some o) : h'.IsListIter I D k := let ⟨o, e, r⟩ := H; ⟨o, x _ e, r⟩
/-- a list or tuple turned -/
theorem LS.list {c : Addr} (S : LS b h A L F I D vx k h' ls) (x : Heap.ExtBut c h' h'') (hc : Sq h' c) (h0 : h.get? c = none) : LS b h A L F I D vx k h'' ls := by
  have nL : L ≠ c := fun q => by subst q; obtain ⟨m, hm, _⟩ := S.st.loc; exact hc.dat.ns hm
  have n1 : L + 1 ≠ c := fun q => by subst q; exact hc.dat.cell S.cf
  have n2 : L + 2 ≠ c := fun q => by subst q; exact hc.dat.cell S.cx
  have nI : I ≠ c := fun q => by subst q; exact hc.iter S.it
  exact ⟨S.st.other x nL (.inr h0), cellAt S.cf fun o e => x _ _ n1 e, cellAt S.cx fun o e => x _ _ n2 e, iterL_at S.it fun o e => x _ _ nI e, S.fm.ext x (by simp; exact nL.symm)⟩
theorem LS.nI (S : LS b h A L F I D vx k h' ls) : I ≠ L ∧ I ≠ L + 1 ∧ I ≠ L + 2 := by
  obtain ⟨o, e, _, hd⟩ := S.it
  have D := Dat.fields e hd
  refine ⟨fun q => ?_, fun q => ?_, fun q => ?_⟩
  · subst q; obtain ⟨m, hm, _⟩ := S.st.loc; exact D.ns hm
  · subst q; exact D.cell S.cf
  · subst q; exact D.cell S.cx
theorem LS.local {y : Str} {v : Value} (S : LS b h A L F I D vx k h' ls) (S' : St h (fun a => a ∈ ([] : List Addr)) L h'' ((y, v) :: ls)) (x : Heap.SameBut L h' h'') : LS b h A L F I D vx k h'' ((y, v) :: ls) := by
  have n1 : L + 1 ≠ L := Nat.succ_ne_self _
  have n2 : L + 2 ≠ L := Nat.ne_of_gt (Nat.lt_add_of_pos_right (by decide))
  refine ⟨S', cellAt S.cf fun o e => x.extBut _ _ n1 e, cellAt S.cx fun o e => x.extBut _ _ n2 e, iterL_at S.it fun o e => x.extBut _ _ S.nI.1 e, ?_⟩
  obtain ⟨⟨envs, h1, h2, h3⟩, hn⟩ := S.fm
  obtain ⟨m, hm, _⟩ := S'.loc
  refine ⟨⟨envs, h1, h2, ?_⟩, fun a ha => by simp at ha; subst ha; exact ⟨m, hm⟩⟩
  have sub : ∀ (l : List Env), (∀ a ∈ l.filterMap (·.frame), a = L) → h'.FunFrames b l → h''.FunFrames b l := by
    intro l
    induction l with
    | nil => intro _ _; trivial
    | cons e l ih =>
      intro hl hF
      obtain ⟨a1, ⟨L2, o2, f2, nb, g2, d2⟩, a3⟩ := hF
      have e2 : (e :: l).filterMap (·.frame) = L2 :: l.filterMap (·.frame) := by rw [List.filterMap_cons, f2]
      rw [e2] at hl
      have := hl L2 (.head _)
      subst this
      obtain ⟨o3, es3, ep3, g3, d3, _⟩ := hm
      exact ⟨a1, ⟨L2, o3, f2, nb, g3, fun vs q => by rw [d3] at q; cases q⟩, ih (fun a ha => hl a (.tail _ ha)) a3⟩
  exact sub envs (fun a ha => by rw [h2] at ha; simpa using ha) h3
theorem LS.kpx (S : LS b h A L F I D vx k h' ls) (x : KpX (fun _ => False) [L] h' h'') : LS b h A L F I D vx k h'' ls := by
  have n1 : L + 1 ∉ [L] := by simp
  have n2 : L + 2 ∉ [L] := by simp
  have nI : I ∉ [L] := by simp; exact S.nI.1
  exact ⟨S.st.kpx x (fun _ q => q.elim), cellAt S.cf fun o e => x.1 _ _ id n1 e, cellAt S.cx fun o e => x.1 _ _ id n2 e, iterL_at S.it fun o e => x.1 _ _ id nI e, S.fm.kpx x⟩
end
end
section
set_option maxRecDepth 100000
set_option maxHeartbeats 1000000
set_option autoImplicit false
set_option linter.unusedVariables false
abbrev cellsW (L : Addr) : List (Str × Addr) := [("x", L + 2), ("functions", L + 1)]
abbrev envW (qual : Str) (cdv : Value) (fa L : Addr) : Env := envX qual (sA 48) L fa cdv (cellsW L)
theorem seq_ix (d n : Nat) (h : d < n) : seqIndex? (d : Int) n = some d := by
  have h1 : ¬ (d : Int) < 0 := by omega
  have h2 : (decide (0 ≤ (d : Int)) && decide ((d : Int) < n)) = true := by simp; omega
  unfold seqIndex?
  simp only [h1, if_false, h2, if_true, Int.toNat_natCast]
def bl (s : Stmt) (i : Nat) : Stmt := (forB s).getD i (.Break default)
def tupE (e : Expr) (i : Nat) : Expr := match e with | .Tuple es _ _ => es.getD i (.Constant .none 0 default) | _ => .Constant .none 0 default
def ifT (s : Stmt) : Expr := match s with | .If t _ _ _ => t | _ => .Constant .none 0 default
def orE (e : Expr) (i : Nat) : Expr := match e with | .BoolOp _ es _ => es.getD i (.Constant .none 0 default) | _ => .Constant .none 0 default
def cmpL (e : Expr) : Expr := match e with | .Compare l _ _ _ => l | _ => .Constant .none 0 default
def cmpR (e : Expr) : Expr := match e with | .Compare _ _ rs _ => rs.getD 0 (.Constant .none 0 default) | _ => .Constant .none 0 default
section
variable {prog : Program} {w : World} {A : Around} {h b : Heap} {qual : Str} {cdv : Value} {fa L M F T R D I : Addr} {ms : List Int} {mvs xvs : List Value} {ps : List (Bool × Nat)} {is : List Int} {k d : Nat} {xv : Int} {tx : Tok} {h₁ : Heap}
theorem law_due {ls : List (Str × Value)} (hA : Ok 22 A) (W : Wd b) (K : Kp b h) (S : LS b h A L F I D (some (.int xv tx)) k h₁ ls) (hv : ls.lookup (Str.ofString "modes") = some (.ref M)) (HM : Lst h₁ M mvs) (hi : Ints ms mvs) (hm : ms.length < 100) (hd : xv % 10 = (d : Int)) (hd10 : d < 10) :
    Rn prog w A h₁ (eval (tupE (asgV (bl (stA 48 4) 0)) 0) (envW qual cdv fa L)) (fun v h' => ∃ D ys, v = .ref D ∧ h₁.get? D = none ∧ Lst h' D ys ∧ ys.length = ms.length ∧ (∀ (i : Nat) y, ys[i]? = some y → IsK (κD d) (kD d (ms.getD i 0)) y) ∧ Kp h₁ h') := by
  have K₁ := K.trans S.kp
  refine (Rn.compOver (cl := [("x", L + 2)]) (M := M) (vs := mvs) (fun i y => IsK (κD d) (kD d (ms.getD i 0)) y) hA.1 HM (by rw [hi.1]; omega) (Pv.nameS S.st hv) ?_).mono ?_
  · intro i v C g hiv kg hL
    have Kg : Kp b g := K₁.trans kg
    obtain ⟨t, ev⟩ := hi.2 i v hiv
    subst ev
    walk_at "ev"
    walk_at "ev"
    walk_at "ev"
    refine Rn.argsCons (Pv.val (Pv.name hL rfl) ?_)
    refine Rn.argsCons (Rn.binOp (Pv.val (Pv.nameC (S.cx.keeps kg)) ?_))
    walk_at "ev"
    refine Pv.thenI (Pv.modP (by decide)) fun t3 => ?_
    walk_at "ev"
    rw [hd]
    exact ⟨Kg, law_key (hA.le (by decide)) W Kg hd10⟩
  · rintro v h' ⟨D, ys, rfl, h0, h1, h2, h3, h4⟩
    exact ⟨D, ys, rfl, h0, h1, by rw [h2, hi.1], h3, h4⟩
theorem law_answers {ls : List (Str × Value)} (hA : Ok 22 A) (W : Wd b) (K : Kp b h) (S : LS b h A L F I D (some (.int xv tx)) k h₁ ls) (hv : ls.lookup (Str.ofString "modes") = some (.ref M)) (HM : Lst h₁ M mvs) (HF : Tup h₁ F (fD.map .ref)) (hi : Ints ms mvs) (hm : ms.length < 100) (hd : xv % 10 = (d : Int)) (hd10 : d < 10) :
    Rn prog w A h₁ (eval (tupE (asgV (bl (stA 48 4) 0)) 1) (envW qual cdv fa L)) (fun v h' => ∃ D ys, v = .ref D ∧ h₁.get? D = none ∧ Lst h' D ys ∧ ys.length = ms.length ∧ (∀ (i : Nat) y, ys[i]? = some y → IsK (κD d) (kD d (ms.getD i 0)) y) ∧ Kp h₁ h') := by
  have K₁ := K.trans S.kp
  obtain ⟨⟨n, dV, hF⟩, hk⟩ := keyFD (prog := prog) (w := w) W d hd10
  refine (Rn.compOver (cl := [("x", L + 2), ("functions", L + 1)]) (M := M) (vs := mvs) (fun i y => IsK (κD d) (kD d (ms.getD i 0)) y) hA.1 HM (by rw [hi.1]; omega) (Pv.nameS S.st hv) ?_).mono ?_
  · intro i v C g hiv kg hL
    have Kg : Kp b g := K₁.trans kg
    obtain ⟨t, ev⟩ := hi.2 i v hiv
    subst ev
    walk_at "ev"
    refine Rn.subscript (Pv.val (Pv.nameC (S.cf.keeps kg)) ?_)
    refine Rn.binOp (Pv.val (Pv.nameC (S.cx.keeps kg)) ?_)
    walk_at "ev"
    refine Pv.thenI (Pv.modP (by decide)) fun t3 => ?_
    rw [hd]
    refine Pv.val (Pv.itemTup (x := .ref (fD.getD d 0)) (HF.keeps kg) (by omega) (by omega) (seq_ix d _ hd10) ?_) ?_
    · have : d < fD.length := hd10
      rw [List.getElem?_map, List.getD_eq_getElem?_getD, List.getElem?_eq_getElem this]; rfl
    refine Rn.cwDef hF ?_
    refine Rn.argsCons (Pv.val (Pv.name hL rfl) ?_)
    walk_at "ev"
    exact ⟨Kg, hk _ _ _ _ (hA.le (by decide)) Kg⟩
  · rintro v h' ⟨D, ys, rfl, h0, h1, h2, h3, h4⟩
    exact ⟨D, ys, rfl, h0, h1, by rw [h2, hi.1], h3, h4⟩
theorem law_isb {ls : List (Str × Value)} {N : Addr} {avs : List Value} (hA : Ok 22 A) (W : Wd b) (K : Kp b h) (S : LS b h A L F I D (some (.int xv tx)) k h₁ ls) (hv : ls.lookup (Str.ofString "answers") = some (.ref N)) (HN : Lst h₁ N avs) (hl : avs.length = ms.length) (hk : ∀ (i : Nat) y, avs[i]? = some y → IsK (κD d) (kD d (ms.getD i 0)) y) (hm : ms.length < 100) :
    Rn prog w A h₁ (eval (cmpL (orE (ifT (bl (stA 48 4) 1)) 1)) (envW qual cdv fa L)) (fun v h' => ∃ D ys, v = .ref D ∧ h₁.get? D = none ∧ Lst h' D ys ∧ ys.length = ms.length ∧ (∀ (i : Nat) y, ys[i]? = some y → y = .bool (κD d == 0)) ∧ Kp h₁ h') := by
  have K₁ := K.trans S.kp
  refine (Rn.compOver (cl := []) (M := N) (vs := avs) (fun i y => y = .bool (κD d == 0)) hA.1 HN (by omega) (Pv.nameS S.st hv) ?_).mono ?_
  · intro i v C g hiv kg hL
    have Kg : Kp b g := K₁.trans kg
    walk_at "ev"
    walk_at "ev"
    walk_at "ev"
    refine Rn.argsCons (Pv.val (Pv.name hL rfl) ?_)
    walk_at "ev"
    walk_at "ev"
    walk_at "ev"
    exact Pv.val (Pv.isBool (hk i v hiv)) ⟨rfl, Kp.refl _⟩
  · rintro v h' ⟨D, ys, rfl, h0, h1, h2, h3, h4⟩
    exact ⟨D, ys, rfl, h0, h1, by rw [h2, hl], h3, h4⟩
theorem law_lt7 {ls : List (Str × Value)} (hA : Ok 22 A) (W : Wd b) (K : Kp b h) (S : LS b h A L F I D (some (.int xv tx)) k h₁ ls) (hv : ls.lookup (Str.ofString "modes") = some (.ref M)) (HM : Lst h₁ M mvs) (hi : Ints ms mvs) (hm : ms.length < 100) (hd : xv % 10 = (d : Int)) :
    Rn prog w A h₁ (eval (cmpR (orE (ifT (bl (stA 48 4) 1)) 1)) (envW qual cdv fa L)) (fun v h' => ∃ D ys, v = .ref D ∧ h₁.get? D = none ∧ Lst h' D ys ∧ ys.length = ms.length ∧ (∀ (i : Nat) y, ys[i]? = some y → y = .bool (κD d == 0)) ∧ Kp h₁ h') := by
  refine (Rn.compOver (cl := [("x", L + 2)]) (M := M) (vs := mvs) (fun i y => y = .bool (κD d == 0)) hA.1 HM (by rw [hi.1]; omega) (Pv.nameS S.st hv) ?_).mono ?_
  · intro i v C g hiv kg hL
    refine Rn.compare (Rn.binOp (Pv.val (Pv.nameC (S.cx.keeps kg)) ?_))
    walk_at "ev"
    refine Pv.thenI (Pv.modP (by decide)) fun t3 => ?_
    walk_at "ev"
    refine Pv.val Pv.ltI ⟨?_, Kp.refl _⟩
    refine congrArg Value.bool ?_
    rw [hd]
    unfold κD
    by_cases h7 : d < 7
    · rw [if_pos h7, decide_eq_true (by omega)]; rfl
    · rw [if_neg h7, decide_eq_false (by omega)]
      by_cases h9 : d = 9
      · rw [if_pos h9]; rfl
      · rw [if_neg h9]; rfl
  · rintro v h' ⟨D, ys, rfl, h0, h1, h2, h3, h4⟩
    exact ⟨D, ys, rfl, h0, h1, by rw [h2, hi.1], h3, h4⟩
end
end
section
set_option maxRecDepth 100000
set_option maxHeartbeats 1000000
set_option autoImplicit false
set_option linter.unusedVariables false
section
variable {prog : Program} {w : World} {A : Around} {h b : Heap}
theorem Pv.neK2 {l m : Addr} {vs us : List Value} {ms : List Int} {d k : Nat} (hA : Ok k A) (H : Lst h l vs) (H' : Lst h m us) (hv : vs.length = ms.length) (hu : us.length = ms.length)
    (kv : ∀ (i : Nat) y, vs[i]? = some y → IsK (κD d) (kD d (ms.getD i 0)) y) (ku : ∀ (i : Nat) y, us[i]? = some y → IsK (κD d) (kD d (ms.getD i 0)) y) : Pv prog w A h (compareOp .NotEq (.ref l) (.ref m)) (· = .bool false) := by
  have one : ∀ (vs : List Value), vs.length = ms.length → (∀ (i : Nat) y, vs[i]? = some y → IsK (κD d) (kD d (ms.getD i 0)) y) → ReadsAll h vs (ms.map fun m => dK (κD d) (kD d m)) [] := fun vs hl hk =>
    readsAll_of (by simp [hl]) fun i v e hv he => by
      have hil : i < ms.length := by rw [← hl]; exact (List.getElem?_eq_some_iff.mp hv).1
      rw [List.getElem?_map, List.getElem?_eq_getElem hil] at he
      have := hk i v hv
      rw [List.getD_eq_getElem?_getD, List.getElem?_eq_getElem hil] at this
      cases he
      exact this.reads
  refine Pv.neSame hA H H' (one vs hv kv) (one us hu ku) fun e he => ?_
  obtain ⟨m, _, rfl⟩ := List.mem_map.mp he
  exact flat_kD d m
theorem Pv.neB2 {l m : Addr} {vs us : List Value} {n k : Nat} {c : Bool} (hA : Ok k A) (H : Lst h l vs) (H' : Lst h m us) (hv : vs.length = n) (hu : us.length = n)
    (kv : ∀ (i : Nat) y, vs[i]? = some y → y = .bool c) (ku : ∀ (i : Nat) y, us[i]? = some y → y = .bool c) : Pv prog w A h (compareOp .NotEq (.ref l) (.ref m)) (· = .bool false) := by
  have one : ∀ (vs : List Value), vs.length = n → (∀ (i : Nat) y, vs[i]? = some y → y = .bool c) → ReadsAll h vs (List.replicate n (.bool c)) [] := fun vs hl hk =>
    readsAll_of (by simp [hl]) fun i v e hv he => by
      have := List.eq_of_mem_replicate (List.mem_of_getElem? he)
      rw [this, hk i v hv]
      exact Reads.bool c
  refine Pv.neSame hA H H' (one vs hv kv) (one us hu ku) fun e he => ?_
  rw [List.eq_of_mem_replicate he]
  exact flat_bool c
theorem Pv.neI2 {l m : Addr} {vs us : List Value} {is : List Int} {k : Nat} (hA : Ok k A) (H : Lst h l vs) (H' : Lst h m us) (hv : Ints is vs) (hu : Ints is us) : Pv prog w A h (compareOp .NotEq (.ref l) (.ref m)) (· = .bool false) := by
  have one : ∀ (vs : List Value), Ints is vs → ReadsAll h vs (is.map .int) [] := fun vs hi =>
    readsAll_of (by simp [hi.1]) fun i v e hv he => by
      have hil : i < is.length := by rw [← hi.1]; exact (List.getElem?_eq_some_iff.mp hv).1
      rw [List.getElem?_map, List.getElem?_eq_getElem hil] at he
      obtain ⟨t, e2⟩ := hi.2 i v hv
      rw [List.getD_eq_getElem?_getD, List.getElem?_eq_getElem hil] at e2
      cases he
      rw [e2]
      exact Reads.int _ _
  refine Pv.neSame hA H H' (one vs hv) (one us hu) fun e he => ?_
  obtain ⟨m, _, rfl⟩ := List.mem_map.mp he
  exact flat_int m
end
section
variable {prog : Program} {w : World} {A : Around} {h b : Heap} {qual : Str} {cdv : Value} {fa L M F T R D I : Addr} {ms xs : List Int} {mvs xvs : List Value} {ps : List (Bool × Nat)} {k d : Nat} {xv : Int} {tx : Tok} {h₁ : Heap}
abbrev rowOf (ms : List Int) (ps : List (Bool × Nat)) : List Int := (pls ms ps.reverse).map fun i => ms.getD i 0
abbrev lsW (M R T : Addr) : List (Str × Value) := [("modes", .ref M), ("row", .ref R), ("told", .ref T)]
theorem LS.nsq {F I D c : Addr} {vx : Option Value} {ls : List (Str × Value)} (S : LS b h A L F I D vx k h₁ ls) (hc : Sq h₁ c) : c ≠ L := fun q => by subst q; obtain ⟨m, hm, _⟩ := S.st.loc; exact hc.dat.ns hm
theorem law_pass (hA : Ok 22 A) (W : Wd b) (K : Kp b h) (S : LS b h A L F I D (some (.int xv tx)) k h₁ (lsW M R T)) (H : LD ms mvs xvs M F T R D ps (rowOf ms ps) h₁) (hi : Ints ms mvs) (hm2 : 2 ≤ ms.length) (hm : ms.length < 60) (hps : ps.length < 50)
    (hxi : Ints xs xvs) (hx : 0 < xs.length) (hT0 : h.get? T = none) :
    Rn prog w A h₁ (execs (forB (stA 48 4)) (envW qual cdv fa L)) (fun f h' => f = .next ∧ ∃ R' p, LS b h A L F I D (some (.int xv tx)) k h' (lsW M R' T) ∧ LD ms mvs xvs M F T R' D (ps ++ [p]) (rowOf ms (ps ++ [p])) h') := by
  have hd : xv % 10 = (((xv % 10).toNat : Nat) : Int) := by omega
  have hd10 : (xv % 10).toNat < 10 := by omega
  generalize (xv % 10).toNat = d at hd hd10
  have K₁ := K.trans S.kp
  have S₁ := S.st
  refine Rn.opq fun P0 h0 => ?_
  refine Rn.cons (Rn.assignTupleS (names := ["due", "answers"]) (Rn.tupleE ?_))
  refine Rn.argsCons ((law_due hA W K S rfl H.m hi (by omega) hd hd10).mono ?_)
  rintro _ h₂ ⟨U, us, rfl, hU0, hU, hul, huk, k₂⟩
  have S₂ := S.keeps k₂
  have H₂ := H.keeps k₂
  refine Rn.argsCons ((law_answers hA W K S₂ rfl H₂.m H₂.f hi (by omega) hd hd10).mono ?_)
  rintro _ h₃ ⟨N, avs, rfl, hN0, hN, hal, hak, k₃⟩
  refine Rn.argsNil ⟨by simp, fun V h₄ hV0 hV k₄ _ => ?_⟩
  refine Rn.unpackT hA.1 hV rfl fun h₅ k₅ => ?_
  have S₅ := ((S₂.keeps k₃).keeps k₄).keeps k₅
  have H₅ := ((H₂.keeps k₃).keeps k₄).keeps k₅
  have hU₅ := ((hU.keeps k₃).keeps k₄).keeps k₅
  have hN₅ := (hN.keeps k₄).keeps k₅
  refine Rn.inOrderCons (Rn.bindName (Rn.storeS S₅.st fun h₆ S₆' s₆ => ?_))
  have S₆ := S₅.local S₆' s₆
  refine Rn.inOrderCons (Rn.bindName (Rn.storeS S₆.st fun h₇ S₇' s₇ => ?_))
  have S₇ := S₆.local S₇' s₇
  have H₇ := (H₅.sq fun c o hc e => s₆.extBut c o (S₅.nsq hc) e).sq fun c o hc e => s₇.extBut c o (S₆.nsq hc) e
  have hU₇ := (hU₅.ext s₆.extBut (S₅.nsq hU₅.sq)).ext s₇.extBut (S₆.nsq (hU₅.ext s₆.extBut (S₅.nsq hU₅.sq)).sq)
  have hN₇ := (hN₅.ext s₆.extBut (S₅.nsq hN₅.sq)).ext s₇.extBut (S₆.nsq (hN₅.ext s₆.extBut (S₅.nsq hN₅.sq)).sq)
  clear S₆' S₇' S₅ S₆ H₅ H₂ S₂ hU hN hU₅ hN₅ s₆ s₇
  refine Rn.inOrderNil ?_
  -- the answers are those due
  refine Rn.cons (Rn.ifS (Rn.testBool (Rn.orCons (Rn.testCmp ?_))))
  refine Pv.val (Pv.nameS S₇.st rfl) ?_
  refine Pv.val (Pv.nameS S₇.st rfl) ?_
  refine Pv.val (Pv.neK2 hA hN₇ hU₇ hal hul hak huk) (Rn.truthyB ?_)
  rw [if_neg Bool.false_ne_true]
  refine Rn.orCons (Rn.testCmp ?_)
  refine (law_isb hA W K S₇ rfl hN₇ hal hak (by omega)).mono ?_
  rintro _ h₈ ⟨B1, bs1, rfl, _, hB1, hbl1, hbk1, k₈⟩
  have S₈ := S₇.keeps k₈
  have H₈ := H₇.keeps k₈
  refine (law_lt7 hA W K S₈ rfl H₈.m hi (by omega) hd).mono ?_
  rintro _ h₉ ⟨B2, bs2, rfl, _, hB2, hbl2, hbk2, k₉⟩
  refine Pv.val (Pv.neB2 hA (hB1.keeps k₉) hB2 hbl1 hbl2 hbk1 hbk2) (Rn.truthyB ?_)
  rw [if_neg Bool.false_ne_true]
  refine Rn.orNil ?_
  rw [if_neg Bool.false_ne_true]
  refine Rn.nil ?_
  have S₉ := S₈.keeps k₉
  have H₉ := H₈.keeps k₉
  have hU₉ := (hU₇.keeps k₈).keeps k₉
  clear S₇ H₇ S₈ H₈ hB1 hB2 hN₇ hU₇ hbl1 hbl2 hbk1 hbk2
  -- told.append
  obtain ⟨ts, hts, htl, _⟩ := H₉.t
  refine Rn.cons (Rn.exprS (Rn.method PySem.F.plainAttrs_list PySem.F.slot_list_append PySem.F.type_list_append ?_))
  refine Pv.val (Pv.nameS S₉.st rfl) ⟨fun s e => hts.meth s e, Rn.cwM1 (Rn.tupleE ?_)⟩
  refine Rn.argsCons (Rn.compare (Rn.binOp (Rn.binOp (Pv.val (Pv.nameC S₉.cx) ?_))))
  walk_at "ev"
  refine Pv.thenI (Pv.divP (by decide) (PyProof.noPylong_of_log2 (by decide +kernel))) fun t2 => ?_
  walk_at "ev"
  refine Pv.thenI (Pv.modP (by decide)) fun t3 => ?_
  walk_at "ev"
  refine Pv.val Pv.eqI ?_
  refine Rn.argsCons (Pv.val (Pv.nameS S₉.st rfl) ?_)
  refine Rn.argsNil ⟨by simp, fun tu h₁₀ htu0 htu k₁₀ _ => ?_⟩
  have S₁₀ := S₉.keeps k₁₀
  have H₁₀ := H₉.keeps k₁₀
  refine Rn.appendL (hts.keeps k₁₀) (by omega) fun h₁₁ hT₁₁ s₁₁ => ⟨fun a e => (nomatch e), ?_⟩
  have hrl : (rowOf ms ps).length = ms.length := by simp [rowOf, (pls_perm ms _).length_eq]
  have S₁₁ := S₁₀.list s₁₁.extBut (hts.keeps k₁₀).sq hT0
  have H₁₁ := H₁₀.told (p := (xv / 10 % 2 == 1, d)) (xs := xs) (hts.keeps k₁₀) s₁₁.extBut hT₁₁ htu (hU₉.keeps k₁₀) hul huk (by omega) hi (by omega) hxi hx
  clear S₉ H₉ S₁₀ H₁₀ hts hT₁₁ s₁₁ hU₉ htu
  have K₁₁ : Kp b h₁₁ := K.trans S₁₁.kp
  have Q₁₁ := S₁₁.st
  -- row = _law_passed(..)
  obtain ⟨rvs, hR, hri⟩ := H₁₁.r
  have hrv : rvs.length = ms.length := by rw [hri.1, hrl]
  refine Rn.cons (Rn.assignName ?_)
  walk_at "ev"
  walk_at "ev"
  walk_at "ev"
  walk_at "ev"
  walk_at "ev"
  refine Rn.argsCons (Rn.subscript (Pv.val (Pv.nameC S₁₁.cf) (Rn.binOp (Pv.val (Pv.nameC S₁₁.cx) ?_))))
  walk_at "ev"
  refine Pv.thenI (Pv.modP (by decide)) fun t4 => ?_
  rw [hd]
  refine Pv.val (Pv.itemTup (x := .ref (fD.getD d 0)) H₁₁.f (by omega) (by omega) (seq_ix d _ hd10) ?_) ?_
  · have : d < fD.length := hd10
    rw [List.getElem?_map, List.getD_eq_getElem?_getD, List.getElem?_eq_getElem this]; rfl
  refine Rn.argsCons (Rn.binOp (Rn.binOp (Pv.val (Pv.nameC S₁₁.cx) ?_)))
  walk_at "ev"
  refine Pv.thenI (Pv.divP (by decide) (PyProof.noPylong_of_log2 (by decide +kernel))) fun t5 => ?_
  walk_at "ev"
  walk_at "ev"
  walk_at "ev"
  walk_at "ev"
  walk_at "ev"
  walk_at "ev"
  walk_at "ev"
  refine Pv.thenI (Pv.lenL H₁₁.m (by rw [hi.1]; omega)) fun t6 => ?_
  walk_at "ev"
  walk_at "ev"
  refine Pv.thenI (Pv.modP (by omega)) fun t7 => ?_
  have hc0 := Int.emod_nonneg (xv / 20) (show (mvs.length : Int) + 1 ≠ 0 by omega)
  have hc1 := Int.emod_lt_of_pos (xv / 20) (show 0 < (mvs.length : Int) + 1 by omega)
  have hcut : xv / 20 % ((mvs.length : Int) + 1) = (((xv / 20 % ((mvs.length : Int) + 1)).toNat : Nat) : Int) := by omega
  have hcle : (xv / 20 % ((mvs.length : Int) + 1)).toNat ≤ mvs.length := by omega
  rw [hcut]
  generalize (xv / 20 % ((mvs.length : Int) + 1)).toNat = cut at hcut hcle
  refine Rn.argsCons (Rn.compare (Rn.binOp (Rn.binOp (Pv.val (Pv.nameC S₁₁.cx) ?_))))
  walk_at "ev"
  refine Pv.thenI (Pv.divP (by decide) (PyProof.noPylong_of_log2 (by decide +kernel))) fun t8 => ?_
  walk_at "ev"
  refine Pv.thenI (Pv.modP (by decide)) fun t9 => ?_
  walk_at "ev"
  refine Pv.val Pv.eqI ?_
  walk_at "ev"
  have hml : mvs.length = ms.length := hi.1
  refine ⟨K₁₁, (law_passed (hA.le (by decide)) W K₁₁ S₁₁.fm (keyFD W d hd10) hR hri (by omega) (by omega) (by omega)).mono ?_⟩
  rintro _ h₁₂ ⟨R', rvs', rfl, hR', hri', kx⟩
  have S₁₂ := S₁₁.kpx kx
  have H₁₂ := H₁₁.sq (h' := h₁₂) fun c o hc e => kx.1 c o id (by simp; exact S₁₁.nsq hc) e
  have e1 : isort (cK (xv / 10 % 2 == 1) (kD d)) (rowOf ms ps) = rowOf ms (ps ++ [(xv / 10 % 2 == 1, d)]) := by
    rw [rowOf, rowOf, List.reverse_append, ← pls_row]; rfl
  rw [e1] at hri'
  generalize hpe : (xv / 10 % 2 == 1, d) = p at H₁₁ H₁₂ hri'
  refine Rn.storeS S₁₂.st fun h₁₃ S₁₃' s₁₃ => ?_
  have S₁₃ := S₁₂.local S₁₃' s₁₃
  have H₁₃ := H₁₂.sq fun c o hc e => s₁₃.extBut c o (S₁₂.nsq hc) e
  have hR₁₃ := hR'.ext s₁₃.extBut (S₁₂.nsq hR'.sq)
  have K₁₃ : Kp b h₁₃ := K.trans S₁₃.kp
  have Q₁₃ := S₁₃.st
  clear S₁₃' S₁₂ H₁₂ S₁₁ H₁₁ Q₁₁ hR hR'
  -- the order
  refine Rn.cons (Rn.ifS (Rn.testCmp ?_))
  walk_at "ev"
  walk_at "ev"
  walk_at "ev"
  walk_at "ev"
  walk_at "ev"
  walk_at "ev"
  walk_at "ev"
  walk_at "ev"
  walk_at "ev"
  refine ⟨K₁₃, (law_order (ix := fun k => (pls ms (ps ++ [p]).reverse).getD k 0) (hA.le (by decide)) W K₁₃ H₁₃.m hi H₁₃.t (by omega) (by simp; omega) (fun k hk => rank_pls ms (ps ++ [p]) k hk)).mono ?_⟩
  rintro _ h₁₄ ⟨E, es, rfl, hE, hei, k₁₄⟩
  rw [order_row] at hei
  refine Pv.val (Pv.neI2 hA (hR₁₃.keeps k₁₄) hE hri' hei) (Rn.truthyB ?_)
  rw [if_neg Bool.false_ne_true]
  refine Rn.nil (Rn.nil (h0 _ _ ⟨rfl, R', p, (S₁₃.keeps k₁₄).sub (by walk_at "subs"), ?_⟩))
  have H₁₄ := H₁₃.keeps k₁₄
  exact ⟨H₁₄.m, H₁₄.f, H₁₄.t, ⟨_, hR₁₃.keeps k₁₄, hri'⟩, H₁₄.d⟩
end
end
section
set_option maxRecDepth 100000
set_option maxHeartbeats 1000000
set_option autoImplicit false
set_option linter.unusedVariables false
def forT (s : Stmt) : Expr := match s with | .For t _ _ _ _ => t | _ => .Constant .none 0 default
theorem ints_ex : ∀ {vs : List Value}, (∀ v ∈ vs, ∃ i t, v = .int i t) → ∃ is, Ints is vs := fun {vs} H =>
  ⟨vs.map fun v => match v with | .int i _ => i | _ => 0, by simp, fun i v e => by
    obtain ⟨a, t, rfl⟩ := H v (List.mem_of_getElem? e)
    refine ⟨t, ?_⟩
    rw [List.getD_eq_getElem?_getD, List.getElem?_map, e]
    rfl⟩
section
variable {prog : Program} {w : World} {A : Around} {h b : Heap} {env : Env}
theorem Rn.sliceI {value slice : Expr} {ops : List Value} {l sl : Addr} {vs : List Value} {vl vu vt : Value} {lo hi st : Option Int} {P : Value → Heap → Prop} (H : h.IsList l vs.toArray) (hs : h.IsSliceOf sl vl vu vt) (pl : IsPart vl lo) (pu : IsPart vu hi) (ps : IsPart vt st)
    (h0 : st ≠ some 0) (hsz : vs.length < 1000) (k : ∀ D h', h.get? D = none → Lst h' D (slicePick vs.toArray lo hi st).toList → Kp h h' → P (.ref D) h')
    (hsub : subscripted slice false (.ref l) (.ref sl) = operate ops (getItem (.ref l) (.ref sl)) := by with_unfolding_all rfl) : Rn prog w A h (subscriptTail value slice (.ref l) (.ref sl)) P := by
  refine Rn.of fun s Q E e kk => ?_
  subst e
  refine tail_any H.typeIs slot_list_getitem.lookup (wpAny_getItem_list_slice H hs pl pu ps h0 (kk _ _ s.toks (k _ _ (fresh_size _) ⟨0, ?_⟩ (Kp.push _ _))) (by rw [List.size_toArray, sizeLine_eq]; omega)) hsub
  rw [Heap.get?_push_size _ rfl]
theorem isList_keeps {h h' : Heap} {l : Addr} {a : Array Value} (H : h.IsList l a) (k : Kp h h') : h'.IsList l a := let ⟨o, e, r⟩ := H; ⟨o, k _ _ e, r⟩
end
section
variable {prog : Program} {w : World} {A : Around} {h : Heap} {env : Env}
/-- script[c::2][:2] -/
theorem Rn.cutS {value : Expr} {c : Int} {k1 k2 k3 : Nat} {p1 p2 p3 p4 p5 p6 p7 : Pos} {S : Addr} {svs : List Value} (HS : h.IsList S svs.toArray) (hs : ∀ v ∈ svs, ∃ i t, v = .int i t) (hz : svs.length < 100) (hn : Pv prog w A h (eval value env) (· = .ref S)) :
    Rn prog w A h (eval (.Subscript (.Subscript value (.Slice (some (.Constant (.int c) k1 p1)) none (some (.Constant (.int 2) k2 p2)) p3) p4) (.Slice none (some (.Constant (.int 2) k3 p5)) none p6) p7) env)
      (fun v h' => ∃ D vs, v = .ref D ∧ h.get? D = none ∧ Lst h' D vs ∧ vs.length ≤ 2 ∧ (∀ v ∈ vs, ∃ i t, v = .int i t) ∧ Kp h h') := by
  refine Rn.subscript (Rn.subscript (Pv.val hn (Rn.sliceE (Rn.partS ?_))))
  walk_at "ev"
  refine Rn.partN (Rn.partS ?_)
  walk_at "ev"
  intro sl h₃ hsl hSl k₃
  refine Rn.sliceI (isList_keeps HS k₃) hSl (.int _ _) .none (.int _ _) (by decide) (by omega) fun D1 h₄ hD1 H₄ k₄ => ?_
  refine Rn.sliceE (Rn.partN (Rn.partS ?_))
  walk_at "ev"
  refine Rn.partN ?_
  intro sl2 h₅ hsl2 hSl2 k₅
  have hz1 : (slicePick svs.toArray (some c) none (some 2)).toList.length < 100 := by
    have := slicePick_size_le svs.toArray (some c) none (some 2)
    have e2 : svs.toArray.size = svs.length := List.size_toArray ..
    rw [Array.length_toList]; omega
  refine Rn.sliceT (H₄.keeps k₅) hSl2 .none (.int _ _) .none (by decide) (by omega) fun D2 h₆ hD2 H₆ k₆ => ?_
  have e := pick_upto (slicePick svs.toArray (some c) none (some 2)).toList 2
  have H₆' : Lst h₆ D2 ((slicePick svs.toArray (some c) none (some 2)).toList.take 2) := e ▸ H₆
  have kk := ((k₃.trans k₄).trans k₅)
  refine ⟨D2, _, rfl, ?_, H₆', by rw [List.length_take]; omega, fun v hv => hs v (pick_mem (List.mem_of_mem_take hv)), kk.trans k₆⟩
  cases e : h.get? D2 with
  | none => rfl
  | some o => rw [kk _ _ e] at hD2; cases hD2
end
section
variable {b h h' h'' : Heap} {A : Around} {L F I D : Addr} {vx : Option Value} {k : Nat} {ls : List (Str × Value)}
theorem LS.next {j : Nat} (S : LS b h A L F I D vx k h' ls) (it' : h''.IsListIter I D j) (x : Heap.ExtBut I h' h'') (h0 : h.get? I = none) : LS b h A L F I D vx j h'' ls := by
  obtain ⟨nL, n1, n2⟩ := S.nI
  exact ⟨S.st.other x nL.symm (.inr h0), cellAt S.cf fun o e => x _ _ n1.symm e, cellAt S.cx fun o e => x _ _ n2.symm e, it', S.fm.ext x (by simp; exact nL)⟩
theorem LS.setX {v : Value} (S : LS b h A L F I D vx k h' ls) (cx' : h''.IsCell (L + 2) (some v)) (x : Heap.ExtBut (L + 2) h' h'') : LS b h A L F I D (some v) k h'' ls := by
  obtain ⟨nL, n1, n2⟩ := S.nI
  have m0 : L ≠ L + 2 := Nat.ne_of_lt (Nat.lt_add_of_pos_right (by decide))
  have m1 : L + 1 ≠ L + 2 := fun q => absurd (Nat.add_left_cancel q) (by decide)
  have h0 : h.get? (L + 2) = none := by
    cases e : h.get? (L + 2) with
    | none => rfl
    | some o => exact absurd (Heap.lt_size e) (Nat.not_lt.mpr (Nat.le_trans S.st.new (Nat.le_add_right _ _)))
  exact ⟨S.st.other x m0 (.inr h0), cellAt S.cf fun o e => x _ _ m1 e, cx', iterL_at S.it fun o e => x _ _ n2 e, S.fm.ext x (by simp)⟩
end
section
variable {prog : Program} {w : World} {A : Around} {h b : Heap} {fa S : Addr} {svs : List Value}
/-- the loop of law -/
theorem law_loop {qual : Str} {cdv : Value} {L M F T D I : Addr} {ms xs : List Int} {mvs xvs : List Value} {h₁ : Heap} {P : Flow → Heap → Prop} (hA : Ok 22 A) (W : Wd b) (K : Kp b h) (S : LS b h A L F I D none 0 h₁ (lsW M M T)) (H : LD ms mvs xvs M F T M D [] (rowOf ms []) h₁)
    (hi : Ints ms mvs) (hm2 : 2 ≤ ms.length) (hm : ms.length < 60) (hxi : Ints xs xvs) (hx : 0 < xs.length) (hx9 : xs.length < 50) (hT0 : h.get? T = none) (hI0 : h.get? I = none) (hP : ∀ h', Kp h h' → P .next h') :
    Rn prog w A h₁ (runOwn (.forLoop (forT (stA 48 4)) (.ref I) (forB (stA 48 4)) [] (envW qual cdv fa L)) (envW qual cdv fa L)) P := by
  have hxl : xvs.length = xs.length := hxi.1
  refine Rn.forLoop (fun r h' => ∃ k R ps vx, k + r = xs.length ∧ ps.length = k ∧ LS b h A L F I D vx k h' (lsW M R T) ∧ LD ms mvs xvs M F T R D ps (rowOf ms ps) h') ?_ xs.length ⟨0, M, [], none, by omega, rfl, S, H⟩ (fun _ => rfl)
  rintro r h₂ ⟨k, R, ps, vx, hk, hpk, S₂, H₂⟩
  cases r with
  | zero =>
    refine Rn.of fun s Q E es kk => ?_
    subst es
    refine wpAny_pyNext_list_end hA.1 S₂.it H₂.d.isList (by simp; omega) fun h₃ x₃ => kk _ h₃ s.toks ?_
    refine Rn.nil (hP _ ?_)
    have S₃ := S₂.st.other x₃ S₂.nI.1.symm (.inr hI0)
    exact fun a o e => S₃.ext a o (by simp) e
  | succ r =>
    refine Rn.of fun s Q E es kk => ?_
    subst es
    have hkx : k < xvs.length := by omega
    obtain ⟨tx, ex⟩ := hxi.2 k _ (List.getElem?_eq_getElem hkx)
    refine wpAny_pyNext_list_item (x := xvs[k]) S₂.it H₂.d.isList (by simp [hkx]) fun h₃ hit₃ s₃ => kk _ h₃ s.toks ?_
    clear kk
    have H₃ := H₂.sq (h' := h₃) fun c o hc e => s₃.extBut c o (fun q => by subst q; exact hc.iter S₂.it) e
    have S₃ := S₂.next hit₃ s₃.extBut hI0
    rw [ex]
    refine Rn.assignT (Rn.storeC S₃.cx fun h₄ cx₄ s₄ => ?_)
    have S₄ := S₃.setX cx₄ s₄.extBut
    have H₄ := H₃.sq (h' := h₄) fun c o hc e => s₄.extBut c o (fun q => by subst q; exact hc.dat.cell S₃.cx) e
    refine (law_pass hA W K S₄ H₄ hi hm2 hm (by omega) hxi hx hT0).mono ?_
    rintro _ h₅ ⟨rfl, R', p, S₅, H₅⟩
    exact ⟨r, Nat.lt_succ_self _, k + 1, R', ps ++ [p], _, by omega, by simp [hpk], S₅, H₅⟩
theorem law_main (hA : Ok 23 A) (hfr : A.frames = some []) (W : Wd b) (K : Kp b h) (FA : FnAt b fa 48 .none) (HS : h.IsList S svs.toArray) (hs : ∀ v ∈ svs, ∃ i t, v = .int i t) (hz : svs.length < 100) :
    Rn prog w A h (call (.ref fa) [.ref S]) (fun v h' => v = .bool true ∧ Kp h h') := by
  refine Rn.callDefC (k := 22) (n := 48) (binds := [("script", .ref S)]) (ls := [("script", .ref S)]) hA (FA.keeps K) (W.lim.keeps K)
    (fun _ _ _ _ _ _ _ _ _ => BindsTo.of_eq rfl) (by walk_at "subs") ?_ ?_
  · intro qual cdv L h₁ S₁ hc hA'
    have cF : h₁.IsCell (L + 1) none := (hc "functions" (L + 1) rfl).1
    have cX : h₁.IsCell (L + 2) none := (hc "x" (L + 2) rfl).1
    have K₁ := K.trans S₁.kp
    have fresh : ∀ {g : Heap} {c : Addr}, Kp h g → g.get? c = none → h.get? c = none := fun k e => by
      rename_i g c
      cases e' : h.get? c with
      | none => rfl
      | some o => rw [k _ _ e'] at e; cases e
    -- modes
    refine Rn.cons (Rn.assignName (Rn.binOp (Rn.listE ?_)))
    walk_at "ev"
    walk_at "ev"
    walk_at "ev"
    walk_at "ev"
    walk_at "ev"
    walk_at "ev"
    walk_at "ev"
    walk_at "ev"
    walk_at "ev"
    walk_at "ev"
    walk_at "ev"
    refine ⟨by simp, fun M1 h₂ hM10 hM1 k₂ => ?_⟩
    have S₂ := S₁.keeps k₂
    refine (Rn.cutS (isList_keeps HS S₂.kp) hs hz (Pv.nameS S₂ rfl)).mono ?_
    rintro _ h₃ ⟨M2, vs2, rfl, hM20, hM2, hl2, hv2, k₃⟩
    refine Rn.addL (hM1.keeps k₃) hM2 (by simp; omega) fun M h₄ hM0 hM k₄ => ?_
    have S₄ := (S₂.keeps k₃).keeps k₄
    have key : ∃ mvs, Lst h₄ M mvs ∧ 5 ≤ mvs.length ∧ mvs.length ≤ 7 ∧ ∀ v ∈ mvs, ∃ i t, v = .int i t := ⟨_, hM, by simp, by simp; omega, fun v hv => by
      rcases List.mem_append.mp hv with hv | hv
      · simp only [List.mem_cons, List.not_mem_nil, or_false] at hv
        rcases hv with rfl | rfl | rfl | rfl | rfl <;> exact ⟨_, _, rfl⟩
      · exact hv2 v hv⟩
    clear hM
    obtain ⟨mvs, hM, hm5, hm7, hall⟩ := key
    obtain ⟨ms, hi⟩ := ints_ex hall
    have hml : mvs.length = ms.length := hi.1
    refine Rn.storeS S₄ fun h₅ S₅ s₅ => ?_
    have hM₅ := hM.ext s₅.extBut (S₄.ndat hM.dat)
    have cF₅ : h₅.IsCell (L + 1) none := cellAt (cF.keeps ((k₂.trans k₃).trans k₄)) fun o e => s₅.extBut _ _ (Nat.succ_ne_self _) e
    have cX₅ : h₅.IsCell (L + 2) none := cellAt (cX.keeps ((k₂.trans k₃).trans k₄)) fun o e => s₅.extBut _ _ (Nat.ne_of_gt (Nat.lt_add_of_pos_right (by decide))) e
    have K₅ := K.trans S₅.kp
    clear S₄ S₂ hM1 hM2 hM s₅ hc
    -- kinds
    refine Rn.cons (Rn.assignName (Rn.tupleE ?_))
    walk_at "evs"
    refine ⟨by simp, fun U h₆ hU0 hU k₆ _ => ?_⟩
    have S₆ := S₅.keeps k₆
    refine Rn.storeS S₆ fun h₇ S₇ s₇ => ?_
    have hU₇ : Tup h₇ U _ := hU.at fun o e => s₇.extBut _ _ (S₆.ndat hU.dat) e
    have hM₇ := (hM₅.keeps k₆).ext s₇.extBut (S₆.ndat (hM₅.keeps k₆).dat)
    have cF₇ : h₇.IsCell (L + 1) none := cellAt (cF₅.keeps k₆) fun o e => s₇.extBut _ _ (Nat.succ_ne_self _) e
    have cX₇ : h₇.IsCell (L + 2) none := cellAt (cX₅.keeps k₆) fun o e => s₇.extBut _ _ (Nat.ne_of_gt (Nat.lt_add_of_pos_right (by decide))) e
    have K₇ := K.trans S₇.kp
    clear S₆ S₅ hU hM₅ cF₅ cX₅ s₇
    -- functions
    refine Rn.cons (Rn.assignName (Rn.binOp (Pv.val (Pv.nameS S₇ rfl) (Rn.tupleE ?_))))
    walk_at "evs"
    refine ⟨by simp, fun V h₈ hV0 hV k₈ _ => ?_⟩
    refine Rn.addT (hU₇.keeps k₈) hV (by simp) (by simp) (by simp) fun F h₉ hF0 hF k₉ => ?_
    have k79 := k₈.trans k₉
    have cF₉ := cF₇.keeps k79
    refine Rn.storeC cF₉ fun h₁₀ cF₁₀ s₁₀ => ?_
    have m0 : L ≠ L + 1 := (Nat.succ_ne_self _).symm
    have hL1 : h.get? (L + 1) = none := by
      cases e : h.get? (L + 1) with
      | none => rfl
      | some o => exact absurd (Heap.lt_size e) (Nat.not_lt.mpr (Nat.le_trans S₁.new (Nat.le_add_right _ _)))
    have S₁₀ := (S₇.keeps k79).other s₁₀.extBut m0 (.inr hL1)
    have hF₁₀ : Tup h₁₀ F (fD.map .ref) := hF.at fun o e => s₁₀.extBut _ _ (fun q => by subst q; exact hF.dat.cell cF₉) e
    have hM₁₀ := (hM₇.keeps k79).ext s₁₀.extBut (fun q => by subst q; exact (hM₇.keeps k79).dat.cell cF₉)
    have cX₁₀ : h₁₀.IsCell (L + 2) none := cellAt (cX₇.keeps k79) fun o e => s₁₀.extBut _ _ (fun q => absurd (Nat.add_left_cancel q) (by decide)) e
    have K₁₀ := K.trans S₁₀.kp
    clear hV hF hU₇ cF₇ cX₇ cF₉ s₁₀ S₇ hM₇
    -- row, told
    refine Rn.cons (Rn.assignTupleS (names := ["row", "told"]) (Rn.tupleE ?_))
    walk_at "ev"
    walk_at "ev"
    refine Rn.argsCons (Rn.listE (Rn.argsNil ⟨by simp, fun T h₁₁ hT0 hT k₁₁ => ?_⟩))
    refine Rn.argsNil ⟨by simp, fun Z h₁₂ hZ0 hZ k₁₂ _ => ?_⟩
    refine Rn.unpackT hA'.1 hZ rfl fun h₁₃ k₁₃ => ?_
    have k103 := (k₁₁.trans k₁₂).trans k₁₃
    have S₁₃ := S₁₀.keeps k103
    have hT0' : h.get? T = none := fresh S₁₀.kp hT0
    refine Rn.inOrderCons (Rn.bindName (Rn.storeS S₁₃ fun h₁₄ S₁₄ s₁₄ => ?_))
    refine Rn.inOrderCons (Rn.bindName (Rn.storeS S₁₄ fun h₁₅ S₁₅ s₁₅ => ?_))
    refine Rn.inOrderNil ?_
    have x15 : Heap.ExtBut L h₁₃ h₁₅ := fun c o hc e => s₁₅.extBut c o hc (s₁₄.extBut c o hc e)
    have hT₁₅ := ((hT.keeps k₁₂).keeps k₁₃).ext x15 (S₁₃.ndat ((hT.keeps k₁₂).keeps k₁₃).dat)
    have hM₁₅ := (hM₁₀.keeps k103).ext x15 (S₁₃.ndat (hM₁₀.keeps k103).dat)
    have hF₁₅ : Tup h₁₅ F (fD.map .ref) := (hF₁₀.keeps k103).at fun o e => x15 _ _ (S₁₃.ndat (hF₁₀.keeps k103).dat) e
    have cF₁₅ : h₁₅.IsCell (L + 1) (some (.ref F)) := cellAt (cF₁₀.keeps k103) fun o e => x15 _ _ (Nat.succ_ne_self _) e
    have cX₁₅ : h₁₅.IsCell (L + 2) none := cellAt (cX₁₀.keeps k103) fun o e => x15 _ _ (Nat.ne_of_gt (Nat.lt_add_of_pos_right (by decide))) e
    clear S₁₄ S₁₃ S₁₀ hT hM₁₀ hF₁₀ cF₁₀ cX₁₀ x15 s₁₄ s₁₅
    -- the loop
    refine Rn.cons (Rn.forS (Rn.binOp (Rn.listE ?_)))
    walk_at "ev"
    walk_at "ev"
    walk_at "ev"
    walk_at "ev"
    walk_at "ev"
    refine ⟨by simp, fun D1 h₁₆ hD10 hD1 k₁₆ => ?_⟩
    have S₁₆ := S₁₅.keeps k₁₆
    refine (Rn.cutS (isList_keeps HS S₁₆.kp) hs hz (Pv.nameS S₁₆ rfl)).mono ?_
    rintro _ h₁₇ ⟨D2, vs3, rfl, hD20, hD2, hl3, hv3, k₁₇⟩
    refine Rn.addL (hD1.keeps k₁₇) hD2 (by simp; omega) fun D h₁₈ hD0 hD k₁₈ => ?_
    have key : ∃ xvs, Lst h₁₈ D xvs ∧ 2 ≤ xvs.length ∧ xvs.length ≤ 4 ∧ ∀ v ∈ xvs, ∃ i t, v = .int i t := ⟨_, hD, by simp, by simp; omega, fun v hv => by
      rcases List.mem_append.mp hv with hv | hv
      · simp only [List.mem_cons, List.not_mem_nil, or_false] at hv
        rcases hv with rfl | rfl <;> exact ⟨_, _, rfl⟩
      · exact hv3 v hv⟩
    clear hD
    obtain ⟨xvs, hD, hx2, hx4, hxall⟩ := key
    obtain ⟨xs, hxi⟩ := ints_ex hxall
    have hxl : xvs.length = xs.length := hxi.1
    have S₁₈ := (S₁₆.keeps k₁₇).keeps k₁₈
    refine Rn.iterListX hD fun I h₁₉ hI0 hit k₁₉ => ?_
    have k159 := ((k₁₆.trans k₁₇).trans k₁₈).trans k₁₉
    have S₁₉ := S₁₈.keeps k₁₉
    have hrow : rowOf ms [] = ms := by
      show (List.range ms.length).map (fun i => ms.getD i 0) = ms
      exact map_range ms
    have Q : LS b h (A.deeper (envW qual cdv fa L)) L F I D none 0 h₁₉ (lsW M M T) :=
      ⟨(S₁₉.weak fun _ q => q.elim).sub (by walk_at "subs"), cF₁₅.keeps k159, cX₁₅.keeps k159, hit, Fms.deeper ⟨⟨[], hfr, rfl, trivial⟩, fun a ha => (nomatch ha)⟩ K S₁₉ rfl rfl⟩
    have Hd : LD ms mvs xvs M F T M D [] (rowOf ms []) h₁₉ :=
      ⟨hM₁₅.keeps k159, hF₁₅.keeps k159, ⟨[], hT₁₅.keeps k159, rfl, fun i v p e => by simp at e⟩, ⟨mvs, hM₁₅.keeps k159, by rw [hrow]; exact hi⟩, hD.keeps k₁₉⟩
    refine law_loop hA' W K Q Hd hi (by omega) (by omega) hxi (by omega) (by omega) hT0' (fresh S₁₈.kp hI0) fun h' k' => ?_
    refine Rn.cons (Rn.ret (Pv.val Pv.boolC ?_))
    exact ⟨rfl, k'⟩
  · intro N x hx
    simp only [List.mem_cons, List.not_mem_nil, or_false] at hx
    rcases hx with rfl
    exact .inl rfl
end
end
section
set_option maxRecDepth 100000
set_option maxHeartbeats 1000000
set_option autoImplicit false
set_option linter.unusedVariables false
theorem caller_ok : Ok 23 callerA := by
  refine ⟨rfl, ?_, ?_⟩
  · show 1 + claimMargin + 23 ≤ 900
    decide +kernel
  · show 4 + 10 * 23 ≤ 9000
    decide
theorem intsAre_all {vs : List Value} {ns : List Int} (H : IntsAre vs ns) : vs.length = ns.length ∧ ∀ v ∈ vs, ∃ i t, v = .int i t := by
  induction H with
  | nil => exact ⟨rfl, fun v hv => (nomatch hv)⟩
  | cons n t h ih => exact ⟨by simp [ih.1], fun v hv => by
      rcases List.mem_cons.mp hv with rfl | hv
      · exact ⟨_, _, rfl⟩
      · exact ih.2 v hv⟩
theorem law_end {w : World} {s₁ : Shared} {cl : Str → Option Addr} {mean : ExcName → Option Value} {fa S : Addr} {svs : List Value} {ns : List Int} {args : List WData} (W : Wd s₁.heap) (FA : FnAt s₁.heap fa 48 .none)
    (HS : s₁.heap.IsList S svs.toArray) (hi : IntsAre svs ns) (hz : ¬ (63 : Int) < (ns.length : Int)) (hg : s₁.gens = #[]) :
    wpAny (model PySem.Challenge.rw_of0076_01.row.prog w) callerA (call (.ref fa) [.ref S])
      (fun v s' => GoodWG PySem.Challenge.rw_of0076_01.row.claim cl mean args s₁ (.ok (.ret v)) s')
      (fun e s' => GoodWG PySem.Challenge.rw_of0076_01.row.claim cl mean args s₁ (.error e) s') s₁ := by
  obtain ⟨hl, ha⟩ := intsAre_all hi
  refine (law_main caller_ok rfl W (Kp.refl _) FA HS ha (by omega)).use ?_
  rintro _ h' tk' ⟨rfl, k⟩
  refine GoodW.toG ⟨.inl ⟨_, .bool true, [], rfl, fun cls => rfl, .bool true, ?_, fun _ => ⟨List.nodup_nil, fun a ha => nomatch ha⟩⟩, k, rfl, hg⟩
  refine postW_of (X := true) (by decide) ?_ rfl
  first | kernel_rfl | rfl | (refine (show WTm.value _ _ (.eq .res (.lit (.bool true))) = _ from ?_); trace_state; simp [WTm.value]; done)
end
end Mine
open PySem PySem.W PyProof.Rows
set_option maxRecDepth 100000 in
set_option maxHeartbeats 8000000 in
theorem PySem.Challenge.cw_of0076_01_holds : PySem.Challenge.rw_of0076_01.Holds := by
  w_on
  refine holds_law Mine.said fun said => ?_
  refine PySem.W.holds_open (q := Mine.view) (loose := Mine.lse) (XP := XL Mine.view []) (YP := fun _ h => Mine.Says h) (d := Mine.dLaw) (kwd := []) Mine.left (fun _ _ e => Mine.says_of e) (fun _ _ _ S k => S.keeps k)
    (fun s e => xl_of s (Bool.and_eq_true_iff.mp e).1) XL.keeps (by kernel_rfl) (by kernel_rfl) (by kernel_rfl) (fun s e => recFacts_of (Bool.and_eq_true_iff.mp e).2) (by rfl) said (by kernel_rfl) ⟨rfl, rfl, rfl, rfl, rfl, by decide +kernel⟩ ?hw ?hc
  (case hw => w_witness2)
  intro w s₀ s₁ mg mb G Y fa o pm cd doc dV kV ho hd hcd hD hmg hg args vals as hpre hlay hrd hwl hlo
  obtain ⟨W, FA, mg', n', e'⟩ := Y
  refine Ground.open G ?_
  intro T B D TE TW
  have hfa : fa = 223 := by
    have e : mg (Str.ofString "law") = some (.ref fa) := hmg
    rw [Mine.ns_uniq T.g n', e'] at e
    cases e
    rfl
  subst hfa
  wrow_args hpre hlay hrd hwl hlo
  exact Mine.law_end W FA (by assumption) (by assumption) (by assumption) hg
