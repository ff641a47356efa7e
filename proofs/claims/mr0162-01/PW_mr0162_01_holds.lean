import PyProof.Rows.All
import Wide.All
import OpenK.AllK
import Wide.FinOn
import Lean
import PySem.Challenge.RW_mr0162_01
open PySem PySem.W PyProof.Rows

set_option Elab.async false
set_option maxRecDepth 100000
set_option maxHeartbeats 8000000
namespace Mine
open_top hd for PySem.Challenge.rw_mr0162_01
end Mine

set_option Elab.async false
set_option maxRecDepth 100000
set_option maxHeartbeats 1000000
set_option linter.unusedVariables false
set_option autoImplicit false
namespace Mine

abbrev Sub (h h' : Heap) : Prop := ∀ b o, h.get? b = some o → h'.get? b = some o
theorem Sub.refl (h : Heap) : Sub h h := fun _ _ e => e
theorem Sub.trans {a b c : Heap} (x : Sub a b) (y : Sub b c) : Sub a c := fun _ _ e => y _ _ (x _ _ e)
theorem Sub.push (h : Heap) (o : Obj) : Sub h (h.push o) := fun _ _ e => Heap.get?_push_of_some _ e

/-- what the run of a tree ends in, seen on the heap alone -/
def Run (prog : Program) (w : World) (A : Around) {α : Type} (t : Sem α) (h : Heap) (Q : α → Heap → Prop) : Prop :=
  ∀ (s : Shared) (E : Value → Shared → Prop), s.heap = h →
    wpAny (model prog w) A t (fun a s' => (∃ tk, s' = { s with heap := s'.heap, toks := tk }) ∧ Q a s'.heap) E s

def RunC (prog : Program) (w : World) (A : Around) (c : Code) (h : Heap) (Q : Flow → Heap → Prop) : Prop :=
  ∀ (s : Shared), s.heap = h →
    codeAny (model prog w) A c (fun r s' => (∃ tk, s' = { s with heap := s'.heap, toks := tk }) ∧ ∃ f, r = .ok f ∧ Q f s'.heap) s

section
variable {prog : Program} {w : World} {A : Around} {α β : Type} {h : Heap}

theorem Run.pure {a : α} {Q : α → Heap → Prop} (hq : Q a h) : Run prog w A (Pure.pure a) h Q := fun s _ e => wpAny_pure ⟨⟨s.toks, rfl⟩, e ▸ hq⟩

theorem Run.mono {t : Sem α} {Q Q' : α → Heap → Prop} (r : Run prog w A t h Q) (hQ : ∀ a h', Q a h' → Q' a h') : Run prog w A t h Q' :=
  fun s E e => wpAny_mono (r s E e) (fun a s' q => ⟨q.1, hQ _ _ q.2⟩) fun _ _ x => x

theorem glue {s s₁ s₂ : Shared} (x : ∃ tk, s₁ = { s with heap := s₁.heap, toks := tk }) (y : ∃ tk, s₂ = { s₁ with heap := s₂.heap, toks := tk }) :
    ∃ tk, s₂ = { s with heap := s₂.heap, toks := tk } := by
  obtain ⟨t1, e1⟩ := x; obtain ⟨t2, e2⟩ := y
  exact ⟨t2, by rw [e2, e1]⟩

/-- a step whose remaining goal is again a wp: the outer shape that library rules want -/
theorem Run.step {t : Sem α} {Q : α → Heap → Prop} {s s₀ : Shared} {E : Value → Shared → Prop} (r : Run prog w A t h Q) (e : s.heap = h)
    (x : ∃ tk, s = { s₀ with heap := s.heap, toks := tk }) :
    wpAny (model prog w) A t (fun a s' => (∃ tk, s' = { s₀ with heap := s'.heap, toks := tk }) ∧ Q a s'.heap) E s :=
  wpAny_mono (r s E e) (fun _ _ q => ⟨glue x q.1, q.2⟩) fun _ _ x => x

theorem Run.bind {m : Sem α} {f : α → Sem β} {Q : β → Heap → Prop} (r : Run prog w A m h (fun a h' => Run prog w A (f a) h' Q)) : Run prog w A (m >>= f) h Q :=
  fun s E e => wpAny_bind (wpAny_mono (r s E e) (fun _ _ q => q.2.step rfl q.1) fun _ _ x => x)

theorem Run.lift {t : Sem α} {Q : α → Heap → Prop} {s : Shared} {Q' : α → Shared → Prop} {E : Value → Shared → Prop} (r : Run prog w A t s.heap Q)
    (k : ∀ a h' tk, Q a h' → Q' a { s with heap := h', toks := tk }) : wpAny (model prog w) A t Q' E s :=
  wpAny_mono (r s E rfl) (fun a s' q => by obtain ⟨⟨tk, e⟩, q⟩ := q; rw [e]; exact k a _ tk q) fun _ _ x => x

theorem RunC.lift {c : Code} {Q : Flow → Heap → Prop} {s : Shared} {R : Result → Shared → Prop} (r : RunC prog w A c s.heap Q)
    (k : ∀ f h' tk, Q f h' → R (.ok f) { s with heap := h', toks := tk }) : codeAny (model prog w) A c R s :=
  codeAny_mono (r s rfl) (fun a s' q => by obtain ⟨⟨tk, e⟩, f, rfl, q⟩ := q; rw [e]; exact k f _ tk q)

theorem Run.of_eq {t t' : Sem α} {Q : α → Heap → Prop} (e : t = t') (r : Run prog w A t' h Q) : Run prog w A t h Q := e ▸ r
theorem Run.of_pure {t : Sem α} {a : α} {Q : α → Heap → Prop} (e : t = Pure.pure a) (q : Q a h) : Run prog w A t h Q := e ▸ Run.pure q
end

/-- things of a frame that change -/
inductive MO where
  | lst (items : List Value)
  | cel (v : Option Value)
  | raw (o : Obj)

def MO.at (x : MO) (h : Heap) (a : Addr) : Prop := match x with
  | .lst xs => h.PlainList a xs.toArray
  | .cel v => h.IsCell a v
  | .raw o => h.get? a = some o

theorem MO.at.keep {x : MO} {h h' : Heap} {a : Addr} (k : x.at h a) (e : ∀ o, h.get? a = some o → h'.get? a = some o) : x.at h' a := by
  cases x with
  | lst xs => exact Heap.PlainList.at k e
  | cel v => obtain ⟨o, ho, hd⟩ := k; exact ⟨o, e _ ho, hd⟩
  | raw o => exact e _ k
theorem MO.at.some {x : MO} {h : Heap} {a : Addr} (k : x.at h a) : ∃ o, h.get? a = some o := by
  cases x with
  | lst xs => obtain ⟨n, e⟩ := k; exact ⟨_, e⟩
  | cel v => obtain ⟨o, ho, hd⟩ := k; exact ⟨o, ho⟩
  | raw o => exact ⟨o, k⟩

noncomputable abbrev KF (w : World) : Frag := hd.heap_39 w.params

def Wd (w : World) (g : Heap) : Prop := (KF w).In g ∧ (∃ p loose mg mb, TopRead p loose mg mb g) ∧ ∃ o, g.get? sysModules = some o
theorem Wd.sub {w : World} {g g' : Heap} (x : Wd w g) (k : Sub g g') : Wd w g' :=
  ⟨x.1.keeps k, let ⟨p, l, mg, mb, t⟩ := x.2.1; ⟨p, l, mg, mb, t.keeps k⟩, let ⟨o, h⟩ := x.2.2; ⟨o, k _ _ h⟩⟩

structure Lc (w : World) (g : Heap) (L : Addr) (m : Str → Option Value) (mu : List (Addr × MO)) (h : Heap) : Prop where
  ns : h.Ns L m
  sub : Sub g h
  off : g.get? L = none
  mt : ∀ p ∈ mu, p.2.at h p.1 ∧ p.1 ≠ L ∧ g.get? p.1 = none
  nd : (mu.map (·.1)).Nodup
  wd : Wd w g

section
variable {w : World} {g h h' : Heap} {L a : Addr} {m m' : Str → Option Value} {mu : List (Addr × MO)} {o : Obj}

theorem none_of_size (h : Heap) {a : Addr} (ha : h.objs.size ≤ a) : h.get? a = none := by
  cases e : h.get? a with
  | none => rfl
  | some o => exact absurd (Heap.lt_size e) (Nat.not_lt.mpr ha)

theorem Lc.store (F : Lc w g L m mu h) (hn : h'.Ns L m') (hs : Heap.SameBut L h h') : Lc w g L m' mu h' :=
  ⟨hn, fun b o e => (hs.2 b (fun q => by rw [q, F.off] at e; cases e)).trans (F.sub b o e), F.off,
   fun p hp => ⟨(F.mt p hp).1.keep fun o e => (hs.2 p.1 (F.mt p hp).2.1).trans e, (F.mt p hp).2⟩, F.nd, F.wd⟩

theorem Lc.grow (F : Lc w g L m mu h) (k : Sub h h') : Lc w g L m mu h' :=
  ⟨F.ns.keeps k, F.sub.trans k, F.off, fun p hp => ⟨(F.mt p hp).1.keep fun o e => k _ _ e, (F.mt p hp).2⟩, F.nd, F.wd⟩

/-- all of the heap that is neither the frame nor a thing that changes -/
def frz (h : Heap) (L : Addr) (mu : List (Addr × MO)) : Heap := hideAll h (L :: mu.map (·.1))

theorem Lc.refreeze (F : Lc w g L m mu h) : Lc w (frz h L mu) L m mu h ∧ Sub g (frz h L mu) := by
  have hs : Sub g (frz h L mu) := fun b o e => hideAll_get _ (F.sub b o e) (by
    intro hm
    rcases List.mem_cons.mp hm with q | q
    · rw [q, F.off] at e; cases e
    · obtain ⟨p, hp, q⟩ := List.mem_map.mp q
      rw [← q, (F.mt p hp).2.2] at e; cases e)
  refine ⟨⟨F.ns, fun b o e => of_hideAll _ e, hideAll_none _ (List.mem_cons_self ..), fun p hp => ⟨(F.mt p hp).1, (F.mt p hp).2.1, hideAll_none _ (List.mem_cons_of_mem _ (List.mem_map_of_mem hp))⟩, F.nd, F.wd.sub hs⟩, hs⟩

/-- the heap has grown: what is new may be read -/
theorem Lc.ext (F : Lc w g L m mu h) (k : Sub h h') : ∃ g', Lc w g' L m mu h' ∧ Sub g g' ∧ ∀ a o, h.get? a = none → h'.get? a = some o → g'.get? a = some o := by
  have F' := F.grow k
  obtain ⟨F1, s1⟩ := F'.refreeze
  refine ⟨_, F1, s1, fun a o e1 e2 => hideAll_get _ e2 fun hm => ?_⟩
  rcases List.mem_cons.mp hm with q | q
  · obtain ⟨oL, _, _, hL, _⟩ := F.ns
    rw [q, hL] at e1; cases e1
  · obtain ⟨p, hp, q⟩ := List.mem_map.mp q
    obtain ⟨o', ho'⟩ := (F.mt p hp).1.some
    rw [← q, ho'] at e1; cases e1

theorem Lc.alloc (F : Lc w g L m mu h) (o : Obj) (hf : o.isFreed = false := by rfl) : ∃ g', Lc w g' L m mu (h.push o) ∧ Sub g g' ∧ g'.get? h.objs.size = some o := by
  obtain ⟨g', F', s', k⟩ := F.ext (Sub.push h o)
  exact ⟨g', F', s', k _ _ (none_of_size h (Nat.le_refl _)) (Heap.get?_push_size _ hf)⟩

theorem Lc.allocMu (F : Lc w g L m mu h) {o : Obj} (x : MO) (hx : x.at (h.push o) h.objs.size) : Lc w g L m ((h.objs.size, x) :: mu) (h.push o) := by
  have F' := F.grow (Sub.push h o)
  refine ⟨F'.ns, F'.sub, F'.off, fun p hp => ?_, ?_, F'.wd⟩
  · rcases List.mem_cons.mp hp with rfl | hp
    · refine ⟨hx, ?_, ?_⟩
      · obtain ⟨oL, _, _, hL, _⟩ := F.ns; exact Nat.ne_of_gt (Heap.lt_size hL)
      · cases e : g.get? h.objs.size with
        | none => rfl
        | some o' => exact absurd (Heap.lt_size (F.sub _ _ e)) (Nat.lt_irrefl _)
    · exact F'.mt p hp
  · refine List.nodup_cons.mpr ⟨fun hm => ?_, F.nd⟩
    obtain ⟨p, hp, q⟩ := List.mem_map.mp hm
    obtain ⟨o', ho'⟩ := (F.mt p hp).1.some
    have q' : p.1 = h.objs.size := q
    rw [q'] at ho'
    exact absurd (Heap.lt_size ho') (Nat.lt_irrefl _)

theorem Lc.upd {l1 l2 : List (Addr × MO)} {x y : MO} (F : Lc w g L m (l1 ++ (a, x) :: l2) h) (hs : Heap.SameBut a h h') (hy : y.at h' a) : Lc w g L m (l1 ++ (a, y) :: l2) h' := by
  have ha := F.mt (a, x) (by simp)
  have nd := F.nd
  rw [List.map_append, List.map_cons] at nd
  obtain ⟨n1, n2, n3⟩ := List.nodup_append.mp nd
  have na : ∀ p ∈ l1 ++ l2, p.1 ≠ a := fun p hp => by
    rcases List.mem_append.mp hp with q | q
    · exact n3 _ (List.mem_map_of_mem q) _ (List.mem_cons_self ..)
    · intro e
      exact (List.nodup_cons.mp n2).1 (List.mem_map.mpr ⟨p, q, e⟩)
  refine ⟨F.ns.sameBut hs (Ne.symm ha.2.1), fun b o e => (hs.2 b (fun q => by rw [q, ha.2.2] at e; cases e)).trans (F.sub b o e), F.off, fun p hp => ?_, ?_, F.wd⟩
  · rcases List.mem_append.mp hp with q | q
    · have P := F.mt p (List.mem_append_left _ q)
      exact ⟨P.1.keep fun o e => (hs.2 p.1 (na p (List.mem_append_left _ q))).trans e, P.2⟩
    · rcases List.mem_cons.mp q with rfl | q
      · exact ⟨hy, ha.2⟩
      · have P := F.mt p (List.mem_append_right _ (List.mem_cons_of_mem _ q))
        exact ⟨P.1.keep fun o e => (hs.2 p.1 (na p (List.mem_append_right _ q))).trans e, P.2⟩
  · simpa using nd

theorem Lc.freeze {x : MO} (F : Lc w g L m ((a, x) :: mu) h) : ∃ g', Lc w g' L m mu h ∧ Sub g g' ∧ ∀ o, h.get? a = some o → g'.get? a = some o := by
  have F0 : Lc w g L m mu h := ⟨F.ns, F.sub, F.off, fun p hp => F.mt p (List.mem_cons_of_mem _ hp), (List.nodup_cons.mp F.nd).2, F.wd⟩
  obtain ⟨F1, s1⟩ := F0.refreeze
  refine ⟨_, F1, s1, fun o e => hideAll_get _ e fun hm => ?_⟩
  rcases List.mem_cons.mp hm with q | q
  · exact (F.mt (a, x) (List.mem_cons_self ..)).2.1 q
  · exact (List.nodup_cons.mp F.nd).1 q

theorem Lc.drop {x : MO} (F : Lc w g L m ((a, x) :: mu) h) : Lc w g L m mu h :=
  ⟨F.ns, F.sub, F.off, fun p hp => F.mt p (List.mem_cons_of_mem _ hp), (List.nodup_cons.mp F.nd).2, F.wd⟩

theorem Lc.perm {mu' : List (Addr × MO)} (F : Lc w g L m mu h) (p : mu.Perm mu') : Lc w g L m mu' h :=
  ⟨F.ns, F.sub, F.off, fun q hq => F.mt q (p.mem_iff.mpr hq), (p.map _).nodup_iff.mp F.nd, F.wd⟩

theorem Lc.at {x : MO} (F : Lc w g L m mu h) (hm : (a, x) ∈ mu) : x.at h a := (F.mt _ hm).1
end

end Mine

set_option Elab.async false
set_option maxRecDepth 100000
set_option maxHeartbeats 1000000
set_option linter.unusedVariables false
set_option autoImplicit false
namespace Mine

section
variable {prog : Program} {w : World} {A : Around} {h : Heap} {env : Env} {Q : Flow → Heap → Prop} {P : Value → Heap → Prop} {B : Bool → Heap → Prop} {U : Unit → Heap → Prop}

/-- what the rest of a block asks when a statement has ended in f -/
def Then (prog : Program) (w : World) (A : Around) (env : Env) (rest : List Stmt) (Q : Flow → Heap → Prop) (f : Flow) (h : Heap) : Prop :=
  match f with
  | .next => Run prog w A (execs rest env) h Q
  | f => Q f h

theorem rNil (q : Q .next h) : Run prog w A (execs [] env) h Q := Run.of_pure rfl q

theorem rCons {st : Stmt} {rest : List Stmt} (r : Run prog w A (exec st env) h (Then prog w A env rest Q)) : Run prog w A (execs (st :: rest) env) h Q :=
  fun s E e => wpAny_execs_cons (wpAny_mono (r s E e) (fun f s' q => by
    cases f with
    | next => exact Run.step q.2 rfl q.1
    | brk => exact q
    | cont => exact q
    | ret v => exact q) fun _ _ x => x)

theorem rReturn {e : PySem.Expr} {pos : Pos} (r : Run prog w A (eval e env) h (fun v h' => Q (.ret v) h')) : Run prog w A (exec (.Return (some e) pos) env) h Q :=
  fun s E eh => wpAny_Return_some (r s E eh)

theorem rExpr {e : PySem.Expr} {pos : Pos} (r : Run prog w A (eval e env) h (fun _ h' => Q .next h'))
    (hi : interactive env = false := by rfl) (hs : swapsWith e none pos.line env = Pure.pure false := by rfl) : Run prog w A (exec (.Expr e pos) env) h Q :=
  fun s E eh => wpAny_Expr_any (r s E eh) hi hs

theorem rAssign {x : Str} {p pos : Pos} {e : PySem.Expr} (r : Run prog w A (eval e env) h (fun v h' => Run prog w A (storeName env x v) h' (fun _ h'' => Q .next h'')))
    (hs : swapsWith e (some (.Name x p)) pos.line env = Pure.pure false := by rfl) : Run prog w A (exec (.Assign [.Name x p] e pos) env) h Q :=
  fun s E eh => wpAny_Assign_Name (wpAny_mono (r s E eh) (fun v s' q => q.2.step rfl q.1) fun _ _ x => x) hs

theorem rIf {test : PySem.Expr} {body orelse : List Stmt} {pos : Pos}
    (r : Run prog w A (isTrue test env (eval test env)) h (fun b h' => if b then Run prog w A (execs body env) h' Q else Run prog w A (execs orelse env) h' Q)) :
    Run prog w A (exec (.If test body orelse pos) env) h Q :=
  fun s E eh => wpAny_If (wpAny_mono (r s E eh) (fun b s' q => by cases b <;> exact Run.step q.2 rfl q.1) fun _ _ x => x)

theorem rWhile {test : PySem.Expr} {body orelse : List Stmt} {pos : Pos} (r : RunC prog w A (.whileLoop test body orelse env) h Q) : Run prog w A (exec (.While test body orelse pos) env) h Q :=
  fun s E eh => wpAny_While (codeAny_mono (r s eh) fun r s' q => by obtain ⟨q1, f, rfl, q2⟩ := q; exact ⟨q1, q2⟩)

theorem rFor {target iter : PySem.Expr} {body orelse : List Stmt} {pos : Pos}
    (r : Run prog w A (eval iter env) h (fun x h₁ => Run prog w A (pyIter x) h₁ (fun it h₂ => RunC prog w A (.forLoop target it body orelse env) h₂ Q)))
    (hs : ∀ x, foldedSetIterable iter env x = Pure.pure x := by intro _; rfl) : Run prog w A (exec (.For target iter body orelse pos) env) h Q :=
  fun s E eh => wpAny_For (wpAny_mono (r s E eh) (fun x s₁ q => wpAny_mono (q.2 s₁ E rfl) (fun it s₂ q' =>
    codeAny_mono (q'.2 s₂ rfl) fun r s' z => by obtain ⟨z1, f, rfl, z2⟩ := z; exact ⟨glue q.1 (glue q'.1 z1), z2⟩) fun _ _ x => x) fun _ _ x => x) hs

/-- a while, by an invariant on the heap and a measure -/
theorem rWhileLoop {test : PySem.Expr} {body : List Stmt} (I : Nat → Heap → Prop)
    (turn : ∀ n h, I n h → Run prog w A (isTrue test env (eval test env)) h (fun b h₁ =>
      if b then Run prog w A (execs body env) h₁ (fun f h₂ => match f with
        | .next | .cont => ∃ m, m < n ∧ I m h₂
        | .brk => Q .next h₂
        | .ret v => Q (.ret v) h₂)
      else Q .next h₁)) (n : Nat) (h₀ : I n h) : RunC prog w A (.whileLoop test body [] env) h Q := by
  intro s eh
  refine codeAny_whileLoop (fun n s' => (∃ tk, s' = { s with heap := s'.heap, toks := tk }) ∧ I n s'.heap) (fun n s₁ hI => ?_) n ⟨⟨s.toks, rfl⟩, eh ▸ h₀⟩
  refine wpAny_mono (turn n s₁.heap hI.2 s₁ _ rfl) (fun b s₂ q => ?_) fun _ _ x => x
  obtain ⟨q1, q2⟩ := q
  cases b with
  | true =>
    simp only [if_true] at q2 ⊢
    refine wpAny_mono (q2 s₂ _ rfl) (fun f s₃ z => ?_) fun _ _ x => x
    have z1 := glue hI.1 (glue q1 z.1)
    have z2 := z.2
    cases f with
    | next => obtain ⟨m, hm, hI'⟩ := z2; exact ⟨m, hm, z1, hI'⟩
    | cont => obtain ⟨m, hm, hI'⟩ := z2; exact ⟨m, hm, z1, hI'⟩
    | brk => exact ⟨z1, _, rfl, z2⟩
    | ret v => exact ⟨z1, _, rfl, z2⟩
  | false =>
    simp only [Bool.false_eq_true, if_false] at q2 ⊢
    exact wpAny_execs_nil ⟨glue hI.1 q1, _, rfl, q2⟩

/-- a for, by an invariant on the heap and a measure -/
theorem rForLoop {target : PySem.Expr} {it : Value} {body : List Stmt} (I : Nat → Heap → Prop)
    (turn : ∀ n h, I n h → Run prog w A (pyNext it) h (fun r h₁ => match r with
      | none => Q .next h₁
      | some v => Run prog w A (letOwnedTupleGo target it v) h₁ (fun _ h₁' => Run prog w A (assign target env v) h₁' (fun _ h₂ => Run prog w A (execs body env) h₂ (fun f h₃ => match f with
        | .next | .cont => ∃ m, m < n ∧ I m h₃
        | .brk => Q .next h₃
        | .ret v => Q (.ret v) h₃))))) (n : Nat) (h₀ : I n h) : RunC prog w A (.forLoop target it body [] env) h Q := by
  intro s eh
  refine codeAny_forLoop_any (fun n s' => (∃ tk, s' = { s with heap := s'.heap, toks := tk }) ∧ I n s'.heap) (fun n s₁ hI => ?_) n ⟨⟨s.toks, rfl⟩, eh ▸ h₀⟩
  refine wpAny_mono (turn n s₁.heap hI.2 s₁ _ rfl) (fun r s₂ q => ?_) fun _ _ x => x
  obtain ⟨q1, q2⟩ := q
  cases r with
  | none => exact wpAny_execs_nil ⟨glue hI.1 q1, _, rfl, q2⟩
  | some v =>
    refine wpAny_mono (q2 s₂ _ rfl) (fun _ s₂' z0 => ?_) fun _ _ x => x
    obtain ⟨z01, z02⟩ := z0
    refine wpAny_mono (z02 s₂' _ rfl) (fun _ s₃ z => ?_) fun _ _ x => x
    refine wpAny_mono (z.2 s₃ _ rfl) (fun f s₄ y => ?_) fun _ _ x => x
    have y1 := glue hI.1 (glue q1 (glue z01 (glue z.1 y.1)))
    have y2 := y.2
    cases f with
    | next => obtain ⟨m, hm, hI'⟩ := y2; exact ⟨m, hm, y1, hI'⟩
    | cont => obtain ⟨m, hm, hI'⟩ := y2; exact ⟨m, hm, y1, hI'⟩
    | brk => exact ⟨y1, _, rfl, y2⟩
    | ret v => exact ⟨y1, _, rfl, y2⟩

theorem letGo_name {x : Str} {p : Pos} {it v : Value} : Run prog w A (letOwnedTupleGo (.Name x p) it v) h (fun _ h' => h' = h) := Run.of_pure rfl rfl

-- tests
theorem rTestCmp {l r : PySem.Expr} {op : CmpOp} {pos : Pos} {whole : Sem Value}
    (k : Run prog w A (eval l env) h (fun a h₁ => Run prog w A (eval r env) h₁ (fun b h₂ => Run prog w A (compareOp op a b) h₂ (fun c h₃ => Run prog w A (truthy c) h₃ B))))
    (hm : behindInMarks op r = false := by with_unfolding_all rfl) : Run prog w A (isTrue (.Compare l [op] [r] pos) env whole) h B :=
  fun s E eh => wpAny_isTrue_Compare1 (wpAny_mono (k s E eh) (fun a s₁ q => wpAny_mono (q.2 s₁ E rfl) (fun b s₂ q' => wpAny_mono (q'.2 s₂ E rfl) (fun c s₃ z => z.2.step rfl (glue q.1 (glue q'.1 z.1))) fun _ _ x => x) fun _ _ x => x) fun _ _ x => x) hm
theorem rTruthBool {b : Bool} (q : B b h) : Run prog w A (truthy (.bool b)) h B := fun s E e => wpAny_truthy_bool ⟨⟨s.toks, rfl⟩, e ▸ q⟩
theorem rTestVal {e : PySem.Expr} {whole : Sem Value} (k : Run prog w A whole h (fun v h₁ => Run prog w A (truthy v) h₁ B))
    (he : isTrue e env whole = (do let v ← whole; standAt e.pos; holding [v] (truthy v)) := by rfl) : Run prog w A (isTrue e env whole) h B :=
  fun s E eh => wpAny_isTrue_value (wpAny_mono (k s E eh) (fun v s₁ q => q.2.step rfl q.1) fun _ _ x => x) he
theorem rTestNot {x : PySem.Expr} {pos : Pos} {whole : Sem Value} (k : Run prog w A (isTrue x env (eval x env)) h (fun b h' => B (!b) h')) : Run prog w A (isTrue (.UnaryOp .Not x pos) env whole) h B :=
  fun s E eh => wpAny_isTrue_Not (k s E eh)
theorem rTestBool {op : BoolOp} {vs : List PySem.Expr} {pos : Pos} {whole : Sem Value} (k : Run prog w A (allTrue op vs env) h B) : Run prog w A (isTrue (.BoolOp op vs pos) env whole) h B :=
  fun s E eh => wpAny_isTrue_BoolOp (k s E eh)
theorem rAndNil (q : B true h) : Run prog w A (allTrue .And [] env) h B := Run.of_pure rfl q
theorem rOrNil (q : B false h) : Run prog w A (allTrue .Or [] env) h B := Run.of_pure rfl q
theorem rAndCons {x : PySem.Expr} {rest : List PySem.Expr} (k : Run prog w A (isTrue x env (eval x env)) h (fun b h' => if b then Run prog w A (allTrue .And rest env) h' B else B false h')) : Run prog w A (allTrue .And (x :: rest) env) h B :=
  fun s E eh => wpAny_allTrue_And_cons (wpAny_mono (k s E eh) (fun b s₁ q => by
    obtain ⟨q1, q2⟩ := q
    cases b with
    | true => exact Run.step q2 rfl q1
    | false => exact ⟨q1, q2⟩) fun _ _ x => x)
theorem rOrCons {x : PySem.Expr} {rest : List PySem.Expr} (k : Run prog w A (isTrue x env (eval x env)) h (fun b h' => if b then B true h' else Run prog w A (allTrue .Or rest env) h' B)) : Run prog w A (allTrue .Or (x :: rest) env) h B :=
  fun s E eh => wpAny_allTrue_Or_cons (wpAny_mono (k s E eh) (fun b s₁ q => by
    obtain ⟨q1, q2⟩ := q
    cases b with
    | false => exact Run.step q2 rfl q1
    | true => exact ⟨q1, q2⟩) fun _ _ x => x)

-- expressions
theorem rInt {i : Int} {k : Nat} {pos : Pos} (q : ∀ t, P (.int i t) h) : Run prog w A (eval (.Constant (.int i) k pos) env) h P :=
  fun s E e => wpAny_Constant_int ⟨⟨_, rfl⟩, e ▸ q _⟩
theorem rStr {x : Str} {k : Nat} {pos : Pos} (q : ∀ t, P (.str x t) h) : Run prog w A (eval (.Constant (.str x) k pos) env) h P :=
  fun s E e => wpAny_Constant_str ⟨⟨_, rfl⟩, e ▸ q _⟩
theorem rBool {b : Bool} {k : Nat} {pos : Pos} (q : P (.bool b) h) : Run prog w A (eval (.Constant (.bool b) k pos) env) h P := Run.of_pure rfl q
theorem rNone {k : Nat} {pos : Pos} (q : P .none h) : Run prog w A (eval (.Constant .none k pos) env) h P := Run.of_pure rfl q
theorem rBin {l r : PySem.Expr} {op : Operator} {pos : Pos} (k : Run prog w A (eval l env) h (fun a h₁ => Run prog w A (eval r env) h₁ (fun b h₂ => Run prog w A (binaryOp op a b) h₂ P))) :
    Run prog w A (eval (.BinOp l op r pos) env) h P :=
  fun s E eh => wpAny_BinOp (wpAny_mono (k s E eh) (fun a s₁ q => wpAny_mono (q.2 s₁ E rfl) (fun b s₂ q' => q'.2.step rfl (glue q.1 q'.1)) fun _ _ x => x) fun _ _ x => x)
theorem rCmp {l r : PySem.Expr} {op : CmpOp} {pos : Pos} (k : Run prog w A (eval l env) h (fun a h₁ => Run prog w A (eval r env) h₁ (fun b h₂ => Run prog w A (compareOp op a b) h₂ P)))
    (hm : behindInMarks op r = false := by with_unfolding_all rfl) : Run prog w A (eval (.Compare l [op] [r] pos) env) h P :=
  fun s E eh => wpAny_Compare1 (wpAny_mono (k s E eh) (fun a s₁ q => wpAny_mono (q.2 s₁ E rfl) (fun b s₂ q' => q'.2.step rfl (glue q.1 q'.1)) fun _ _ x => x) fun _ _ x => x) hm
theorem rUn {x : PySem.Expr} {op : UnaryOp} {pos : Pos} (k : Run prog w A (eval x env) h (fun a h₁ => Run prog w A (unaryOp op a) h₁ P)) : Run prog w A (eval (.UnaryOp op x pos) env) h P :=
  fun s E eh => wpAny_UnaryOp (wpAny_mono (k s E eh) (fun a s₁ q => q.2.step rfl q.1) fun _ _ x => x)
theorem rIfExp {t b o : PySem.Expr} {pos : Pos} (k : Run prog w A (isTrue t env (eval t env)) h (fun c h₁ => if c then Run prog w A (eval b env) h₁ P else Run prog w A (eval o env) h₁ P)) : Run prog w A (eval (.IfExp t b o pos) env) h P :=
  fun s E eh => wpAny_IfExp (wpAny_mono (k s E eh) (fun c s₁ q => by cases c <;> exact Run.step q.2 rfl q.1) fun _ _ x => x)
theorem rSub {value slice : PySem.Expr} {pos : Pos} (k : Run prog w A (eval value env) h (fun o h₁ => Run prog w A (eval slice env) h₁ (fun i h₂ => Run prog w A (subscriptTail value slice o i) h₂ P))) :
    Run prog w A (eval (.Subscript value slice pos) env) h P :=
  fun s E eh => Subscript_ (wpAny_mono (k s E eh) (fun a s₁ q => wpAny_mono (q.2 s₁ E rfl) (fun b s₂ q' => q'.2.step rfl (glue q.1 q'.1)) fun _ _ x => x) fun _ _ x => x)

-- lists of expressions
variable {V : List Value → Heap → Prop}
theorem rItemsNil {pos : Pos} (q : V [] h) : Run prog w A (spliced (backTo pos (starEach [] env))) h V := Run.of_pure rfl q
theorem rItems {pos : Pos} {e : PySem.Expr} {rest : List PySem.Expr} (k : Run prog w A (eval e env) h (fun v h₁ => Run prog w A (spliced (backTo pos (starEach rest env))) h₁ (fun vs h₂ => V (v :: vs) h₂)))
    (he : starEach (e :: rest) env = (false, eval e env) :: starEach rest env := by rfl) : Run prog w A (spliced (backTo pos (starEach (e :: rest) env))) h V :=
  fun s E eh => wpAny_items_cons (wpAny_mono (k s E eh) (fun v s₁ q => q.2.step rfl q.1) fun _ _ x => x) he
theorem rList {elts : List PySem.Expr} {pos : Pos} (k : Run prog w A (spliced (backTo pos (starEach elts env))) h (fun vs h₁ => vs.length ≤ sizeLine ∧ P (.ref h₁.objs.size) (h₁.push { cls := .type "list", data := .seq vs.toArray }))) :
    Run prog w A (eval (.List elts pos) env) h P :=
  fun s E eh => wpAny_List (wpAny_mono (k s E eh) (fun vs s₁ q => by obtain ⟨⟨tk, e⟩, q2, q3⟩ := q; exact ⟨q2, ⟨tk, by rw [e]⟩, q3⟩) fun _ _ x => x)
theorem rTuple {elts : List PySem.Expr} {n : Nat} {pos : Pos} (k : Run prog w A (spliced (backTo pos (starEach elts env))) h (fun vs h₁ => vs.length ≤ sizeLine ∧ P (.ref h₁.objs.size) (h₁.push { cls := .type "tuple", data := .seq vs.toArray }))) :
    Run prog w A (eval (.Tuple elts n pos) env) h P :=
  fun s E eh => wpAny_Tuple (wpAny_mono (k s E eh) (fun vs s₁ q => by obtain ⟨⟨tk, e⟩, q2, q3⟩ := q; exact ⟨q2, ⟨tk, by rw [e]⟩, q3⟩) fun _ _ x => x)
end

end Mine

set_option Elab.async false
set_option maxRecDepth 100000
set_option maxHeartbeats 1000000
set_option linter.unusedVariables false
set_option autoImplicit false
namespace Mine

/-- m with x standing for v -/
def up (m : Str → Option Value) (x : Str) (v : Value) : Str → Option Value := fun y => if y = x then some v else m y
theorem up_same {m : Str → Option Value} {x : Str} {v : Value} : up m x v x = some v := by simp [up]
theorem up_ne {m : Str → Option Value} {x y : Str} {v : Value} (h : y ≠ x) : up m x v y = m y := by simp [up, h]

theorem sub_of_extBut_size {h h' : Heap} (e : Heap.ExtBut h.objs.size h h') : Sub h h' := fun b o q => e b o (Nat.ne_of_lt (Heap.lt_size q)) q

section
variable {prog : Program} {w : World} {A : Around} {g h : Heap} {L : Addr} {m : Str → Option Value} {mu : List (Addr × MO)} {env : Env} {Q : Flow → Heap → Prop} {P : Value → Heap → Prop} {B : Bool → Heap → Prop} {U : Unit → Heap → Prop} {V : List Value → Heap → Prop}

theorem rLocal {x : Str} {pos : Pos} {v : Value} (F : Lc w g L m mu h) (hv : m x = some v) (q : P v h)
    (hL : env.locals = L := by rfl) (hk : env.scope.kind = .function := by rfl) (hx : env.kindOf x = some .local := by rfl) (hd : (x == ("__debug__" : Str)) = false := by decide) :
    Run prog w A (eval (.Name x pos) env) h P :=
  fun s E e => wpAny_Name (wpAny_loadName_local hk hx (by rw [hL, e]; exact F.ns) hv ⟨⟨s.toks, rfl⟩, e ▸ q⟩) hd

theorem rCell {x : Str} {pos : Pos} {v : Value} {c : Addr} (hc : h.IsCell c (some v)) (q : P v h) (hcl : env.cells.lookup x = some c := by rfl)
    (hk : env.scope.kind = .function := by rfl) (hx : env.kindOf x = some .cell := by rfl) (hd : (x == ("__debug__" : Str)) = false := by decide) :
    Run prog w A (eval (.Name x pos) env) h P :=
  fun s E e => wpAny_Name (wpAny_loadName_cell hk hx hcl (e ▸ hc) ⟨⟨s.toks, rfl⟩, e ▸ q⟩) hd
theorem rFree {x : Str} {pos : Pos} {v : Value} {c : Addr} (hc : h.IsCell c (some v)) (q : P v h) (hcl : env.cells.lookup x = some c := by rfl)
    (hk : env.scope.kind = .function := by rfl) (hx : env.kindOf x = some .free := by rfl) (hd : (x == ("__debug__" : Str)) = false := by decide) (hn : (x == ("__classdict__" : Str)) = false := by decide) :
    Run prog w A (eval (.Name x pos) env) h P :=
  fun s E e => wpAny_Name (wpAny_loadName_free hk hx hcl (e ▸ hc) ⟨⟨s.toks, rfl⟩, e ▸ q⟩ hn) hd

theorem rGlobal {x : Str} {pos : Pos} {v : Value} (W : Wd w h) (e : nsIn (KF w) mainGlobals x = some (some v)) (q : P v h)
    (hg : env.globals = mainGlobals := by rfl) (hk : env.scope.kind = .function := by rfl) (hx : env.kindOf x = some .globalImplicit := by rfl) (hd : (x == ("__debug__" : Str)) = false := by decide) :
    Run prog w A (eval (.Name x pos) env) h P := fun s E eh => by
  obtain ⟨K, ⟨p, l, mg, mb, T⟩, _⟩ := W
  exact Calls.Name_function_global hk hx (Calls.loadGlobal_global (by rw [hg, eh]; exact T.g) (mg_of K T.g e) ⟨⟨s.toks, rfl⟩, eh ▸ q⟩) hd
theorem rBuiltin {x : Str} {pos : Pos} {v : Value} (W : Wd w h) (e : nsIn (KF w) mainGlobals x = some none) (hv : bootBuiltins x = some v) (q : P v h) (hn : x ≠ "__name__" := by decide)
    (hg : env.globals = mainGlobals := by rfl) (hb : env.builtins = builtinsNs := by rfl) (hk : env.scope.kind = .function := by rfl) (hx : env.kindOf x = some .globalImplicit := by rfl) (hd : (x == ("__debug__" : Str)) = false := by decide) :
    Run prog w A (eval (.Name x pos) env) h P := fun s E eh => by
  obtain ⟨K, ⟨p, l, mg, mb, T⟩, _⟩ := W
  exact Calls.Name_function_global hk hx (Calls.loadGlobal_builtin (by rw [hg, eh]; exact T.g) (mg_none_of K T.g e) (by rw [hb, eh]; exact T.b) ((T.builtins x hn).trans hv) ⟨⟨s.toks, rfl⟩, eh ▸ q⟩) hd

theorem Lc.wdh (F : Lc w g L m mu h) : Wd w h := F.wd.sub F.sub

theorem rStore {x : Str} {v : Value} (F : Lc w g L m mu h) (k : ∀ h', Lc w g L (up m x v) mu h' → U () h')
    (hL : env.locals = L := by rfl) (hk : env.scope.kind = .function := by rfl) (hx : env.kindOf x = some .local := by rfl) : Run prog w A (storeName env x v) h U :=
  fun s E e => wpAny_storeName_local hx (by rw [hL, e]; exact F.ns) (fun h' hn hs => ⟨⟨_, rfl⟩, k h' (F.store (by rw [hL] at hn; exact hn) (by rw [hL, e] at hs; exact hs))⟩)
    (by rw [hk]; rfl)

theorem rStoreCell {x : Str} {v : Value} {v₀ : Option Value} {c : Addr} {l1 l2 : List (Addr × MO)} (F : Lc w g L m (l1 ++ (c, .cel v₀) :: l2) h) (k : ∀ h', Lc w g L m (l1 ++ (c, .cel (some v)) :: l2) h' → U () h')
    (hcl : env.cells.lookup x = some c := by rfl) (hk : env.scope.kind = .function := by rfl) (hx : env.kindOf x = some .cell := by rfl) : Run prog w A (storeName env x v) h U :=
  fun s E e => wpAny_storeName_cell hk hx hcl (by rw [e]; exact F.at (x := .cel v₀) (by simp)) (fun h' hn hs => ⟨⟨_, rfl⟩, k h' (F.upd (e ▸ hs) hn)⟩)

-- calls
theorem rCall {x : Str} {p pos : Pos} {args : List PySem.Expr} (k : Run prog w A (eval (.Name x p) env) h (fun f h₁ => Run prog w A (callWith pos f [] (backTo pos (starEach args env)) []) h₁ P)) :
    Run prog w A (eval (.Call (.Name x p) args [] pos) env) h P :=
  fun s E eh => Call_Name rfl (wpAny_mono (k s E eh) (fun f s₁ q => q.2.step rfl q.1) fun _ _ x => x)

theorem rCallFn {f : Addr} {o : Obj} {fd : FuncData} {e : PySem.Expr} {rest : List PySem.Expr} {pos : Pos} (hdat : o.data = .func fd)
    (k : Run prog w A (spliced (backTo pos (starEach (e :: rest) env))) h (fun vs h₁ => h₁.get? f = some o ∧ Run prog w A (call (.ref f) vs) h₁ P))
    (he : starEach (e :: rest) env = (false, eval e env) :: starEach rest env := by rfl) : Run prog w A (callWith pos (.ref f) [] (backTo pos (starEach (e :: rest) env)) []) h P :=
  fun s E eh => callWith_def hdat (wpAny_mono (k s E eh) (fun vs s₁ q => ⟨q.2.1, q.2.2.step rfl q.1⟩) fun _ _ x => x) he

theorem rCallB {id : String} {e : PySem.Expr} {rest : List PySem.Expr} {pos : Pos}
    (k : Run prog w A (spliced (backTo pos (starEach (e :: rest) env))) h (fun vs h₁ => Run prog w A (call (.builtin id) vs) h₁ P))
    (he : starEach (e :: rest) env = (false, eval e env) :: starEach rest env := by rfl) (hplain : (backTo pos (starEach rest env)).any (·.1) = false := by rfl) :
    Run prog w A (callWith pos (.builtin id) [] (backTo pos (starEach (e :: rest) env)) []) h P :=
  fun s E eh => callWith_builtin1 (wpAny_mono (k s E eh) (fun vs s₁ q => q.2.step rfl q.1) fun _ _ x => x) he hplain

theorem rCallT {T : String} {e : PySem.Expr} {rest : List PySem.Expr} {pos : Pos}
    (k : Run prog w A (spliced (backTo pos (starEach (e :: rest) env))) h (fun vs h₁ => Run prog w A (call (.type T) vs) h₁ P))
    (he : starEach (e :: rest) env = (false, eval e env) :: starEach rest env := by rfl) (hplain : (backTo pos (starEach rest env)).any (·.1) = false := by rfl) :
    Run prog w A (callWith pos (.type T) [] (backTo pos (starEach (e :: rest) env)) []) h P :=
  fun s E eh => PyProof.Rows.callWith_type1 (wpAny_mono (k s E eh) (fun vs s₁ q => q.2.step rfl q.1) fun _ _ x => x) he hplain

theorem rMethod {o : PySem.Expr} {name : Str} {apos pos : Pos} {args : List PySem.Expr} {pl : Sem Bool}
    (k : Run prog w A (eval o env) h (fun ov h₁ => Run prog w A (getMethod ov name pl) h₁ (fun fx h₂ => Run prog w A (callWith pos fx.1 fx.2 (backTo pos (starEach args env)) []) h₂ P)))
    (he : eval (.Call (.Attribute o name apos) args [] pos) env = (do
      let ov ← eval o env
      standAt apos.atName
      let (f, first) ← holding [ov] (getMethod ov name pl)
      callWith pos f first (backTo pos (starEach args env)) []) := by rfl) : Run prog w A (eval (.Call (.Attribute o name apos) args [] pos) env) h P :=
  fun s E eh => MethodCall_ (wpAny_mono (k s E eh) (fun a s₁ q => wpAny_mono (q.2 s₁ E rfl) (fun b s₂ q' => q'.2.step rfl (glue q.1 q'.1)) fun _ _ x => x) fun _ _ x => x) he

theorem rCallM {id : String} {first : List Value} {e : PySem.Expr} {rest : List PySem.Expr} {pos : Pos}
    (k : Run prog w A (spliced (backTo pos (starEach (e :: rest) env))) h (fun vs h₁ => Run prog w A (call (.builtin id) (first ++ vs)) h₁ P))
    (he : starEach (e :: rest) env = (false, eval e env) :: starEach rest env := by rfl) (hplain : (backTo pos (starEach rest env)).any (·.1) = false := by rfl) :
    Run prog w A (callWith pos (.builtin id) first (backTo pos (starEach (e :: rest) env)) []) h P := fun s E eh => by
  have k' := wpAny_mono (k s E eh) (fun vs s₁ q => q.2.step (E := E) rfl q.1) fun _ _ (x : E _ _) => x
  rw [he] at k' ⊢
  exact Calls.callWith_builtin (by show (false || (backTo pos (starEach rest env)).any (·.1)) = false; rw [hplain]; rfl) (Calls.evalArgs_plain k')
theorem rCallM0 {id : String} {first : List Value} {pos : Pos} (k : Run prog w A (call (.builtin id) first) h P) : Run prog w A (callWith pos (.builtin id) first (backTo pos (starEach [] env)) []) h P :=
  fun s E eh => callWith_method0 (k s E eh)

/-- the def's body, from the whole heap at the call as its frozen part -/
theorem rEnter {f : Addr} {oc : Value} {od : Option Addr} {osl : Array (Option Value)} {fd : FuncData} {body : List Stmt} {vals : List Value} {binds : List (Str × Value)} (W : Wd w h) (hroom : A.depth < recursionLimit)
    (ho : (KF w).lookup f = some ⟨oc, od, .func fd, osl⟩) (hbody : fd.body = .stmts body) (hcd : codeIn (KF w) fd.code fd.qualname = true)
    (hbind : ∀ s : Shared, s.heap = h → BindsTo s fd ⟨vals, []⟩ binds)
    (hcell : ∀ x ∈ fd.scope.names, x.2 ≠ .cell) (hloc : ∀ x ∈ binds, fd.scope.names.lookup x.1 = some .local)
    (k : ∀ h₁, Lc w h h.objs.size (fun x => binds.reverse.lookup x) [] h₁ →
      Run prog w (A.deeper (callEnv fd h.objs.size f)) (execs body (callEnv fd h.objs.size f)) h₁ (fun fl h₂ => P (match fl with | .ret v => v | _ => .none) h₂))
    (hco : fd.scope.isCoroutine = false := by rfl) (hgen : fd.scope.isGenerator = false := by rfl) (hk : fd.scope.kind = .function := by rfl) :
    Run prog w A (call (.ref f) vals) h P := fun s E eh => by
  subst eh
  obtain ⟨K, ⟨p, l, mg, mb, T⟩, _⟩ := id W
  refine wpAny_call (codeAny_call_def hroom (K _ _ ho) rfl T.nolimit (codeRec_of K hcd) hbody (hbind s rfl) hcell hloc (fun h₀ hn hs => ?_) hco hgen hk)
  refine wpAny_mono ((k h₀ ⟨hn, hs, none_of_size _ (Nat.le_refl _), (fun _ hp => nomatch hp), List.nodup_nil, W⟩) { s with heap := h₀, toks := s.toks + binds.length } _ rfl) (fun fl s' q => ?_) fun _ _ x => x
  exact ⟨glue ⟨_, rfl⟩ q.1, q.2⟩

/-- the same where some locals are cells -/
theorem rEnterC {f : Addr} {oc : Value} {od : Option Addr} {osl : Array (Option Value)} {fd : FuncData} {body : List Stmt} {vals : List Value} {binds : List (Str × Value)} (W : Wd w h) (hroom : A.depth < recursionLimit)
    (ho : (KF w).lookup f = some ⟨oc, od, .func fd, osl⟩) (hbody : fd.body = .stmts body) (hcd : codeIn (KF w) fd.code fd.qualname = true)
    (hbind : bindArgs fd ⟨vals, []⟩ = Pure.pure binds) (hclo : fd.closure = [])
    (hkind : ∀ x ∈ binds, fd.scope.names.lookup x.1 = some .local ∨ (fd.scope.names.lookup x.1 = some .cell ∧ ((cellsFrom (h.objs.size + 1) fd.scope.names []).lookup x.1).isSome = true))
    (k : ∀ h₁, Lc w h h.objs.size (bindL (callEnvC fd h.objs.size f).kindOf binds fun _ => none) [] h₁ →
      (∀ n c, (cellsFrom (h.objs.size + 1) fd.scope.names []).lookup n = some c → h₁.IsCell c (bindC (callEnvC fd h.objs.size f).kindOf binds (fun _ => none) n) ∧ h.objs.size < c ∧ h.get? c = none) →
      Run prog w (A.deeper (callEnvC fd h.objs.size f)) (execs body (callEnvC fd h.objs.size f)) h₁ (fun fl h₂ => P (match fl with | .ret v => v | _ => .none) h₂))
    (hco : fd.scope.isCoroutine = false := by rfl) (hgen : fd.scope.isGenerator = false := by rfl) (hk : fd.scope.kind = .function := by rfl) :
    Run prog w A (call (.ref f) vals) h P := fun s E eh => by
  subst eh
  obtain ⟨K, ⟨p, l, mg, mb, T⟩, _⟩ := id W
  refine wpAny_call (codeAny_call_cells hroom (K _ _ ho) rfl T.nolimit (codeRec_of K hcd) hbody hbind hclo hkind (fun s₁ x => ?_) hco hgen hk)
  obtain ⟨h₁, tk, rfl, hkeep⟩ := x.done
  have F : Lc w s.heap s.heap.objs.size (bindL (callEnvC fd s.heap.objs.size f).kindOf binds fun _ => none) [] h₁ :=
    ⟨x.toInCall.ns, hkeep, none_of_size _ (Nat.le_refl _), (fun _ hp => nomatch hp), List.nodup_nil, W⟩
  refine wpAny_mono ((k h₁ F fun n c hc => ⟨x.cell n c hc, x.above n c (mem_of_lookup hc), none_of_size _ (Nat.le_of_lt (x.above n c (mem_of_lookup hc)))⟩) { s with heap := h₁, toks := tk } _ rfl) (fun fl s' q => ?_) fun _ _ x => x
  exact ⟨glue ⟨_, rfl⟩ q.1, q.2⟩
end

end Mine

set_option Elab.async false
set_option maxRecDepth 100000
set_option maxHeartbeats 1000000
set_option linter.unusedVariables false
set_option autoImplicit false
namespace Mine

theorem sizeLine_val : sizeLine = 16777216 := rfl

section
variable {prog : Program} {w : World} {A : Around} {h : Heap} {env : Env} {P : Value → Heap → Prop} {B : Bool → Heap → Prop} {a b : Int} {t u : Tok}

theorem ans {s : Shared} {v : Value} {h : Heap} {P : Value → Heap → Prop} {k : Nat} (e : s.heap = h) (q : P v h) : (∃ tk, ({ s with toks := k } : Shared) = { s with heap := s.heap, toks := tk }) ∧ P v s.heap := ⟨⟨k, rfl⟩, e ▸ q⟩
theorem ans0 {α : Type} {s : Shared} {v : α} {h : Heap} {P : α → Heap → Prop} (e : s.heap = h) (q : P v h) : (∃ tk, s = { s with heap := s.heap, toks := tk }) ∧ P v s.heap := ⟨⟨s.toks, rfl⟩, e ▸ q⟩

theorem rAddI (q : ∀ t, P (.int (a + b) t) h) : Run prog w A (binaryOp .Add (.int a t) (.int b u)) h P := fun s E e => PyProof.Rows.add_int (ans e (q _))
theorem rSubI (q : ∀ t, P (.int (a - b) t) h) : Run prog w A (binaryOp .Sub (.int a t) (.int b u)) h P := fun s E e => PyProof.Rows.sub_int (ans e (q _))
theorem rModI (hb : b ≠ 0) (q : ∀ t, P (.int (a.fmod b) t) h) : Run prog w A (binaryOp .Mod (.int a t) (.int b u)) h P := fun s E e => PyProof.Rows.mod_int hb (ans e (q _))
theorem rDivI (hb : b ≠ 0) (hs : b.natAbs < 1073741824) (q : ∀ t, P (.int (a.fdiv b) t) h) : Run prog w A (binaryOp .FloorDiv (.int a t) (.int b u)) h P := fun s E e => PyProof.Rows.floordiv_int (hp := .inl (PyProof.noPylong_small hs)) hb (ans e (q _))
theorem rPowI (hn : 0 ≤ b) (hsz : (Builtin.Int.intBits a : Int) * b ≤ 2 ^ 27) (q : ∀ t, P (.int (a ^ b.toNat) t) h) : Run prog w A (binaryOp .Pow (.int a t) (.int b u)) h P := fun s E e => PyProof.Rows.pow_int hn hsz (ans e (q _))
theorem rNegI (q : ∀ t, P (.int (-a) t) h) : Run prog w A (unaryOp .USub (.int a t)) h P := fun s E e => PyProof.Rows.neg_int (ans e (q _))
theorem rLtI (q : P (.bool (decide (a < b))) h) : Run prog w A (compareOp .Lt (.int a t) (.int b u)) h P := fun s E e => PyProof.Rows.lt_int (ans0 e q)
theorem rGtI (q : P (.bool (decide (b < a))) h) : Run prog w A (compareOp .Gt (.int a t) (.int b u)) h P := fun s E e => PyProof.Rows.gt_int (ans0 e q)
theorem rGeI (q : P (.bool (decide (b ≤ a))) h) : Run prog w A (compareOp .GtE (.int a t) (.int b u)) h P := fun s E e => PyProof.Rows.ge_int (ans0 e q)
theorem rEqI (q : P (.bool (a == b)) h) : Run prog w A (compareOp .Eq (.int a t) (.int b u)) h P := fun s E e => PyProof.Rows.eq_int (ans0 e q)
theorem rNeI (q : P (.bool (a != b)) h) : Run prog w A (compareOp .NotEq (.int a t) (.int b u)) h P := fun s E e => PyProof.Rows.ne_int (ans0 e q)
theorem rEqS {x y : Str} (q : P (.bool (x == y)) h) : Run prog w A (compareOp .Eq (.str x t) (.str y u)) h P := fun s E e => PyProof.Rows.eq_str (ans0 e q)
theorem rNeS {x y : Str} (q : P (.bool (x != y)) h) : Run prog w A (compareOp .NotEq (.str x t) (.str y u)) h P := fun s E e => PyProof.Rows.ne_str (ans0 e q)

-- lists
theorem PlainList.isList' {h : Heap} {l : Addr} {xs : List Value} (x : h.PlainList l xs.toArray) : h.IsList l xs.toArray := x.isList

theorem rLenL {l : Addr} {xs : List Value} (hl : h.IsList l xs.toArray) (hn : xs.length < 2 ^ 24) (q : ∀ t, P (.int xs.length t) h) : Run prog w A (call (.builtin "len") [.ref l]) h P :=
  fun s E e => Calls.call_len_list (e ▸ hl) (by simp; omega) ⟨⟨_, rfl⟩, by simpa [e] using q _⟩
theorem rLenT {l : Addr} {xs : List Value} (hl : IsTup h l xs.toArray) (hn : xs.length < 2 ^ 24) (q : ∀ t, P (.int xs.length t) h) : Run prog w A (call (.builtin "len") [.ref l]) h P :=
  fun s E e => len_tuple (e ▸ hl) (by simp; omega) ⟨⟨_, rfl⟩, by simpa [e] using q _⟩

/-- a new object -/
def NewAt (h : Heap) (a : Addr) (h' : Heap) : Prop := Sub h h' ∧ h.get? a = none
theorem newAt_push (h : Heap) (o : Obj) : NewAt h h.objs.size (h.push o) := ⟨Sub.push h o, none_of_size h (Nat.le_refl _)⟩
theorem NewAt.sub {h h' : Heap} {a : Addr} (x : NewAt h a h') : Sub h h' := x.1
theorem NewAt.none {h h' : Heap} {a : Addr} (x : NewAt h a h') : h.get? a = none := x.2
theorem none_up {h₀ h : Heap} {a : Addr} (x : h.get? a = none) (k : Sub h₀ h) : h₀.get? a = none := by
  cases e : h₀.get? a with
  | none => rfl
  | some o => rw [k _ _ e] at x; cases x
theorem NewAt.up {h₀ h h' : Heap} {a : Addr} (x : NewAt h a h') (k : Sub h₀ h) : NewAt h₀ a h' := ⟨k.trans x.1, none_up x.2 k⟩
/-- an address that h does not have, and that is not sys.modules -/
def Fresh (h : Heap) (a : Addr) : Prop := h.get? a = none ∧ (a == sysModules) = false
theorem Wd.fresh {w : World} {h : Heap} {a : Addr} (W : Wd w h) (x : h.get? a = none) : Fresh h a := by
  refine ⟨x, beq_eq_false_iff_ne.mpr fun e => ?_⟩
  obtain ⟨_, _, o, ho⟩ := W
  rw [e, ho] at x
  cases x
theorem NewAt.fresh {w : World} {h h' : Heap} {a : Addr} (x : NewAt h a h') (W : Wd w h) : Fresh h a := W.fresh x.none
theorem Fresh.up {h₀ h : Heap} {a : Addr} (x : Fresh h a) (k : Sub h₀ h) : Fresh h₀ a := by
  refine ⟨?_, x.2⟩
  cases e : h₀.get? a with
  | none => rfl
  | some o => exact absurd x.1 (by rw [k _ _ e]; simp)
theorem plain_push (h : Heap) (xs : List Value) : (h.push { cls := .type "list", data := .seq xs.toArray }).PlainList h.objs.size xs.toArray := ⟨0, Heap.get?_push_size _ rfl⟩

theorem rNewList {elts : List PySem.Expr} {pos : Pos} (k : Run prog w A (spliced (backTo pos (starEach elts env))) h (fun vs h₁ => vs.length ≤ sizeLine ∧ ∀ a h', NewAt h₁ a h' → h'.PlainList a vs.toArray → P (.ref a) h')) :
    Run prog w A (eval (.List elts pos) env) h P := rList (k.mono fun vs h₁ q => ⟨q.1, q.2 _ _ (newAt_push ..) (plain_push ..)⟩)
theorem rNewTuple {elts : List PySem.Expr} {n : Nat} {pos : Pos} (k : Run prog w A (spliced (backTo pos (starEach elts env))) h (fun vs h₁ => vs.length ≤ sizeLine ∧ ∀ a h', NewAt h₁ a h' → IsTup h' a vs.toArray → P (.ref a) h')) :
    Run prog w A (eval (.Tuple elts n pos) env) h P := rTuple (k.mono fun vs h₁ q => ⟨q.1, q.2 _ _ (newAt_push ..) (IsTup.new ..)⟩)

theorem rAddL {l b : Addr} {xs ys : List Value} (hl : h.PlainList l xs.toArray) (hb : h.PlainList b ys.toArray) (hsz : xs.length + ys.length ≤ sizeLine)
    (k : ∀ a h', NewAt h a h' → h'.PlainList a (xs ++ ys).toArray → P (.ref a) h') : Run prog w A (binaryOp .Add (.ref l) (.ref b)) h P := fun s E e => by
  subst e
  obtain ⟨n, e1⟩ := hl; obtain ⟨n2, e2⟩ := hb
  exact _root_.PySem.P.add_list (n := n) (n2 := n2) e1 e2 ⟨⟨_, rfl⟩, k _ _ (newAt_push ..) (by simpa using plain_push s.heap (xs ++ ys))⟩ (by simpa using hsz)

theorem flat_rep (k : Nat) (x : Value) : List.foldl (fun x1 x2 => x1 ++ x2) #[] (List.replicate k #[x]) = (List.replicate k x).toArray := by
  have : ∀ (k : Nat) (acc : Array Value), List.foldl (fun x1 x2 => x1 ++ x2) acc (List.replicate k #[x]) = acc ++ (List.replicate k x).toArray := by
    intro k
    induction k with
    | zero => intro acc; simp
    | succ k ih => intro acc; rw [List.replicate_succ, List.foldl_cons, ih, List.replicate_succ]; apply Array.ext'; simp
  simpa using this k #[]

theorem rMulL {l : Addr} {x : Value} {n : Int} (hl : h.PlainList l #[x]) (hlo : 0 ≤ n) (hhi : n < 2 ^ 63) (hsz : (#[x] : Array Value).size * n.toNat ≤ 2 ^ 24)
    (k : ∀ a h', NewAt h a h' → h'.PlainList a (List.replicate n.toNat x).toArray → P (.ref a) h') : Run prog w A (binaryOp .Mult (.ref l) (.int n u)) h P := fun s E e => by
  subst e
  obtain ⟨c, e1⟩ := hl
  refine wpAny_binaryOp_repeat_ref (T := "list") (U := "int") (by decide) ⟨_, e1, rfl⟩ (fun s' => typeIs_int s' n u) noFill_list_mul F.fills_int_mul F.slot_int_rmul repeat_list F.slot_int_index.lookup
    (call_meets F.slot_int_rmul (typeIs_int s n u) F.entry_int_rmul (F.args_int_rmul_2 _ _) (int___rmul___int_list n u l #[x] c)
      ⟨e1, rfl, ⟨_, e1, rfl⟩, call_meets F.slot_list_mul ⟨_, e1, rfl⟩ F.entry_list_mul (F.args_list_mul_2 _ _)
        (AutoListH.list___mul___list_int_3 l #[x] c n u (by simp [Builtin.List.listFitsIndex]; omega) (by omega) (by simp only [Builtin.List.listTooLong, sizeLine, decide_eq_true_eq, gt_iff_lt, Nat.not_lt]; exact hsz))
        ⟨e1, ?_⟩⟩)
  refine ⟨⟨_, rfl⟩, k _ _ (newAt_push ..) ?_⟩
  have := plain_push s.heap (List.replicate n.toNat x)
  show (s.heap.push { cls := .type "list", data := .seq (List.foldl (fun x1 x2 => x1 ++ x2) #[] (List.replicate n.toNat #[x])) }).PlainList s.heap.objs.size (List.replicate n.toNat x).toArray
  rw [flat_rep]
  exact this

theorem rItemL {value slice : PySem.Expr} {l : Addr} {xs : List Value} {k : Int} {x : Value} (hl : h.IsList l xs.toArray) (h0 : 0 ≤ k) (hk : k < 2 ^ 63) (hx : xs[k.toNat]? = some x) (q : P x h)
    (hs : subscripted slice false (.ref l) (.int k u) = operate [.ref l, .int k u] (getItem (.ref l) (.int k u)) := by with_unfolding_all rfl) :
    Run prog w A (subscriptTail value slice (.ref l) (.int k u)) h P := fun s E e => by
  subst e
  exact tail_any hl.typeIs slot_list_getitem.lookup (wpAny_getItem_list hl h0 hk (by simpa using hx) (ans0 rfl q)) hs
theorem rItemLast {value slice : PySem.Expr} {l : Addr} {xs : List Value} {x : Value} (hl : h.IsList l (xs ++ [x]).toArray) (q : P x h)
    (hs : subscripted slice false (.ref l) (.int (-1) u) = operate [.ref l, .int (-1) u] (getItem (.ref l) (.int (-1) u)) := by with_unfolding_all rfl) :
    Run prog w A (subscriptTail value slice (.ref l) (.int (-1) u)) h P := fun s E e => by
  subst e
  refine tail_any hl.typeIs slot_list_getitem.lookup (wpAny_getItem_list_neg hl (by decide) (by simp; omega) (by decide) ?_ (ans0 rfl q)) hs
  have e1 : ((-1 : Int) + ((xs ++ [x]).toArray.size : Int)).toNat = xs.length := by simp; omega
  rw [e1]; simp
theorem rItemT {value slice : PySem.Expr} {l : Addr} {xs : List Value} {k : Int} {x : Value} {j : Nat} (hl : IsTup h l xs.toArray) (hlo : -(2 ^ 63) ≤ k) (hhi : k < 2 ^ 63) (hj : seqIndex? k xs.length = some j) (hx : xs[j]? = some x) (q : P x h)
    (hs : subscripted slice false (.ref l) (.int k u) = operate [.ref l, .int k u] (getItem (.ref l) (.int k u)) := by with_unfolding_all rfl) :
    Run prog w A (subscriptTail value slice (.ref l) (.int k u)) h P := fun s E e => by
  subst e
  exact item_tupleT hl hlo hhi hj hx (ans0 rfl q) hs

theorem rGetM {l : Addr} {xs : List Value} {name : Str} {id : String} {pl : Sem Bool} {R : Value × List Value → Heap → Prop} (slot : Slot "list" name id) (hty : typeOf (.builtin id) = Pure.pure (.type "method_descriptor"))
    (hl : h.PlainList l xs.toArray) (q : R (.builtin id, [.ref l]) h) : Run prog w A (getMethod (.ref l) name pl) h R := fun s E e => by
  subst e
  obtain ⟨n, e1⟩ := hl
  exact getMethod_builtin (T := "list") ⟨_, e1, rfl⟩ F.plainAttrs_list slot hty (fun a ea => by cases ea; exact ⟨_, e1, rfl⟩) (ans0 rfl q)

theorem rAppend {g : Heap} {L : Addr} {m : Str → Option Value} {l1 l2 : List (Addr × MO)} {l : Addr} {xs : List Value} {v : Value} (F : Lc w g L m (l1 ++ (l, .lst xs) :: l2) h) (hsz : xs.length ≤ sizeLine)
    (k : ∀ h', Lc w g L m (l1 ++ (l, .lst (xs ++ [v])) :: l2) h' → P .none h') : Run prog w A (call (.builtin "list.append") [.ref l, v]) h P := fun s E e => by
  subst e
  exact wpAny_list_append_plain (F.at (x := .lst xs) (by simp)) (fun h' hp hs => ⟨⟨_, rfl⟩, k h' (F.upd hs (by simpa [MO.at] using hp))⟩) (by simpa using hsz)

theorem rPop {g : Heap} {L : Addr} {m : Str → Option Value} {l1 l2 : List (Addr × MO)} {l : Addr} {xs : List Value} {v : Value} {pos : Pos} (F : Lc w g L m (l1 ++ (l, .lst (xs ++ [v])) :: l2) h) (hsz : xs.length + 1 ≤ sizeLine)
    (k : ∀ h', Lc w g L m (l1 ++ (l, .lst xs) :: l2) h' → P v h') : Run prog w A (callWith pos (.builtin "list.pop") [.ref l] (backTo pos (starEach [] env)) []) h P := fun s E e => by
  subst e
  obtain ⟨n, e1⟩ := F.at (x := .lst (xs ++ [v])) (a := l) (by simp)
  refine _root_.PySem.P.pop_list (n := n) e1 (y := v) (by simp) ⟨⟨_, rfl⟩, k _ (F.upd (y := .lst xs) (Heap.SameBut.update ..) ?_)⟩ (by simpa using hsz)
  have := IsL.update e1 (fun z => z.eraseIdxIfInBounds ((xs ++ [v]).toArray.size - 1))
  have e2 : (xs ++ [v]).toArray.eraseIdxIfInBounds ((xs ++ [v]).toArray.size - 1) = xs.toArray := by
    apply Array.ext'
    simp [Array.eraseIdxIfInBounds, List.eraseIdx_append_of_length_le]
  rw [e2] at this
  exact ⟨_, this⟩

theorem rExtend {g : Heap} {L : Addr} {m : Str → Option Value} {l1 l2 : List (Addr × MO)} {l b : Addr} {xs ys : List Value} (F : Lc w g L m (l1 ++ (l, .lst xs) :: l2) h) (hb : h.PlainList b ys.toArray) (hsz : xs.length + ys.length ≤ sizeLine)
    (k : ∀ h', Lc w g L m (l1 ++ (l, .lst (xs ++ ys)) :: l2) h' → P .none h') : Run prog w A (call (.builtin "list.extend") [.ref l, .ref b]) h P := fun s E e => by
  subst e
  obtain ⟨n, e1⟩ := F.at (x := .lst xs) (a := l) (by simp)
  obtain ⟨n2, e2⟩ := hb
  refine call_meets PySem.F.slot_list_extend ⟨_, e1, rfl⟩ PySem.F.entry_list_extend (PySem.F.args_list_extend_2 _ _)
    (AutoSeq1.list_extend_list_list_0 l xs.toArray n b ys.toArray n2 (by
      have : xs.length + ys.length ≤ 16777216 := hsz
      simp [Builtin.List.listTooLong, sizeLine]; omega) (by simp; omega) (by simp; omega)) ⟨e1, e2, ⟨⟨_, rfl⟩, k _ (F.upd (y := .lst (xs ++ ys)) (Heap.SameBut.update ..) ?_)⟩⟩
  have := IsL.update e1 (fun z => z ++ ys.toArray)
  exact ⟨_, by simpa using this⟩
end

end Mine

set_option Elab.async false
set_option maxRecDepth 100000
set_option maxHeartbeats 1000000
set_option linter.unusedVariables false
set_option autoImplicit false
namespace Mine

section
variable {prog : Program} {w : World} {A : Around} {g h h' : Heap} {L I : Addr} {m : Str → Option Value} {mu : List (Addr × MO)} {env : Env} {Q : Flow → Heap → Prop}

theorem Lc.extBut {x y : MO} (F : Lc w g L m ((I, x) :: mu) h) (hk : ∀ b o, b ≠ I → h.get? b = some o → h'.get? b = some o) (hy : y.at h' I) : Lc w g L m ((I, y) :: mu) h' := by
  have hI := F.mt (I, x) (List.mem_cons_self ..)
  have nd := List.nodup_cons.mp F.nd
  refine ⟨?_, fun b o e => hk b o (fun q => by rw [q, hI.2.2] at e; cases e) (F.sub b o e), F.off, fun p hp => ?_, F.nd, F.wd⟩
  · obtain ⟨oL, es, ep, hL, r⟩ := F.ns
    exact ⟨oL, es, ep, hk L oL (Ne.symm hI.2.1) hL, r⟩
  · rcases List.mem_cons.mp hp with rfl | hp
    · exact ⟨hy, hI.2⟩
    · have P := F.mt p (List.mem_cons_of_mem _ hp)
      exact ⟨P.1.keep fun o e => hk p.1 o (fun q => nd.1 (List.mem_map.mpr ⟨p, hp, q⟩)) e, P.2⟩

/-- an object is put among the things that change -/
theorem Lc.extMu {x : MO} {a : Addr} (F : Lc w g L m mu h) (k : Sub h h') (hn : h.get? a = none) (hx : x.at h' a) : Lc w g L m ((a, x) :: mu) h' := by
  have F' := F.grow k
  refine ⟨F'.ns, F'.sub, F'.off, fun p hp => ?_, List.nodup_cons.mpr ⟨fun hm => ?_, F.nd⟩, F'.wd⟩
  · rcases List.mem_cons.mp hp with rfl | hp
    · refine ⟨hx, ?_, ?_⟩
      · obtain ⟨oL, _, _, hL, _⟩ := F.ns
        rintro rfl; rw [hL] at hn; cases hn
      · cases e : g.get? a with
        | none => rfl
        | some o' => have := F.sub _ _ e; rw [this] at hn; cases hn
    · exact F'.mt p hp
  · obtain ⟨p, hp, q⟩ := List.mem_map.mp hm
    obtain ⟨o', ho'⟩ := (F.mt p hp).1.some
    have q' : p.1 = a := q
    rw [← q', ho'] at hn; cases hn

theorem rForWalk {target : PySem.Expr} {body : List Stmt} {fp : List Addr} {n : Nat} {Pv : Nat → Value → Prop} {St : Nat → Heap → Prop}
    (W : Walks prog w A I fp [I] n Pv St) (hI : ∀ i h, St i h → ∃ o, h.get? I = some o) (hsrc : ∀ b ∈ fp, b ≠ I → ∃ o, g.get? b = some o)
    (hgo : ∀ i h v, St i h → Run prog w A (letOwnedTupleGo target (.ref I) v) h (fun _ h' => h' = h))
    {o₀ : Obj} (F : Lc w g L m ((I, .raw o₀) :: mu) h) (hst : St 0 h)
    (J : Nat → Heap → (Str → Option Value) → List (Addr × MO) → Prop) (j0 : J 0 g m mu)
    (turn : ∀ i v g' m' mu' h' o, i < n → Pv i v → Sub g g' → J i g' m' mu' → Lc w g' L m' ((I, .raw o) :: mu') h' →
      Run prog w A (assign target env v) h' (fun _ h₂ => Run prog w A (execs body env) h₂ (fun f h₃ => match f with
        | .next | .cont => ∃ g'' m'' mu'', Sub g' g'' ∧ Lc w g'' L m'' ((I, .raw o) :: mu'') h₃ ∧ J (i + 1) g'' m'' mu''
        | .brk => Q .next h₃
        | .ret v => Q (.ret v) h₃)))
    (done : ∀ g' m' mu' h', Sub g g' → J n g' m' mu' → Lc w g' L m' mu' h' → Q .next h') :
    RunC prog w A (.forLoop target (.ref I) body [] env) h Q := by
  refine rForLoop (fun k h => ∃ i g' m' mu' o, k = n - i ∧ i ≤ n ∧ Sub g g' ∧ J i g' m' mu' ∧ Lc w g' L m' ((I, .raw o) :: mu') h ∧ St i h) ?_ n ⟨0, g, m, mu, o₀, rfl, Nat.zero_le _, Sub.refl _, j0, F, hst⟩
  rintro k h₁ ⟨i, g', m', mu', o, rfl, hi, hsub, hJ, F', st⟩
  by_cases hlt : i < n
  · intro s E e
    subst e
    refine W.item i s _ _ hlt st fun v h₂ tk hPv st₂ hk₂ => ⟨⟨_, rfl⟩, ?_⟩
    obtain ⟨o₂, ho₂⟩ := hI _ _ st₂
    have hk₂' : ∀ b o, b ≠ I → s.heap.get? b = some o → h₂.get? b = some o := fun b ob hb e => hk₂ b ob (by simpa using hb) e
    have F₂ : Lc w g' L m' ((I, .raw o₂) :: mu') h₂ := F'.extBut hk₂' ho₂
    refine (hgo _ _ v st₂).mono fun _ h₂' e2 => ?_
    subst e2
    refine (turn i v g' m' mu' _ o₂ hlt hPv hsub hJ F₂).mono fun _ h₃ r => r.mono fun f h₄ q => ?_
    have fin : (∃ g'' m'' mu'', Sub g' g'' ∧ Lc w g'' L m'' ((I, .raw o₂) :: mu'') h₄ ∧ J (i + 1) g'' m'' mu'') →
        ∃ k', k' < n - i ∧ ∃ i' g' m' mu' o, k' = n - i' ∧ i' ≤ n ∧ Sub g g' ∧ J i' g' m' mu' ∧ Lc w g' L m' ((I, .raw o) :: mu') h₄ ∧ St i' h₄ := by
      rintro ⟨g'', m'', mu'', hs'', F'', hJ''⟩
      refine ⟨n - (i + 1), by omega, i + 1, g'', m'', mu'', o₂, rfl, hlt, hsub.trans hs'', hJ'', F'', W.frame _ _ _ st₂ fun b hb ob eb => ?_⟩
      by_cases hbI : b = I
      · subst hbI
        rw [ho₂] at eb; cases eb
        exact F''.at (x := .raw o₂) (List.mem_cons_self ..)
      · obtain ⟨o', ho'⟩ := hsrc b hb hbI
        have e1 := F₂.sub b o' (hsub _ _ ho')
        rw [e1] at eb; cases eb
        exact F''.sub b _ (hs'' _ _ (hsub _ _ ho'))
    cases f with
    | next => exact fin q
    | cont => exact fin q
    | brk => exact q
    | ret v => exact q
  · have hin : i = n := by omega
    subst hin
    intro s E e
    subst e
    refine W.done s _ _ st fun h₂ tk hk₂ => ⟨⟨_, rfl⟩, ?_⟩
    refine done g' m' mu' h₂ hsub hJ ?_
    have F0 := F'.drop
    have hII := F'.mt (I, .raw o) (List.mem_cons_self ..)
    have nd := List.nodup_cons.mp F'.nd
    have hk₂' : ∀ b o, b ≠ I → s.heap.get? b = some o → h₂.get? b = some o := fun b ob hb e => hk₂ b ob (by simpa using hb) e
    refine ⟨?_, fun b ob e => hk₂' b ob (fun q => by rw [q, hII.2.2] at e; cases e) (F0.sub b ob e), F0.off, fun p hp => ?_, F0.nd, F0.wd⟩
    · obtain ⟨oL, es, ep, hL, r⟩ := F0.ns
      exact ⟨oL, es, ep, hk₂' L oL (Ne.symm hII.2.1) hL, r⟩
    · have P := F0.mt p hp
      exact ⟨P.1.keep fun ob e => hk₂' p.1 ob (fun q => nd.1 (List.mem_map.mpr ⟨p, hp, q⟩)) e, P.2⟩

/-- for over a list of the frozen part -/
theorem rForList {target : PySem.Expr} {body : List Stmt} {l : Addr} {xs : List Value} (hh : A.handled = none) (hl : g.IsList l xs.toArray) (F : Lc w g L m mu h)
    (J : Nat → Heap → (Str → Option Value) → List (Addr × MO) → Prop) (j0 : J 0 g m mu)
    (turn : ∀ I i v g' m' mu' h' o, xs[i]? = some v → Sub g g' → J i g' m' mu' → Lc w g' L m' ((I, .raw o) :: mu') h' →
      Run prog w A (assign target env v) h' (fun _ h₂ => Run prog w A (execs body env) h₂ (fun f h₃ => match f with
        | .next | .cont => ∃ g'' m'' mu'', Sub g' g'' ∧ Lc w g'' L m'' ((I, .raw o) :: mu'') h₃ ∧ J (i + 1) g'' m'' mu''
        | .brk => Q .next h₃
        | .ret v => Q (.ret v) h₃)))
    (done : ∀ g' m' mu' h', Sub g g' → J xs.length g' m' mu' → Lc w g' L m' mu' h' → Q .next h')
    (hgo : ∀ I l i h v, h.IsListIter I l i → Run prog w A (letOwnedTupleGo target (.ref I) v) h (fun _ h' => h' = h)) :
    Run prog w A (pyIter (.ref l)) h (fun it h₂ => RunC prog w A (.forLoop target it body [] env) h₂ Q) := by
  intro s E e
  subst e
  have hl' : s.heap.IsList l xs.toArray := hl.at fun o e => F.sub l o e
  refine wpAny_pyIter_list hl' ⟨⟨_, rfl⟩, ?_⟩
  obtain ⟨ol, hol, _⟩ := id hl'
  obtain ⟨og, hog, _⟩ := id hl
  have hne : l ≠ s.heap.objs.size := Nat.ne_of_lt (Heap.lt_size hol)
  have W := Walks.list (prog := prog) (w := w) hh s.heap.objs.size l hne xs.toArray
  have hsz : xs.toArray.size = xs.length := by simp
  rw [hsz] at W
  refine rForWalk W (fun i h st => let ⟨o, ho, _⟩ := st.1; ⟨o, ho⟩) (fun b hb hbI => ?_) (fun i h v st => hgo _ _ _ _ _ st.1)
    (F.allocMu (.raw { cls := .type "list_iterator", data := .fields #[.ref l, .int 0 0] }) (Heap.get?_push_size _ rfl)) ⟨⟨_, Heap.get?_push_size _ rfl, rfl, rfl⟩, hl'.push _⟩ J j0
    (fun i v g' m' mu' h' o hi hP hs hJ F' => turn _ i v g' m' mu' h' o (by simpa using hP) hs hJ F') done
  rcases List.mem_cons.mp hb with q | q
  · exact absurd q hbI
  · rw [List.mem_singleton.mp q]; exact ⟨og, hog⟩

theorem rForTuple {target : PySem.Expr} {body : List Stmt} {l : Addr} {xs : List Value} (hh : A.handled = none) (hl : IsTup g l xs.toArray) (F : Lc w g L m mu h)
    (J : Nat → Heap → (Str → Option Value) → List (Addr × MO) → Prop) (j0 : J 0 g m mu)
    (turn : ∀ I i v g' m' mu' h' o, xs[i]? = some v → Sub g g' → J i g' m' mu' → Lc w g' L m' ((I, .raw o) :: mu') h' →
      Run prog w A (assign target env v) h' (fun _ h₂ => Run prog w A (execs body env) h₂ (fun f h₃ => match f with
        | .next | .cont => ∃ g'' m'' mu'', Sub g' g'' ∧ Lc w g'' L m'' ((I, .raw o) :: mu'') h₃ ∧ J (i + 1) g'' m'' mu''
        | .brk => Q .next h₃
        | .ret v => Q (.ret v) h₃)))
    (done : ∀ g' m' mu' h', Sub g g' → J xs.length g' m' mu' → Lc w g' L m' mu' h' → Q .next h')
    (hgo : ∀ I h v, Run prog w A (letOwnedTupleGo target (.ref I) v) h (fun _ h' => h' = h)) :
    Run prog w A (pyIter (.ref l)) h (fun it h₂ => RunC prog w A (.forLoop target it body [] env) h₂ Q) := by
  intro s E e
  subst e
  have hl' : IsTup s.heap l xs.toArray := hl.keeps F.sub
  refine wpAny_pyIter_tuple hl' ⟨⟨_, rfl⟩, ?_⟩
  obtain ⟨ol, hol, _⟩ := id hl'
  obtain ⟨og, hog, _⟩ := id hl
  have hne : l ≠ s.heap.objs.size := Nat.ne_of_lt (Heap.lt_size hol)
  have W := Walks.tuple (prog := prog) (w := w) hh s.heap.objs.size l hne xs.toArray
  have hsz : xs.toArray.size = xs.length := by simp
  rw [hsz] at W
  refine rForWalk W (fun i h st => let ⟨o, ho, _⟩ := st.1; ⟨o, ho⟩) (fun b hb hbI => ?_) (fun i h v st => hgo _ _ _)
    (F.allocMu (.raw { cls := .type "tuple_iterator", data := .fields #[.ref l, .int 0 0] }) (Heap.get?_push_size _ rfl)) ⟨⟨_, Heap.get?_push_size _ rfl, rfl, rfl⟩, IsTup.push hl' _⟩ J j0
    (fun i v g' m' mu' h' o hi hP hs hJ F' => turn _ i v g' m' mu' h' o (by simpa using hP) hs hJ F') done
  rcases List.mem_cons.mp hb with q | q
  · exact absurd q hbI
  · rw [List.mem_singleton.mp q]; exact ⟨og, hog⟩

/-- a dict whose keys are ints, in any program and world -/
def DictI (h : Heap) (a : Addr) (kvs : List (Int × Value)) : Prop := ∀ prog w, h.DictOf (intKind prog w) a kvs
theorem pairs_any {p p' : Program} {w w' : World} {es : List DictEntry} {kvs : List (Int × Value)} (x : Pairs (intKind p w) es kvs) : Pairs (intKind p' w') es kvs := by
  induction x with
  | nil => exact .nil
  | cons h1 h2 _ ih => exact .cons h1 h2 ih
theorem DictI.of {h : Heap} {a : Addr} {kvs : List (Int × Value)} {prog : Program} {w : World} (x : h.DictOf (intKind prog w) a kvs) : DictI h a kvs := fun _ _ =>
  let ⟨o, es, ep, h1, h2, h3, h4, h5, h6⟩ := x; ⟨o, es, ep, h1, h2, h3, h4, pairs_any h5, h6⟩
theorem DictI.sub {h h' : Heap} {a : Addr} {kvs : List (Int × Value)} (x : DictI h a kvs) (k : Sub h h') : DictI h' a kvs := fun p w => (x p w).keep k
theorem DictI.some {h : Heap} {a : Addr} {kvs : List (Int × Value)} (w : World) (x : DictI h a kvs) : ∃ o, h.get? a = some o ∧ o.cls = .type "dict" := let ⟨o, _, _, ho, hc, _⟩ := x default w; ⟨o, ho, hc.1⟩

theorem rForDict {target : PySem.Expr} {body : List Stmt} {l : Addr} {kvs : List (Int × Value)} (hh : A.handled = none) (hl : DictI g l kvs) (hm : (l == sysModules) = false) (F : Lc w g L m mu h)
    (J : Nat → Heap → (Str → Option Value) → List (Addr × MO) → Prop) (j0 : J 0 g m mu)
    (turn : ∀ I i k x t g' m' mu' h' o, kvs[i]? = some (k, x) → Sub g g' → J i g' m' mu' → Lc w g' L m' ((I, .raw o) :: mu') h' →
      Run prog w A (assign target env (.int k t)) h' (fun _ h₂ => Run prog w A (execs body env) h₂ (fun f h₃ => match f with
        | .next | .cont => ∃ g'' m'' mu'', Sub g' g'' ∧ Lc w g'' L m'' ((I, .raw o) :: mu'') h₃ ∧ J (i + 1) g'' m'' mu''
        | .brk => Q .next h₃
        | .ret v => Q (.ret v) h₃)))
    (done : ∀ g' m' mu' h', Sub g g' → J kvs.length g' m' mu' → Lc w g' L m' mu' h' → Q .next h')
    (hgo : ∀ I h v, Run prog w A (letOwnedTupleGo target (.ref I) v) h (fun _ h' => h' = h)) :
    Run prog w A (pyIter (.ref l)) h (fun it h₂ => RunC prog w A (.forLoop target it body [] env) h₂ Q) := by
  intro s E e
  subst e
  obtain ⟨o1, es, ep, ho1, hc1, hd1, r1⟩ := hl.sub F.sub prog w
  have hat : s.heap.DictAt (intKind prog w) l kvs ep := ⟨o1, es, ho1, hc1, hd1, r1⟩
  refine wpAny_pyIter_dict hm hat ⟨⟨_, rfl⟩, ?_⟩
  obtain ⟨og, hog, _⟩ := hl.some w
  have hne : l ≠ s.heap.objs.size := Nat.ne_of_lt (Heap.lt_size ho1)
  have W := Walks.dictKeys (prog := prog) (w := w) (knd := intKind prog w) hh s.heap.objs.size l hne kvs ep
  refine rForWalk W (fun i h st => let ⟨o, ho, _⟩ := st.1; ⟨o, ho⟩) (fun b hb hbI => ?_) (fun i h v st => hgo _ _ _)
    (F.allocMu (.raw { cls := .type "dict_keyiterator", data := .fields #[.ref l, .int 0 0, .int kvs.length 0, .int ep 0] }) (Heap.get?_push_size _ rfl)) ⟨⟨_, Heap.get?_push_size _ rfl, rfl, rfl⟩, hat.at' fun o e => Heap.get?_push_of_some _ e⟩ J j0
    (fun i v g' m' mu' h' o hi hP hs hJ F' => ?_) done
  · rcases List.mem_cons.mp hb with q | q
    · exact absurd q hbI
    · rw [List.mem_singleton.mp q]; exact ⟨og, hog⟩
  · obtain ⟨k, x, hk, hv⟩ := hP
    have hv' : Value.isInt k v = true := hv
    cases v with
    | int j t =>
      have e : j = k := by simpa [Value.isInt] using hv'
      subst e
      exact turn _ i j x t g' m' mu' h' o hk hs hJ F'
    | _ => simp [Value.isInt] at hv'
end

end Mine

set_option Elab.async false
set_option maxRecDepth 100000
set_option maxHeartbeats 1000000
set_option linter.unusedVariables false
set_option autoImplicit false
namespace Mine

/-- the things that the law builds -/
inductive T where
  | nn
  | bb (b : Bool)
  | ii (i : Int)
  | ll (xs : List T)
  | tt (xs : List T)
  | dd (xs : List T)

def keyed : Nat → List Value → List (Int × Value)
  | _, [] => []
  | k, v :: r => (-(k : Int), v) :: keyed (k + 1) r
theorem keyed_length : ∀ (k : Nat) (vs : List Value), (keyed k vs).length = vs.length
  | _, [] => rfl
  | k, v :: r => by simp [keyed, keyed_length (k + 1) r]
theorem keyed_get : ∀ (k : Nat) (vs : List Value) (i : Nat) (v : Value), vs[i]? = some v → (keyed k vs)[i]? = some (-((k + i : Nat) : Int), v)
  | k, v :: r, 0, u, h => by simp at h; simp [keyed, h]
  | k, v :: r, i + 1, u, h => by
    have h' : r[i]? = some u := by simpa using h
    have := keyed_get (k + 1) r i u h'
    have e : k + 1 + i = k + (i + 1) := by omega
    rw [e] at this
    simpa [keyed] using this
  | _, [], i, u, h => by simp at h
theorem keyed_none (k : Nat) (vs : List Value) (i : Nat) : (keyed k vs)[i]? = none ↔ vs[i]? = none := by
  simp [keyed_length]
theorem keyed_snd : ∀ (k : Nat) (vs : List Value), (keyed k vs).map (·.2) = vs
  | _, [] => rfl
  | k, v :: r => by simp [keyed, keyed_snd (k + 1) r]

mutual
def Rep (N : Addr → Prop) (h : Heap) : T → Value → Prop
  | .nn, v => v = .none
  | .bb b, v => v = .bool b
  | .ii i, v => ∃ t, v = .int i t
  | .ll xs, v => ∃ a vs, v = .ref a ∧ N a ∧ h.PlainList a vs.toArray ∧ Reps N h xs vs
  | .tt xs, v => ∃ a vs, v = .ref a ∧ N a ∧ IsTup h a vs.toArray ∧ Reps N h xs vs
  | .dd xs, v => ∃ a vs, v = .ref a ∧ N a ∧ DictI h a (keyed 0 vs) ∧ Reps N h xs vs
def Reps (N : Addr → Prop) (h : Heap) : List T → List Value → Prop
  | [], vs => vs = []
  | x :: r, vs => ∃ v ws, vs = v :: ws ∧ Rep N h x v ∧ Reps N h r ws
end

mutual
theorem Rep.mono {N N' : Addr → Prop} {h h' : Heap} (k : Sub h h') (n : ∀ a, N a → N' a) : ∀ (t : T) (v : Value), Rep N h t v → Rep N' h' t v
  | .nn, v, r => by simpa [Rep] using r
  | .bb b, v, r => by simpa [Rep] using r
  | .ii i, v, r => by simpa [Rep] using r
  | .ll xs, v, r => by
    simp only [Rep] at r ⊢
    obtain ⟨a, vs, e, hn, hp, hr⟩ := r
    exact ⟨a, vs, e, n a hn, hp.at fun o e => k _ _ e, Reps.mono k n xs vs hr⟩
  | .tt xs, v, r => by
    simp only [Rep] at r ⊢
    obtain ⟨a, vs, e, hn, hp, hr⟩ := r
    exact ⟨a, vs, e, n a hn, hp.keeps k, Reps.mono k n xs vs hr⟩
  | .dd xs, v, r => by
    simp only [Rep] at r ⊢
    obtain ⟨a, vs, e, hn, hp, hr⟩ := r
    exact ⟨a, vs, e, n a hn, hp.sub k, Reps.mono k n xs vs hr⟩
theorem Reps.mono {N N' : Addr → Prop} {h h' : Heap} (k : Sub h h') (n : ∀ a, N a → N' a) : ∀ (ts : List T) (vs : List Value), Reps N h ts vs → Reps N' h' ts vs
  | [], vs, r => by simpa [Reps] using r
  | x :: xs, vs, r => by
    simp only [Reps] at r ⊢
    obtain ⟨v, ws, e, h1, h2⟩ := r
    exact ⟨v, ws, e, Rep.mono k n x v h1, Reps.mono k n xs ws h2⟩
end

theorem Rep.sub {N : Addr → Prop} {h h' : Heap} {t : T} {v : Value} (r : Rep N h t v) (k : Sub h h') : Rep N h' t v := Rep.mono k (fun _ x => x) t v r
theorem Reps.sub {N : Addr → Prop} {h h' : Heap} {t : List T} {v : List Value} (r : Reps N h t v) (k : Sub h h') : Reps N h' t v := Reps.mono k (fun _ x => x) t v r
theorem Rep.less {N N' : Addr → Prop} {h : Heap} {t : T} {v : Value} (r : Rep N h t v) (n : ∀ a, N a → N' a) : Rep N' h t v := Rep.mono (Sub.refl h) n t v r

theorem Reps.length {N : Addr → Prop} {h : Heap} : ∀ (ts : List T) (vs : List Value), Reps N h ts vs → vs.length = ts.length
  | [], vs, r => by simp only [Reps] at r; simp [r]
  | x :: xs, vs, r => by
    simp only [Reps] at r
    obtain ⟨v, ws, e, h1, h2⟩ := r
    simp [e, Reps.length xs ws h2]
theorem Reps.get {N : Addr → Prop} {h : Heap} : ∀ (ts : List T) (vs : List Value), Reps N h ts vs → ∀ (i : Nat) (v : Value), vs[i]? = some v → ∃ t, ts[i]? = some t ∧ Rep N h t v
  | [], vs, r, i, v, hv => by simp only [Reps] at r; subst r; simp at hv
  | x :: xs, vs, r, i, v, hv => by
    simp only [Reps] at r
    obtain ⟨u, ws, rfl, h1, h2⟩ := r
    cases i with
    | zero => simp at hv; subst hv; exact ⟨x, by simp, h1⟩
    | succ i => obtain ⟨t, ht, hr⟩ := Reps.get xs ws h2 i v (by simpa using hv); exact ⟨t, by simpa using ht, hr⟩
theorem Reps.snoc {N : Addr → Prop} {h : Heap} : ∀ (ts : List T) (vs : List Value) (t : T) (v : Value), Reps N h ts vs → Rep N h t v → Reps N h (ts ++ [t]) (vs ++ [v])
  | [], vs, t, v, r, hr => by simp only [Reps] at r; subst r; simp [Reps, hr]
  | x :: xs, vs, t, v, r, hr => by
    simp only [Reps] at r
    obtain ⟨u, ws, rfl, h1, h2⟩ := r
    simp only [List.cons_append, Reps]
    exact ⟨u, ws ++ [v], rfl, h1, Reps.snoc xs ws t v h2 hr⟩

mutual
def sz : T → Nat
  | .nn => 1
  | .bb _ => 1
  | .ii _ => 1
  | .ll xs => szs xs + 1
  | .tt xs => szs xs + 1
  | .dd xs => szs xs + 1
def szs : List T → Nat
  | [] => 0
  | x :: r => sz x + szs r
end
theorem sz_pos (t : T) : 1 ≤ sz t := by cases t <;> simp [sz]
theorem szs_get : ∀ (ts : List T) (i : Nat) (t : T), ts[i]? = some t → sz t ≤ szs ts
  | x :: r, 0, t, h => by simp at h; subst h; simp [szs]
  | x :: r, i + 1, t, h => by have := szs_get r i t (by simpa using h); simp [szs]; omega
  | [], i, t, h => by simp at h
theorem szs_length : ∀ ts : List T, ts.length ≤ szs ts
  | [] => by simp [szs]
  | x :: r => by have := szs_length r; have := sz_pos x; simp [szs]; omega
theorem szs_append : ∀ a b : List T, szs (a ++ b) = szs a + szs b
  | [], b => by simp [szs]
  | x :: r, b => by have := szs_append r b; simp [szs]; omega

/-- kinds, as the law's own words tell them -/
def kdKey (k : Nat) : List Int := if k = 0 then [2] else [15, 2]
mutual
def kd : T → List Int
  | .nn => [1]
  | .bb _ => [1]
  | .ii i => if i < 0 then [15, 2] else [2]
  | .ll xs => [9] ++ (kdL xs).drop 1 ++ [10]
  | .tt xs => [7] ++ (kdL xs).drop 1 ++ (if xs.length = 1 then [12] else []) ++ [8]
  | .dd xs => [25] ++ (kdD 0 xs).drop 1 ++ [26]
def kdL : List T → List Int
  | [] => []
  | x :: r => [12] ++ kd x ++ kdL r
def kdD : Nat → List T → List Int
  | _, [] => []
  | k, x :: r => [12] ++ kdKey k ++ [11] ++ kd x ++ kdD (k + 1) r
end
theorem kdKey_eq (k : Nat) : kd (.ii (-(k : Int))) = kdKey k := by
  unfold kd kdKey
  by_cases h : k = 0
  · simp [h]
  · have : -(k : Int) < 0 := by omega
    simp [h]
theorem kdKey_length (k : Nat) : (kdKey k).length ≤ 2 := by unfold kdKey; split <;> simp
mutual
theorem kd_length : ∀ t : T, (kd t).length + 5 ≤ 9 * sz t
  | .nn => by simp [kd, sz]
  | .bb _ => by simp [kd, sz]
  | .ii i => by simp only [kd, sz]; split <;> simp
  | .ll xs => by have := kdL_length xs; simp only [kd, sz, List.length_append, List.length_drop, List.length_cons, List.length_nil]; omega
  | .tt xs => by
    have := kdL_length xs
    simp only [kd, sz, List.length_append, List.length_drop, List.length_cons, List.length_nil]
    split <;> simp <;> omega
  | .dd xs => by have := kdD_length xs 0; simp only [kd, sz, List.length_append, List.length_drop, List.length_cons, List.length_nil]; omega
theorem kdL_length : ∀ ts : List T, (kdL ts).length ≤ 9 * szs ts
  | [] => by simp [kdL, szs]
  | x :: r => by have := kd_length x; have := kdL_length r; simp only [kdL, szs, List.length_append, List.length_cons, List.length_nil]; omega
theorem kdD_length : ∀ (ts : List T) (k : Nat), (kdD k ts).length ≤ 9 * szs ts
  | [], _ => by simp [kdD, szs]
  | x :: r, k => by
    have := kd_length x; have := kdD_length r (k + 1); have := kdKey_length k
    simp only [kdD, szs, List.length_append, List.length_cons, List.length_nil]; omega
end

/-- room for calls: k levels -/
structure Room (A : Around) (k : Nat) : Prop where
  handled : A.handled = none
  depth : A.depth + k < recursionLimit
  guards : A.guards = some []
  units : A.units + 4 * k + 200 < cLine
theorem Room.deeper {A : Around} {k : Nat} (x : Room A (k + 1)) (env : Env) : Room (A.deeper env) k :=
  ⟨x.handled, by have := x.depth; show A.depth + 1 + k < _; omega, x.guards, by have := x.units; show A.units + 3 + 4 * k + 200 < _; omega⟩
theorem Room.less {A : Around} {k j : Nat} (x : Room A k) (h : j ≤ k) : Room A j := ⟨x.handled, by have := x.depth; omega, x.guards, by have := x.units; omega⟩
theorem Room.call {A : Around} {k : Nat} (x : Room A k) : A.depth < recursionLimit := by have := x.depth; omega

-- the text's parts
noncomputable abbrev stmtAt (i : Nat) : Stmt := (PySem.Challenge.pw_mr0162_01.main.body[i]?).getD (.Pass default)
def fnBody : Stmt → List Stmt
  | .FunctionDef _ _ b _ _ _ _ _ _ _ => b
  | _ => []
def fnScope : Stmt → Scope
  | .FunctionDef _ _ _ _ _ _ s _ _ _ => s
  | _ => default
noncomputable def envAt (i : Nat) (name : String) (f c : Addr) (L : Addr) : Env :=
  { scope := fnScope (stmtAt i), locals := L, globals := mainGlobals, cells := [], qual := Str.ofString name ++ ".<locals>.", func := some f, code := .ref c, frame := some L, builtins := builtinsNs }

def GlobIs (x : String) (v : Value) : Prop := ∀ w : World, nsIn (KF w) mainGlobals (Str.ofString x) = some (some v)
def BltIs (x : String) (v : Value) : Prop := (∀ w : World, nsIn (KF w) mainGlobals (Str.ofString x) = some none) ∧ bootBuiltins (Str.ofString x) = some v ∧ Str.ofString x ≠ "__name__"

theorem g_kinds : GlobIs "_law_kinds" (.ref 44) := fun w => by kernel_rfl
theorem b_len : BltIs "len" (.builtin "len") := ⟨fun w => by kernel_rfl, by kernel_rfl, by decide⟩
theorem b_isinstance : BltIs "isinstance" (.builtin "isinstance") := ⟨fun w => by kernel_rfl, by kernel_rfl, by decide⟩
theorem b_bool : BltIs "bool" (.type "bool") := ⟨fun w => by kernel_rfl, by kernel_rfl, by decide⟩
theorem b_int : BltIs "int" (.type "int") := ⟨fun w => by kernel_rfl, by kernel_rfl, by decide⟩
theorem b_dict : BltIs "dict" (.type "dict") := ⟨fun w => by kernel_rfl, by kernel_rfl, by decide⟩
theorem b_list : BltIs "list" (.type "list") := ⟨fun w => by kernel_rfl, by kernel_rfl, by decide⟩
end Mine

set_option Elab.async false
set_option maxRecDepth 100000
set_option maxHeartbeats 1000000
set_option linter.unusedVariables false
set_option autoImplicit false
namespace Mine

/-- the part of a text from a up to b -/
def cut (x : Str) (a b : Nat) : Str := ⟨((x.cps.toList.drop a).take (b - a)).toArray⟩

theorem cut_slice (x : Str) (a b : Nat) : Txt.slice x (some (a : Int)) (some (b : Int)) = cut x a b := by
  have hb : Builtin.Str.strSliceIndices (some (a : Int)) (some (b : Int)) 1 x.length = sliceRange ((min a x.length : Nat) : Int) ((min b x.length : Nat) : Int) 1 := by
    simp only [Builtin.Str.strSliceIndices]
    have h1 : ¬ ((a : Int) < 0) := by omega
    have h2 : ¬ ((b : Int) < 0) := by omega
    simp only [h1, h2, if_false, show (1 : Int) > 0 by decide, if_true]
    congr 1 <;> omega
  have hx : x.cps.toList.length = x.length := by simp [Str.length]
  have key : (x.cps.toList.drop (min a x.length)).take (min b x.length - min a x.length) = (x.cps.toList.drop a).take (b - a) := by
    rcases Nat.le_total a x.length with ha | ha
    · rw [Nat.min_eq_left ha]
      rcases Nat.le_total b x.length with hb' | hb'
      · rw [Nat.min_eq_left hb']
      · rw [Nat.min_eq_right hb', List.take_of_length_le (by simp [hx]), List.take_of_length_le (by simp [hx]; omega)]
    · rw [Nat.min_eq_right ha, List.drop_of_length_le (by omega), List.drop_of_length_le (by omega)]; simp
  unfold Txt.slice
  rw [hb, sliceRange_one, pick_run, key]
  split
  · rename_i hw
    have hw' : min b x.length - min a x.length = x.length := by simpa using hw
    unfold cut
    rw [← key]
    have e1 : min a x.length = 0 ∨ x.length = 0 := by omega
    have : (x.cps.toList.drop (min a x.length)).take (min b x.length - min a x.length) = x.cps.toList := by
      rw [hw']
      rcases e1 with e | e
      · rw [e, List.drop_zero, List.take_of_length_le (by omega)]
      · have : x.cps.toList = [] := List.length_eq_zero_iff.mp (by omega)
        rw [this]; simp
    rw [this]
  · rfl

theorem cut_len (x : Str) (a b : Nat) : (cut x a b).length = min (b - a) (x.length - a) := by simp [cut, Str.length]

section
variable {prog : Program} {w : World} {A : Around} {g h : Heap} {L : Addr} {m : Str → Option Value} {mu : List (Addr × MO)} {env : Env} {P : Value → Heap → Prop} {U : Unit → Heap → Prop} {t u : Tok}

-- slices
theorem rPartN (q : P .none h) : Run prog w A (evalPart none env) h P := Run.of_pure rfl q
theorem rPartS {e : PySem.Expr} (r : Run prog w A (eval e env) h P) : Run prog w A (evalPart (some e) env) h P := r
theorem rSliceE {lower upper step : Option PySem.Expr} {p : Pos} (k : Run prog w A (evalPart lower env) h (fun a h₁ => Run prog w A (evalPart upper env) h₁ (fun b h₂ => Run prog w A (evalPart step env) h₂ (fun c h₃ =>
      P (.ref h₃.objs.size) (h₃.push { cls := .type "slice", data := .fields #[a, b, c] }))))) : Run prog w A (eval (.Slice lower upper step p) env) h P :=
  fun s E eh => wpAny_Slice (wpAny_mono (k s E eh) (fun a s₁ q => wpAny_mono (q.2 s₁ E rfl) (fun b s₂ q' => wpAny_mono (q'.2 s₂ E rfl) (fun c s₃ z => by
    obtain ⟨⟨tk, e⟩, z2⟩ := z
    refine ⟨glue q.1 (glue q'.1 ⟨tk, ?_⟩), z2⟩
    rw [e]) fun _ _ x => x) fun _ _ x => x) fun _ _ x => x)

theorem rSliceL {value slice : PySem.Expr} {l sl : Addr} {xs : List Value} {vl vu vs : Value} {lo hi st : Option Int} {ops : List Value} (hl : h.PlainList l xs.toArray) (hs : h.IsSliceOf sl vl vu vs)
    (pl : IsPart vl lo) (pu : IsPart vu hi) (ps : IsPart vs st) (h0 : st ≠ some 0) (hsz : xs.length ≤ sizeLine)
    (k : ∀ a h', NewAt h a h' → h'.PlainList a (slicePick xs.toArray lo hi st) → P (.ref a) h')
    (ho : subscripted slice false (.ref l) (.ref sl) = operate ops (getItem (.ref l) (.ref sl)) := by with_unfolding_all rfl) : Run prog w A (subscriptTail value slice (.ref l) (.ref sl)) h P := fun s E e => by
  subst e
  exact tail_any hl.isList.typeIs slot_list_getitem.lookup (wpAny_getItem_list_slice hl.isList hs pl pu ps h0 ⟨⟨_, rfl⟩, k _ _ (newAt_push ..) ⟨0, Heap.get?_push_size _ rfl⟩⟩ (by simpa using hsz)) ho

-- texts
theorem rLenS {x : Str} (hx : x.length < 2 ^ 62) (q : ∀ t, P (.int x.length t) h) : Run prog w A (call (.builtin "len") [.str x t]) h P := fun s E e => by
  subst e
  exact _root_.PySem.P.len_str (by have : (x.length : Int) < 2 ^ 62 := by exact_mod_cast hx
                                   omega) ⟨⟨_, rfl⟩, q _⟩

theorem rItemS {value slice : PySem.Expr} {x : Str} {k : Int} {i c : Nat} (hk : k = i) (hx : x.length < 2 ^ 62) (hc : x.cps.toList[i]? = some c) (q : ∀ t, P (.str ⟨#[c]⟩ t) h)
    (hs : subscripted slice false (.str x t) (.int k u) = operate [.str x t, .int k u] (getItem (.str x t) (.int k u)) := by with_unfolding_all rfl)
    (ht : ∀ r, letTemporaryGo value (.str x t) r = Pure.pure () := by intro _; with_unfolding_all rfl) :
    Run prog w A (subscriptTail value slice (.str x t) (.int k u)) h P := fun s E e => by
  subst e hk
  have hi : i < x.length := by
    have := (List.getElem?_eq_some_iff.mp hc).1
    simpa [Str.length] using this
  have hit : Txt.item x i = ⟨#[c]⟩ := by
    have h1 : Txt.charAt x (i : Int) = some c := by
      unfold Txt.charAt seqIndex?
      have h0 : ¬ ((i : Int) < 0) := by omega
      simp only [h0, if_false]
      rw [if_pos (by simp only [Bool.and_eq_true, decide_eq_true_eq]; omega)]
      simpa using hc
    unfold Txt.item
    rw [h1]; rfl
  have h62 : (x.length : Int) < 2 ^ 62 := by exact_mod_cast hx
  have hfit : fitsSsize (i : Int) = true := by
    unfold fitsSsize
    have e1 : decide ((i : Int) < -(2 ^ 63 : Int)) = false := decide_eq_false (by omega)
    have e2 : decide ((i : Int) ≥ 2 ^ 63) = false := decide_eq_false (by omega)
    rw [e1, e2]; rfl
  refine item_str hfit (by omega) (by omega) (fun _ => ?_) hs ht
  rw [hit]
  exact ⟨⟨_, rfl⟩, q _⟩

theorem rSliceS {value slice : PySem.Expr} {x : Str} {i j : Int} {a b : Nat} {ui uj : Tok} (ha : i = a) (hb : j = b) (hsz : x.length ≤ sizeLine) (k : ∀ t h', Sub h h' → P (.str (cut x a b) t) h')
    (hs : subscripted slice false (.str x t) (.ref h.objs.size) = operate [.ref h.objs.size, .str x t] (getItem (.str x t) (.ref h.objs.size)) := by with_unfolding_all rfl)
    (ht : ∀ r, letTemporaryGo value (.str x t) r = Pure.pure () := by intro _; with_unfolding_all rfl) :
    Run prog w A (subscriptTail value slice (.str x t) (.ref h.objs.size)) (h.push { cls := .type "slice", data := .fields #[.int i ui, .int j uj, .none] }) P := fun s E e => by
  subst ha hb
  let s0 : Shared := { s with heap := h }
  have es : s = { s0 with heap := s0.heap.push { cls := .type "slice", data := .fields #[.int a ui, .int b uj, .none] } } := by
    show s = { s with heap := h.push _ }
    rw [← e]
  rw [es]
  refine tail_of_ItemOn (SBH.sliceItem_ss (s := s0) (P := fun h' => Sub h h') (fun h' ob x => x.trans (Sub.push _ _)) (Sub.refl h) (fun h' t' kk hk => ?_) hsz) hs ht
  rw [cut_slice]
  exact ⟨⟨_, rfl⟩, k _ _ hk⟩

theorem rSliceS0 {value slice : PySem.Expr} {x : Str} {j : Int} {b : Nat} {uj : Tok} (hb : j = b) (hsz : x.length ≤ sizeLine) (k : ∀ t h', Sub h h' → P (.str (cut x 0 b) t) h')
    (hs : subscripted slice false (.str x t) (.ref h.objs.size) = operate [.ref h.objs.size, .str x t] (getItem (.str x t) (.ref h.objs.size)) := by with_unfolding_all rfl)
    (ht : ∀ r, letTemporaryGo value (.str x t) r = Pure.pure () := by intro _; with_unfolding_all rfl) :
    Run prog w A (subscriptTail value slice (.str x t) (.ref h.objs.size)) (h.push { cls := .type "slice", data := .fields #[.none, .int j uj, .none] }) P := fun s E e => by
  subst hb
  let s0 : Shared := { s with heap := h }
  have es : s = { s0 with heap := s0.heap.push { cls := .type "slice", data := .fields #[.none, .int b uj, .none] } } := by
    show s = { s with heap := h.push _ }
    rw [← e]
  rw [es]
  have e0 : Txt.slice x none (some (b : Int)) = cut x 0 b := by
    rw [← cut_slice]
    have : Builtin.Str.strSliceIndices none (some (b : Int)) 1 x.length = Builtin.Str.strSliceIndices (some ((0 : Nat) : Int)) (some (b : Int)) 1 x.length := by
      have hm : max 0 (min (0 : Int) (x.length : Int)) = 0 := by omega
      simp [Builtin.Str.strSliceIndices, hm]
    unfold Txt.slice
    rw [this]
  refine tail_of_ItemOn (SBH.sliceItem_ns (s := s0) (P := fun h' => Sub h h') (fun h' ob x => x.trans (Sub.push _ _)) (Sub.refl h) (fun h' t' kk hk => ?_) hsz) hs ht
  rw [e0]
  exact ⟨⟨_, rfl⟩, k _ _ hk⟩

theorem rAddS {x y : Str} (hsz : x.length + y.length ≤ sizeLine) (q : ∀ t, P (.str (x ++ y) t) h) : Run prog w A (binaryOp .Add (.str x t) (.str y u)) h P := fun s E e => by
  subst e
  exact PyProof.Rows.add_str (fun t' tk => ⟨⟨_, rfl⟩, q _⟩) hsz

-- dicts
theorem rItemD {value slice : PySem.Expr} {d : Addr} {kvs : List (Int × Value)} {k : Int} {x : Value} (hd : DictI h d kvs) (hx : valueAt kvs k = some x) (q : P x h)
    (hs : subscripted slice false (.ref d) (.int k u) = operate [.ref d, .int k u] (getItem (.ref d) (.int k u)) := by with_unfolding_all rfl) :
    Run prog w A (subscriptTail value slice (.ref d) (.int k u)) h P := fun s E e => by
  subst e
  have hm := (hd prog w).mapOf
  exact tail_any hm.typeIs F.slot_dict_getitem.lookup (wpAny_getItem_of (intKind_is prog w k u) hm hx ⟨⟨_, rfl⟩, q⟩) hs

-- targets
theorem rAssignN {x : Str} {p : Pos} {v : Value} (r : Run prog w A (storeName env x v) h U) : Run prog w A (assign (.Name x p) env v) h U := fun s E e => PySem.wpAny_assign_Name (r s E e)

theorem rCallDef {f : Addr} {oc : Value} {od : Option Addr} {osl : Array (Option Value)} {fd : FuncData} {e : PySem.Expr} {rest : List PySem.Expr} {pos : Pos} (ho : (KF w).lookup f = some ⟨oc, od, .func fd, osl⟩)
    (k : Run prog w A (spliced (backTo pos (starEach (e :: rest) env))) h (fun vs h₁ => Wd w h₁ ∧ Run prog w A (call (.ref f) vs) h₁ P))
    (he : starEach (e :: rest) env = (false, eval e env) :: starEach rest env := by rfl) : Run prog w A (callWith pos (.ref f) [] (backTo pos (starEach (e :: rest) env)) []) h P :=
  rCallFn (o := ⟨oc, od, .func fd, osl⟩) rfl (k.mono fun vs h₁ q => ⟨q.1.1 _ _ ho, q.2⟩) he
end

theorem valueAt_keyed : ∀ (k : Nat) (vs : List Value) (i : Nat) (v : Value), vs[i]? = some v → valueAt (keyed k vs) (-((k + i : Nat) : Int)) = some v
  | k, x :: r, 0, v, h => by
    simp at h; subst h
    simp [keyed, valueAt]
  | k, x :: r, i + 1, v, h => by
    have ih := valueAt_keyed (k + 1) r i v (by simpa using h)
    have e : k + 1 + i = k + (i + 1) := by omega
    rw [e] at ih
    simp only [keyed, valueAt, List.find?_cons]
    have hne : ¬ (-(k : Int) = -((k + (i + 1) : Nat) : Int)) := by omega
    simp only [hne, decide_false]
    exact ih
  | _, [], i, v, h => by simp at h

end Mine

set_option Elab.async false
set_option maxRecDepth 100000
set_option maxHeartbeats 1000000
set_option linter.unusedVariables false
set_option autoImplicit false
namespace Mine

section
variable {prog : Program} {w : World} {A : Around} {g h : Heap} {L : Addr} {m : Str → Option Value} {mu : List (Addr × MO)} {env : Env} {P : Value → Heap → Prop} {N : Addr → Prop} {t : T} {v : Value}

theorem rG {x : String} {pos : Pos} (W : Wd w h) (gx : GlobIs x v) (q : P v h)
    (hg : env.globals = mainGlobals := by rfl) (hk : env.scope.kind = .function := by rfl) (hx : env.kindOf (Str.ofString x) = some .globalImplicit := by rfl) (hd : (Str.ofString x == ("__debug__" : Str)) = false := by decide) :
    Run prog w A (eval (.Name (Str.ofString x) pos) env) h P := rGlobal W (gx w) q hg hk hx hd
theorem rB {x : String} {pos : Pos} (W : Wd w h) (bx : BltIs x v) (q : P v h)
    (hg : env.globals = mainGlobals := by rfl) (hb : env.builtins = builtinsNs := by rfl) (hk : env.scope.kind = .function := by rfl) (hx : env.kindOf (Str.ofString x) = some .globalImplicit := by rfl) (hd : (Str.ofString x == ("__debug__" : Str)) = false := by decide) :
    Run prog w A (eval (.Name (Str.ofString x) pos) env) h P := rBuiltin W (bx.1 w) bx.2.1 q bx.2.2 hg hb hk hx hd

def isN : T → Bool | .nn => true | _ => false
def isB : T → Bool | .bb _ => true | _ => false
def isI : T → Bool | .ii _ => true | .bb _ => true | _ => false
def isD : T → Bool | .dd _ => true | _ => false
def isL : T → Bool | .ll _ => true | _ => false

theorem rIsNone (r : Rep N h t v) (q : P (.bool (isN t)) h) : Run prog w A (compareOp .Is v .none) h P := fun s E e => by
  refine is_none (ans0 e ?_)
  have : (v == Value.none) = isN t := by
    cases t <;> simp only [Rep] at r
    · subst r; rfl
    · subst r; rfl
    · obtain ⟨t, rfl⟩ := r; rfl
    · obtain ⟨a, vs, rfl, _⟩ := r; rfl
    · obtain ⟨a, vs, rfl, _⟩ := r; rfl
    · obtain ⟨a, vs, rfl, _⟩ := r; rfl
  rw [this]; exact q

theorem rIsiBool (r : Rep N h t v) (q : P (.bool (isB t)) h) : Run prog w A (call (.builtin "isinstance") [v, .type "bool"]) h P := fun s E e => by
  subst e
  cases t <;> simp only [Rep] at r
  · subst r; exact IsiPair.NoneType_bool (ans rfl q)
  · subst r; exact IsiPair.bool_bool (ans0 rfl q)
  · obtain ⟨t, rfl⟩ := r; exact IsiPair.int_bool (ans rfl q)
  · obtain ⟨a, vs, rfl, _, ⟨n, hp⟩, _⟩ := r; exact IsiPair.list_bool hp rfl (ans rfl q)
  · obtain ⟨a, vs, rfl, _, ⟨o, hp, hc, _⟩, _⟩ := r; exact IsiPair.tuple_bool hp hc (ans rfl q)
  · obtain ⟨a, vs, rfl, _, hp, _⟩ := r; obtain ⟨o, ho, hc⟩ := hp.some w; exact IsiPair.dict_bool ho hc (ans rfl q)
theorem rIsiInt (r : Rep N h t v) (hn : isN t = false) (q : P (.bool (isI t)) h) : Run prog w A (call (.builtin "isinstance") [v, .type "int"]) h P := fun s E e => by
  subst e
  cases t <;> simp only [Rep] at r
  · simp [isN] at hn
  · subst r; exact IsiPair.bool_int (ans0 rfl q)
  · obtain ⟨t, rfl⟩ := r; exact IsiPair.int_int (ans0 rfl q)
  · obtain ⟨a, vs, rfl, _, ⟨n, hp⟩, _⟩ := r; exact IsiPair.list_int hp rfl (ans rfl q)
  · obtain ⟨a, vs, rfl, _, ⟨o, hp, hc, _⟩, _⟩ := r; exact IsiPair.tuple_int hp hc (ans rfl q)
  · obtain ⟨a, vs, rfl, _, hp, _⟩ := r; obtain ⟨o, ho, hc⟩ := hp.some w; exact IsiPair.dict_int ho hc (ans rfl q)
/-- a list, a tuple or a dict -/
def isC : T → Bool | .ll _ => true | .tt _ => true | .dd _ => true | _ => false
theorem rIsiDict (r : Rep N h t v) (hn : isC t = true) (q : P (.bool (isD t)) h) : Run prog w A (call (.builtin "isinstance") [v, .type "dict"]) h P := fun s E e => by
  subst e
  cases t <;> simp only [Rep] at r <;> simp [isC] at hn
  · obtain ⟨a, vs, rfl, _, ⟨n, hp⟩, _⟩ := r; exact IsiPair.list_dict hp rfl (ans rfl q)
  · obtain ⟨a, vs, rfl, _, ⟨o, hp, hc, _⟩, _⟩ := r; exact IsiPair.tuple_dict hp hc (ans rfl q)
  · obtain ⟨a, vs, rfl, _, hp, _⟩ := r; obtain ⟨o, ho, hc⟩ := hp.some w; exact IsiPair.dict_dict ho hc (ans0 rfl q)
theorem rIsiList (r : Rep N h t v) (hn : isC t = true) (q : P (.bool (isL t)) h) : Run prog w A (call (.builtin "isinstance") [v, .type "list"]) h P := fun s E e => by
  subst e
  cases t <;> simp only [Rep] at r <;> simp [isC] at hn
  · obtain ⟨a, vs, rfl, _, ⟨n, hp⟩, _⟩ := r; exact IsiPair.list_list hp rfl (ans0 rfl q)
  · obtain ⟨a, vs, rfl, _, ⟨o, hp, hc, _⟩, _⟩ := r; exact IsiPair.tuple_list hp hc (ans rfl q)
  · obtain ⟨a, vs, rfl, _, hp, _⟩ := r; obtain ⟨o, ho, hc⟩ := hp.some w; exact IsiPair.dict_list ho hc (ans rfl q)
end

theorem ifT {X Y : Prop} (x : X) : if (true = true) then X else Y := by rw [if_pos rfl]; exact x
theorem ifF {X Y : Prop} (y : Y) : if (false = true) then X else Y := by rw [if_neg (by decide)]; exact y
noncomputable abbrev bK : List Stmt := fnBody (stmtAt 57)
noncomputable abbrev envK (L : Addr) : Env := envAt 57 "_law_kinds" 44 43 L

def forBody : Stmt → List Stmt
  | .For _ _ b _ _ => b
  | _ => []
noncomputable abbrev bKf : List Stmt := forBody ((bK[3]?).getD (.Pass default))

/-- what a call of _law_kinds on t gives -/
def KindsAt (prog : Program) (w : World) (A : Around) (t : T) : Prop := ∀ {h : Heap} {N : Addr → Prop} {v : Value} {P : Value → Heap → Prop}, Wd w h → (∀ a, N a → (a == sysModules) = false) → Rep N h t v →
    (∀ a vs h', NewAt h a h' → h'.PlainList a vs.toArray → IntsAre vs (kd t) → P (.ref a) h') → Run prog w A (call (.ref 44) [v]) h P

section
variable {prog : Program} {w : World} {A : Around} {g h : Heap} {L I row : Addr} {m : Str → Option Value} {N N1 : Addr → Prop} {v o1 : Value} {t t1 t2 : T} {o : Obj} {rv : List Value} {Q : Flow → Heap → Prop}

theorem kinds_turn (hA : KindsAt prog w A t1) (hC : isC t = true) (hN1 : ∀ a, N1 a → (a == sysModules) = false) (hN : ∀ a, N a → (a == sysModules) = false) (F : Lc w g L m [(I, .raw o), (row, .lst rv)] h)
    (m1 : m (Str.ofString "thing") = some v) (m2 : m (Str.ofString "row") = some (.ref row)) (m3 : m (Str.ofString "one") = some o1) (hr : Rep N g t v) (hr1 : Rep N1 g t1 o1) (hsz : rv.length + 2000 ≤ 100000) (ht1 : sz t1 ≤ 200)
    (hD : isD t = true → KindsAt prog w A t2 ∧ sz t2 ≤ 200 ∧ ∃ d vs k tk x, v = .ref d ∧ o1 = .int k tk ∧ DictI g d vs ∧ valueAt vs k = some x ∧ Rep N g t2 x)
    (k : ∀ h' ws, IntsAre ws ([12] ++ kd t1 ++ if isD t then [11] ++ kd t2 else []) → Lc w g L m [(I, .raw o), (row, .lst (rv ++ ws))] h' → Q .next h') :
    Run prog w A (execs bKf (envK L)) h Q := by
  have hz : sizeLine = 16777216 := rfl
  refine rCons <| rExpr <| rMethod <| rLocal F m2 <| rGetM PySem.F.slot_list_append PySem.F.type_list_append (F.at (x := .lst rv) (by simp)) <| rCallM <| rItems <| rInt fun t0 => rItemsNil <|
    rAppend (l1 := [(I, .raw o)]) (l2 := []) F (by omega) fun h₁ F₁ => ?_
  refine rCons <| rExpr <| rMethod <| rLocal F₁ m2 <| rGetM PySem.F.slot_list_extend PySem.F.type_list_extend (F₁.at (x := .lst (rv ++ [.int 12 t0])) (by simp)) <| rCallM <| rItems <| rCall <| rG F₁.wdh g_kinds <|
    rCallDef rfl <| rItems <| rLocal F₁ m3 <| rItemsNil ⟨F₁.wdh, ?_⟩
  refine hA F₁.wdh hN1 (hr1.sub F₁.sub) fun a ws h₂ x1 x2 x3 => rItemsNil ?_
  have lw : ws.length + 5 ≤ 9 * sz t1 := by rw [x3.length]; exact kd_length t1
  refine rExtend (l1 := [(I, .raw o)]) (l2 := []) (F₁.grow x1.sub) x2 (by simp; omega) fun h₃ F₃ => ?_
  have hr₃ := hr.sub F₃.sub
  refine rCons <| rIf <| rTestVal <| rCall <| rB F₃.wdh b_isinstance <| rCallB <| rItems <| rLocal F₃ m1 <| rItems <| rB F₃.wdh b_dict <| rItemsNil <| rIsiDict hr₃ hC <| rTruthBool ?_
  cases hd : isD t with
  | false =>
    refine ifF <| rNil <| rNil ?_
    refine k h₃ ([.int 12 t0] ++ ws) ?_ (by simpa using F₃)
    rw [hd]
    simpa using IntsAre.append (.cons 12 t0 .nil) x3
  | true =>
    obtain ⟨hA2, ht2, d, kvs, kk, tk, x, rfl, rfl, hdi, hva, hrx⟩ := hD hd
    refine ifT <| rCons <| rExpr <| rMethod <| rLocal F₃ m2 <| rGetM PySem.F.slot_list_append PySem.F.type_list_append (F₃.at (x := .lst _) (List.mem_cons_of_mem _ (List.mem_cons_self ..))) <| rCallM <| rItems <| rInt fun t3 => rItemsNil <|
      rAppend (l1 := [(I, .raw o)]) (l2 := []) F₃ (by simp; omega) fun h₄ F₄ => ?_
    refine rCons <| rExpr <| rMethod <| rLocal F₄ m2 <| rGetM PySem.F.slot_list_extend PySem.F.type_list_extend (F₄.at (x := .lst _) (List.mem_cons_of_mem _ (List.mem_cons_self ..))) <| rCallM <| rItems <| rCall <| rG F₄.wdh g_kinds <| rCallDef rfl <|
      rItems <| rSub <| rLocal F₄ m1 <| rLocal F₄ m3 <| rItemD (hdi.sub F₄.sub) hva <| rItemsNil ⟨F₄.wdh, ?_⟩
    refine hA2 F₄.wdh hN (hrx.sub F₄.sub) fun a2 ws2 h₅ y1 y2 y3 => rItemsNil ?_
    have lw2 : ws2.length + 5 ≤ 9 * sz t2 := by rw [y3.length]; exact kd_length t2
    refine rExtend (l1 := [(I, .raw o)]) (l2 := []) (F₄.grow y1.sub) y2 (by simp; omega) fun h₆ F₆ => ?_
    refine rNil <| rNil <| k h₆ ([.int 12 t0] ++ ws ++ [.int 11 t3] ++ ws2) ?_ (by simpa using F₆)
    rw [hd]
    have := IntsAre.append (IntsAre.append (IntsAre.append (.cons 12 t0 .nil) x3) (.cons 11 t3 .nil)) y3
    simpa using this
end

def rowOf : T → List Int
  | .ll xs => kdL xs
  | .tt xs => kdL xs
  | .dd xs => kdD 0 xs
  | _ => []
theorem kdL_append : ∀ a b : List T, kdL (a ++ b) = kdL a ++ kdL b
  | [], b => by simp [kdL]
  | x :: r, b => by simp [kdL, kdL_append r b]
theorem kdD_append : ∀ (a b : List T) (k : Nat), kdD k (a ++ b) = kdD k a ++ kdD (k + a.length) b
  | [], b, k => by simp [kdD]
  | x :: r, b, k => by
    have e : k + 1 + r.length = k + (r.length + 1) := by omega
    simp [kdD, kdD_append r b (k + 1), e]
theorem take_snoc {ts : List T} {i : Nat} {t : T} (h : ts[i]? = some t) : ts.take (i + 1) = ts.take i ++ [t] := by
  rw [List.take_add_one, h]; rfl

section
variable {prog : Program} {w : World} {A : Around} {g h : Heap} {L row : Addr} {m : Str → Option Value} {N : Addr → Prop} {v : Value} {t : T} {rv : List Value} {Q : Flow → Heap → Prop}

theorem rSlice1 {P : Value → Heap → Prop} {env : Env} {x : Str} {p q r s' : Pos} {kd : Nat} (F : Lc w g L m [(row, .lst rv)] h) (m2 : m x = some (.ref row)) (hsz : rv.length ≤ 100000)
    (k : ∀ a h', NewAt h a h' → h'.PlainList a (rv.drop 1).toArray → P (.ref a) h')
    (hL : env.locals = L := by rfl) (hk : env.scope.kind = .function := by rfl) (hx : env.kindOf x = some .local := by rfl) (hd : (x == ("__debug__" : Str)) = false := by decide) :
    Run prog w A (eval (.Subscript (.Name x p) (.Slice (some (.Constant (.int 1) kd q)) none none r) s') env) h P := by
  refine rSub <| rLocal F m2 (rSliceE <| rPartS <| rInt fun t2 => rPartN <| rPartN ?_) hL hk hx hd
  refine rSliceL ((F.at (x := .lst rv) (by simp)).at fun o e => Heap.get?_push_of_some _ e) ⟨_, Heap.get?_push_size _ rfl, rfl, rfl⟩ (.int 1 t2) .none .none (by simp) (by have : sizeLine = 16777216 := rfl; omega) fun a h' n1 p1 => ?_
  refine k a h' (n1.up (Sub.push _ _)) ?_
  have := slicePick_from' rv.toArray 1
  rw [show ((1 : Nat) : Int) = 1 from rfl] at this
  rw [this] at p1
  exact p1

theorem kinds_tail (hC : isC t = true) (F : Lc w g L m [(row, .lst rv)] h) (m1 : m (Str.ofString "thing") = some v) (m2 : m (Str.ofString "row") = some (.ref row)) (hr : Rep N g t v) (hi : IntsAre rv (rowOf t)) (hsz : rv.length ≤ 90000) (ht : sz t ≤ 200)
    (k : ∀ a vs h', NewAt h a h' → h'.PlainList a vs.toArray → IntsAre vs (kd t) → Q (.ret (.ref a)) h') : Run prog w A (execs (bK.drop 4) (envK L)) h Q := by
  have hz : sizeLine = 16777216 := rfl
  have hr₁ := hr.sub F.sub
  have hdl : (rv.drop 1).length ≤ 90000 := by simp; omega
  refine rCons <| rIf <| rTestVal <| rCall <| rB F.wdh b_isinstance <| rCallB <| rItems <| rLocal F m1 <| rItems <| rB F.wdh b_dict <| rItemsNil <| rIsiDict hr₁ hC <| rTruthBool ?_
  cases hd : isD t with
  | true =>
    refine ifT <| rCons <| rReturn <| rBin <| rBin <| rNewList <| rItems <| rInt fun t1 => rItemsNil ⟨by simp [sizeLine], fun a1 h1 n1 p1 => ?_⟩
    refine rSlice1 (F.grow n1.sub) m2 (by omega) fun a2 h2 n2 p2 => ?_
    refine rAddL (p1.at fun o e => n2.sub _ _ e) p2 (by simp; omega) fun a3 h3 n3 p3 => ?_
    refine rNewList <| rItems <| rInt fun t4 => rItemsNil ⟨by simp [sizeLine], fun a4 h4 n4 p4 => ?_⟩
    refine rAddL (p3.at fun o e => n4.sub _ _ e) p4 (by simp; omega) fun a5 h5 n5 p5 => ?_
    refine k a5 _ h5 (n5.up (n1.sub.trans (n2.sub.trans (n3.sub.trans n4.sub)))) p5 ?_
    cases t <;> simp [isD] at hd
    exact IntsAre.append (IntsAre.append (.cons 25 t1 .nil) (hi.drop 1)) (.cons 26 t4 .nil)
  | false =>
    refine ifF <| rNil <| rCons <| rIf <| rTestVal <| rCall <| rB F.wdh b_isinstance <| rCallB <| rItems <| rLocal F m1 <| rItems <| rB F.wdh b_list <| rItemsNil <| rIsiList hr₁ hC <| rTruthBool ?_
    cases hl : isL t with
    | true =>
      refine ifT <| rCons <| rReturn <| rBin <| rBin <| rNewList <| rItems <| rInt fun t1 => rItemsNil ⟨by simp [sizeLine], fun a1 h1 n1 p1 => ?_⟩
      refine rSlice1 (F.grow n1.sub) m2 (by omega) fun a2 h2 n2 p2 => ?_
      refine rAddL (p1.at fun o e => n2.sub _ _ e) p2 (by simp; omega) fun a3 h3 n3 p3 => ?_
      refine rNewList <| rItems <| rInt fun t4 => rItemsNil ⟨by simp [sizeLine], fun a4 h4 n4 p4 => ?_⟩
      refine rAddL (p3.at fun o e => n4.sub _ _ e) p4 (by simp; omega) fun a5 h5 n5 p5 => ?_
      refine k a5 _ h5 (n5.up (n1.sub.trans (n2.sub.trans (n3.sub.trans n4.sub)))) p5 ?_
      cases t <;> simp [isL] at hl
      exact IntsAre.append (IntsAre.append (.cons 9 t1 .nil) (hi.drop 1)) (.cons 10 t4 .nil)
    | false =>
      cases t <;> simp [isL, isD, isC] at hl hd hC
      rename_i xs
      simp only [Rep] at hr
      obtain ⟨a, vs, rfl, hna, htup, hreps⟩ := hr
      have hlen := Reps.length _ _ hreps
      have hxs : xs.length ≤ 200 := by have := szs_length xs; simp only [sz] at ht; omega
      refine ifF <| rNil <| rCons <| rReturn <| rBin <| rBin <| rBin <| rNewList <| rItems <| rInt fun t1 => rItemsNil ⟨by simp [sizeLine], fun a1 h1 n1 p1 => ?_⟩
      refine rSlice1 (F.grow n1.sub) m2 (by omega) fun a2 h2 n2 p2 => ?_
      refine rAddL (p1.at fun o e => n2.sub _ _ e) p2 (by simp; omega) fun a3 h3 n3 p3 => ?_
      have F3 := F.grow (n1.sub.trans (n2.sub.trans n3.sub))
      refine rIfExp <| rTestCmp <| rCall <| rB F3.wdh b_len <| rCallB <| rItems <| rLocal F3 m1 <| rItemsNil <| rLenT (htup.keeps F3.sub) (by omega) fun tl => rInt fun t2 => rEqI <| rTruthBool ?_
      by_cases h1 : xs.length = 1
      · have e : ((vs.length : Int) == 1) = true := by simp [hlen, h1]
        rw [e]
        refine ifT <| rNewList <| rItems <| rInt fun t3 => rItemsNil ⟨by simp [sizeLine], fun a4 h4 n4 p4 => ?_⟩
        refine rAddL (p3.at fun o e => n4.sub _ _ e) p4 (by simp; omega) fun a5 h5 n5 p5 => ?_
        refine rNewList <| rItems <| rInt fun t6 => rItemsNil ⟨by simp [sizeLine], fun a6 h6 n6 p6 => ?_⟩
        refine rAddL (p5.at fun o e => n6.sub _ _ e) p6 (by simp; omega) fun a7 h7 n7 p7 => ?_
        refine k a7 _ h7 (n7.up (n1.sub.trans (n2.sub.trans (n3.sub.trans (n4.sub.trans (n5.sub.trans n6.sub)))))) p7 ?_
        simp only [kd]
        rw [if_pos h1]
        exact IntsAre.append (IntsAre.append (IntsAre.append (.cons 7 t1 .nil) (hi.drop 1)) (.cons 12 t3 .nil)) (.cons 8 t6 .nil)
      · have e : ((vs.length : Int) == 1) = false := by simp only [beq_eq_false_iff_ne, ne_eq]; omega
        rw [e]
        refine ifF <| rNewList <| rItemsNil ⟨by simp [sizeLine], fun a4 h4 n4 p4 => ?_⟩
        refine rAddL (ys := []) (p3.at fun o e => n4.sub _ _ e) p4 (by simp; omega) fun a5 h5 n5 p5 => ?_
        refine rNewList <| rItems <| rInt fun t6 => rItemsNil ⟨by simp [sizeLine], fun a6 h6 n6 p6 => ?_⟩
        refine rAddL (p5.at fun o e => n6.sub _ _ e) p6 (by simp; omega) fun a7 h7 n7 p7 => ?_
        refine k a7 _ h7 (n7.up (n1.sub.trans (n2.sub.trans (n3.sub.trans (n4.sub.trans (n5.sub.trans n6.sub)))))) p7 ?_
        simp only [kd]
        rw [if_neg h1]
        exact IntsAre.append (IntsAre.append (IntsAre.append (.cons 7 t1 .nil) (hi.drop 1)) .nil) (.cons 8 t6 .nil)
end

section
variable {prog : Program} {w : World} {A : Around} {h : Heap} {N : Addr → Prop} {v : Value}

theorem kinds_call (n : Nat) : ∀ (t : T), sz t ≤ n → n ≤ 200 → ∀ {A : Around} {h : Heap} {N : Addr → Prop} {v : Value} {P : Value → Heap → Prop}, Room A n → Wd w h → (∀ a, N a → (a == sysModules) = false) → Rep N h t v →
    (∀ a vs h', NewAt h a h' → h'.PlainList a vs.toArray → IntsAre vs (kd t) → P (.ref a) h') → Run prog w A (call (.ref 44) [v]) h P := by
  induction n with
  | zero => intro t ht; have := sz_pos t; omega
  | succ n ih =>
    intro t ht hn200 A h N v P hA W hN hr hk
    refine rEnter (binds := [(Str.ofString "thing", v)]) W hA.call rfl rfl (by kernel_rfl) (fun s _ => BindsTo.of_eq rfl) (by decide) (locs rfl) fun h₁ F => ?_
    show Run prog w (A.deeper (envK h.objs.size)) (execs bK (envK h.objs.size)) h₁ _
    have hA' := hA.deeper (envK h.objs.size)
    generalize hL : h.objs.size = L at F hA' ⊢
    have hr₁ := hr.sub F.sub
    have W₁ := F.wdh
    have hone : ∀ (ns : List Int), kd t = ns → ∀ a vs h', NewAt h₁ a h' → h'.PlainList a vs.toArray → IntsAre vs ns → P (.ref a) h' :=
      fun ns e a vs h' x1 x2 x3 => hk a vs h' (x1.up F.sub) x2 (e ▸ x3)
    refine rCons (rIf (rTestBool (rOrCons (rTestCmp (rLocal F rfl (rNone (rIsNone hr₁ (rTruthBool ?_))))))))
    cases hN1 : isN t with
    | true =>
      refine ifT (ifT (rCons (rReturn (rNewList (rItems (rInt fun t1 => rItemsNil ⟨by simp [sizeLine], fun a h' x1 x2 => ?_⟩))))))
      cases t <;> simp [isN] at hN1
      exact hone [1] rfl _ _ _ x1 x2 (.cons 1 t1 .nil)
    | false =>
      refine ifF (rOrCons (rTestVal (rCall (rB W₁ b_isinstance (rCallB (rItems (rLocal F rfl (rItems (rB W₁ b_bool (rItemsNil (rIsiBool hr₁ (rTruthBool ?_))))))))))))
      cases hB1 : isB t with
      | true =>
        refine ifT (ifT (rCons (rReturn (rNewList (rItems (rInt fun t1 => rItemsNil ⟨by simp [sizeLine], fun a h' x1 x2 => ?_⟩))))))
        cases t <;> simp [isB] at hB1
        exact hone [1] rfl _ _ _ x1 x2 (.cons 1 t1 .nil)
      | false =>
        refine ifF (rOrNil (ifF (rNil ?_)))
        refine rCons (rIf (rTestVal (rCall (rB W₁ b_isinstance (rCallB (rItems (rLocal F rfl (rItems (rB W₁ b_int (rItemsNil (rIsiInt hr₁ hN1 (rTruthBool ?_))))))))))))
        cases hI1 : isI t with
        | true =>
          refine ifT (rCons (rReturn (rIfExp (rTestCmp (rLocal F rfl (rInt fun t1 => ?_))))))
          cases t with
          | ii i =>
            simp only [Rep] at hr₁
            obtain ⟨t0, rfl⟩ := hr₁
            refine rLtI (rTruthBool ?_)
            by_cases hi : i < 0
            · rw [decide_eq_true hi]
              refine ifT (rNewList (rItems (rInt fun t1 => rItems (rInt fun t2 => rItemsNil ⟨by simp [sizeLine], fun a h' x1 x2 => ?_⟩))))
              exact hone [15, 2] (by simp [kd, hi]) _ _ _ x1 x2 (.cons 15 t1 (.cons 2 t2 .nil))
            · rw [decide_eq_false hi]
              refine ifF (rNewList (rItems (rInt fun t1 => rItemsNil ⟨by simp [sizeLine], fun a h' x1 x2 => ?_⟩)))
              exact hone [2] (by simp [kd, hi]) _ _ _ x1 x2 (.cons 2 t1 .nil)
          | bb b => simp [isB] at hB1
          | _ => simp [isI] at hI1
        | false =>
          refine ifF (rNil ?_)
          have hC : isC t = true := by cases t <;> simp_all [isC, isN, isB, isI]
          refine rCons (rAssign (rNewList (rItemsNil ⟨by simp [sizeLine], fun row h₂ x1 x2 => rStore (F.extMu (x := .lst []) x1.sub x1.none x2) fun h₃ F₃ => ?_⟩)))
          clear F
          have hh : (A.deeper (envK L)).handled = none := hA'.handled
          have hk' : ∀ g' h', Lc w g' L (up (fun x => List.lookup x [(Str.ofString "thing", v)].reverse) (Str.ofString "row") (Value.ref row)) [] h' → True := fun _ _ _ => trivial
          have fin : ∀ g' m' mu' h', Sub h g' → (∃ rv, mu' = [(row, .lst rv)] ∧ IntsAre rv (rowOf t) ∧ m' (Str.ofString "thing") = some v ∧ m' (Str.ofString "row") = some (.ref row)) → Lc w g' L m' mu' h' →
              Run prog w (A.deeper (envK L)) (execs (bK.drop 4) (envK L)) h' (fun fl h₂ => P (match fl with | .ret v => v | _ => .none) h₂) := by
            rintro g' m' mu' h' hs ⟨rv, rfl, hi, e1, e2⟩ F'
            have hlen : rv.length ≤ 9 * sz t := by
              rw [hi.length]
              cases t <;> simp only [rowOf, sz, List.length_nil]
              all_goals first | omega | (rename_i xs; have := kdL_length xs; omega) | (rename_i xs; have := kdD_length xs 0; omega)
            exact kinds_tail hC F' e1 e2 (hr.sub hs) hi (by omega) (by omega) fun a vs h'' y1 y2 y3 => hk a vs h'' (y1.up (hs.trans F'.sub)) y2 y3
          have hKA : ∀ t', sz t' ≤ n → KindsAt prog w (A.deeper (envK L)) t' := fun t' ht' => @fun h N v P W hN hr hk => ih t' ht' (by omega) hA' W hN hr hk
          have lz : ∀ (xs : List T) i, (kdL (xs.take i)).length ≤ 9 * szs xs := fun xs i => by
            have h1 := kdL_length (xs.take i)
            have h2 : szs xs = szs (xs.take i) + szs (xs.drop i) := by rw [← szs_append, List.take_append_drop]
            omega
          have lzD : ∀ (xs : List T) i, (kdD 0 (xs.take i)).length ≤ 9 * szs xs := fun xs i => by
            have h1 := kdD_length (xs.take i) 0
            have h2 : szs xs = szs (xs.take i) + szs (xs.drop i) := by rw [← szs_append, List.take_append_drop]
            omega
          cases t with
          | ll xs =>
            simp only [sz] at ht
            have hr' := hr
            simp only [Rep] at hr'
            obtain ⟨a, vs, rfl, hna, hpl, hreps⟩ := hr'
            have hlen := Reps.length _ _ hreps
            refine rCons <| rFor <| rLocal F₃ rfl <| rForList hh hpl.isList F₃ (fun i g' m' mu' => ∃ rv, mu' = [(row, .lst rv)] ∧ IntsAre rv (kdL (xs.take i)) ∧ m' (Str.ofString "thing") = some (.ref a) ∧ m' (Str.ofString "row") = some (.ref row))
              ⟨[], rfl, .nil, rfl, rfl⟩ ?_ ?_ (fun _ _ _ _ _ _ => letGo_name)
            · rintro I i x g' m' mu' h' o hx hs ⟨rv, rfl, hi, e1, e2⟩ F'
              obtain ⟨t1, ht1, hr1⟩ := Reps.get _ _ hreps i x hx
              have hz1 := szs_get _ _ _ ht1
              refine rAssignN <| rStore F' fun h'' F'' => ?_
              refine kinds_turn (t2 := .nn) (hKA t1 (by omega)) hC hN hN F'' ((up_ne (by decide)).trans e1) ((up_ne (by decide)).trans e2) up_same (hr.sub hs) (hr1.sub hs) (by have := lz xs i; rw [hi.length]; omega) (by omega) (fun e => by simp [isD] at e) fun h₄ ws hws F₄ => ?_
              refine ⟨g', _, _, Sub.refl _, F₄, rv ++ ws, rfl, ?_, (up_ne (by decide)).trans e1, (up_ne (by decide)).trans e2⟩
              rw [take_snoc ht1, kdL_append]
              simpa [kdL, isD] using IntsAre.append hi hws
            · rintro g' m' mu' h' hs ⟨rv, rfl, hi, e1, e2⟩ F'
              rw [hlen, List.take_length] at hi
              exact fin g' m' _ h' hs ⟨rv, rfl, hi, e1, e2⟩ F'
          | tt xs =>
            simp only [sz] at ht
            have hr' := hr
            simp only [Rep] at hr'
            obtain ⟨a, vs, rfl, hna, hpl, hreps⟩ := hr'
            have hlen := Reps.length _ _ hreps
            refine rCons <| rFor <| rLocal F₃ rfl <| rForTuple hh hpl F₃ (fun i g' m' mu' => ∃ rv, mu' = [(row, .lst rv)] ∧ IntsAre rv (kdL (xs.take i)) ∧ m' (Str.ofString "thing") = some (.ref a) ∧ m' (Str.ofString "row") = some (.ref row))
              ⟨[], rfl, .nil, rfl, rfl⟩ ?_ ?_ (fun _ _ _ => letGo_name)
            · rintro I i x g' m' mu' h' o hx hs ⟨rv, rfl, hi, e1, e2⟩ F'
              obtain ⟨t1, ht1, hr1⟩ := Reps.get _ _ hreps i x hx
              have hz1 := szs_get _ _ _ ht1
              refine rAssignN <| rStore F' fun h'' F'' => ?_
              refine kinds_turn (t2 := .nn) (hKA t1 (by omega)) hC hN hN F'' ((up_ne (by decide)).trans e1) ((up_ne (by decide)).trans e2) up_same (hr.sub hs) (hr1.sub hs) (by have := lz xs i; rw [hi.length]; omega) (by omega) (fun e => by simp [isD] at e) fun h₄ ws hws F₄ => ?_
              refine ⟨g', _, _, Sub.refl _, F₄, rv ++ ws, rfl, ?_, (up_ne (by decide)).trans e1, (up_ne (by decide)).trans e2⟩
              rw [take_snoc ht1, kdL_append]
              simpa [kdL, isD] using IntsAre.append hi hws
            · rintro g' m' mu' h' hs ⟨rv, rfl, hi, e1, e2⟩ F'
              rw [hlen, List.take_length] at hi
              exact fin g' m' _ h' hs ⟨rv, rfl, hi, e1, e2⟩ F'
          | dd xs =>
            simp only [sz] at ht
            have hr' := hr
            simp only [Rep] at hr'
            obtain ⟨a, vs, rfl, hna, hpl, hreps⟩ := hr'
            have hlen := Reps.length _ _ hreps
            refine rCons <| rFor <| rLocal F₃ rfl <| rForDict hh hpl (hN a hna) F₃ (fun i g' m' mu' => ∃ rv, mu' = [(row, .lst rv)] ∧ IntsAre rv (kdD 0 (xs.take i)) ∧ m' (Str.ofString "thing") = some (.ref a) ∧ m' (Str.ofString "row") = some (.ref row))
              ⟨[], rfl, .nil, rfl, rfl⟩ ?_ ?_ (fun _ _ _ => letGo_name)
            · rintro I i kk x tk g' m' mu' h' o hx hs ⟨rv, rfl, hi, e1, e2⟩ F'
              have hlt : i < vs.length := by
                have := (List.getElem?_eq_some_iff.mp hx).1
                rwa [keyed_length] at this
              obtain ⟨x', hx'⟩ : ∃ x', vs[i]? = some x' := ⟨vs[i], by simp [hlt]⟩
              have hkx := keyed_get 0 vs i x' hx'
              rw [hx] at hkx
              obtain ⟨rfl, rfl⟩ : kk = -((0 + i : Nat) : Int) ∧ x = x' := by
                have := Option.some.inj hkx
                exact ⟨congrArg Prod.fst this, congrArg Prod.snd this⟩
              obtain ⟨t2, ht2, hr2⟩ := Reps.get _ _ hreps i x hx'
              have hz2 := szs_get _ _ _ ht2
              have hp2 := sz_pos t2
              refine rAssignN <| rStore F' fun h'' F'' => ?_
              refine kinds_turn (t1 := .ii (-((0 + i : Nat) : Int))) (t2 := t2) (hKA _ (by simp only [sz]; omega)) hC hN hN F'' ((up_ne (by decide)).trans e1) ((up_ne (by decide)).trans e2) up_same (hr.sub hs) (by simp only [Rep]; exact ⟨tk, rfl⟩)
                (by have := lzD xs i; rw [hi.length]; omega) (by simp only [sz]; omega)
                (fun _ => ⟨hKA t2 (by omega), by omega, a, keyed 0 vs, _, tk, x, rfl, rfl, hpl.sub hs, valueAt_keyed 0 vs i x hx', hr2.sub hs⟩) fun h₄ ws hws F₄ => ?_
              refine ⟨g', _, _, Sub.refl _, F₄, rv ++ ws, rfl, ?_, (up_ne (by decide)).trans e1, (up_ne (by decide)).trans e2⟩
              rw [take_snoc ht2, kdD_append]
              have hti : (xs.take i).length = i := by rw [List.length_take]; omega
              rw [hti]
              have := IntsAre.append hi hws
              rw [kdKey_eq] at this
              simpa [kdD, isD] using this
            · rintro g' m' mu' h' hs ⟨rv, rfl, hi, e1, e2⟩ F'
              rw [keyed_length, hlen, List.take_length] at hi
              exact fin g' m' _ h' hs ⟨rv, rfl, hi, e1, e2⟩ F'
          | _ => simp [isC] at hC
end

end Mine

set_option Elab.async false
set_option maxRecDepth 100000
set_option maxHeartbeats 1000000
set_option linter.unusedVariables false
set_option autoImplicit false
namespace Mine

theorem b_tuple : BltIs "tuple" (.type "tuple") := ⟨fun w => by kernel_rfl, by kernel_rfl, by decide⟩
theorem b_range : BltIs "range" (.type "range") := ⟨fun w => by kernel_rfl, by kernel_rfl, by decide⟩
theorem g_closed : GlobIs "_law_closed" (.ref 30) := fun w => by kernel_rfl

noncomputable def envAtC (i : Nat) (name : String) (f c : Addr) (L : Addr) : Env :=
  { scope := fnScope (stmtAt i), locals := L, globals := mainGlobals, cells := cellsFrom (L + 1) (fnScope (stmtAt i)).names [], qual := Str.ofString name ++ ".<locals>.", func := some f, code := .ref c, frame := some L, builtins := builtinsNs }

section
variable {prog : Program} {w : World} {A : Around} {h : Heap} {env : Env} {P : Value → Heap → Prop}

theorem rLocalNs {C : Addr} {m : Str → Option Value} {x : Str} {pos : Pos} {v : Value} (F : h.Ns C m) (hv : m x = some v) (q : P v h)
    (hL : env.locals = C := by rfl) (hk : env.scope.kind = .function := by rfl) (hx : env.kindOf x = some .local := by rfl) (hd : (x == ("__debug__" : Str)) = false := by decide) :
    Run prog w A (eval (.Name x pos) env) h P :=
  fun s E e => wpAny_Name (wpAny_loadName_local hk hx (by rw [hL, e]; exact F) hv ⟨⟨s.toks, rfl⟩, e ▸ q⟩) hd

theorem rTupleOf {l : Addr} {xs : List Value} (hl : h.IsList l xs.toArray) (hsz : xs.length ≤ sizeLine) (k : ∀ a h', NewAt h a h' → IsTup h' a xs.toArray → P (.ref a) h') : Run prog w A (call (.type "tuple") [.ref l]) h P := fun s E e => by
  subst e
  exact call_tuple_list hl (fun h' hk => ⟨⟨_, rfl⟩, k _ _ ⟨Sub.trans hk (Sub.push _ _), none_up (none_of_size h' (Nat.le_refl _)) hk⟩ (IsTup.new ..)⟩) (by simpa using hsz)

theorem Run.keeps {t : Sem Value} {s : Shared} {E : Value → Shared → Prop} {FV : Value → Prop} (r : Run prog w A t s.heap (fun y h' => FV y ∧ Sub s.heap h')) : wpAny (model prog w) A t (fun y s' => FV y ∧ Keeps s s') E s :=
  wpAny_mono (r s E rfl) (fun y s' q => ⟨q.2.1, let ⟨tk, e⟩ := q.1; ⟨s'.heap, tk, e, q.2.2⟩⟩) fun _ _ x => x

theorem walks_lt {I : Addr} {fp wr : List Addr} {n : Nat} {Pv : Nat → Value → Prop} {St : Nat → Heap → Prop} (W : Walks prog w A I fp wr n Pv St) : Walks prog w A I fp wr n (fun i v => Pv i v ∧ i < n) St :=
  { W with item := fun i s Q E hi st hQ => W.item i s Q E hi st fun v h' tk hp => hQ v h' tk ⟨hp, hi⟩ }

theorem keeps_of {s s' : Shared} (x : ∃ tk, s' = { s with heap := s'.heap, toks := tk }) (k : Sub s.heap s'.heap) : Keeps s s' := let ⟨tk, e⟩ := x; ⟨s'.heap, tk, e, k⟩
end

theorem stored_new : ∀ (kvs : List (Int × Value)) (k : Int) (v : Value), (∀ p ∈ kvs, p.1 ≠ k) → stored kvs k v = kvs ++ [(k, v)] := fun kvs k v hne => by
  unfold stored
  rw [if_neg]
  simp only [List.any_eq_true, decide_eq_true_eq, not_exists, not_and]
  exact fun p hp => hne p hp

theorem keyed_append : ∀ (k : Nat) (a b : List Value), keyed k (a ++ b) = keyed k a ++ keyed (k + a.length) b
  | k, [], b => by simp [keyed]
  | k, x :: r, b => by
    have e : k + 1 + r.length = k + (r.length + 1) := by omega
    simp [keyed, keyed_append (k + 1) r b, e]
theorem keyed_keys : ∀ (k : Nat) (vs : List Value), ∀ p ∈ keyed k vs, ∃ i, i < vs.length ∧ p.1 = -((k + i : Nat) : Int)
  | _, [], p, hp => by simp [keyed] at hp
  | k, v :: r, p, hp => by
    simp only [keyed, List.mem_cons] at hp
    rcases hp with rfl | hp
    · exact ⟨0, by simp, by simp⟩
    · obtain ⟨i, hi, e⟩ := keyed_keys (k + 1) r p hp
      exact ⟨i + 1, by simp; omega, by rw [e]; congr 1; omega⟩

theorem storedAll_keyed (vs : List Value) (us : List Value) (kvs : List (Int × Value)) (hs : StoredAll (fun v (k : Int) => ∃ i t, v = .int i t ∧ k = -i) (fun v y => ∃ i t, v = .int i t ∧ vs[i.toNat]? = some y) us kvs)
    (hu : ∀ (j : Nat) (v : Value), us[j]? = some v → ∃ t, v = Value.int (j : Int) t) : kvs = keyed 0 (vs.take us.length) := by
  induction hs with
  | nil => simp [keyed]
  | @snoc l kvs v k y hl hk hy ih =>
    have ih' := ih fun j v' hj => hu j v' (by rw [List.getElem?_append_left (List.getElem?_eq_some_iff.mp hj).1]; exact hj)
    obtain ⟨t, rfl⟩ := hu l.length v (by simp)
    obtain ⟨i, t', e, rfl⟩ := hk
    cases e
    obtain ⟨i', t'', e', hy'⟩ := hy
    cases e'
    have hlt : l.length < vs.length := by simpa using (List.getElem?_eq_some_iff.mp hy').1
    have hyl : vs[l.length]? = some y := by simpa using hy'
    subst ih'
    rw [stored_new]
    · rw [List.length_append, List.length_singleton, List.take_add_one, hyl, keyed_append, List.length_take, Nat.min_eq_left (by omega)]
      simp [keyed]
    · intro p hp e
      obtain ⟨i, hi, e2⟩ := keyed_keys _ _ p hp
      rw [List.length_take] at hi
      rw [e] at e2
      omega

section
variable {prog : Program} {w : World} {A : Around} {h : Heap} {env : Env} {P : Value → Heap → Prop}
theorem rangeLen {c l : Addr} {vs : List Value} {x : Str} {p1 p2 p3 p4 p5 : Pos} (hc : h.IsCell c (some (.ref l))) (hl : h.IsList l vs.toArray) (hsz : vs.length ≤ 100000) (W : Wd w h)
    (hcl : env.cells.lookup x = some c := by rfl)
    (hk : env.scope.kind = .function := by rfl) (hx : env.kindOf x = some .cell := by rfl) (hd : (x == ("__debug__" : Str)) = false := by decide)
    (hg : env.globals = mainGlobals := by rfl) (hb : env.builtins = builtinsNs := by rfl) (hxr : env.kindOf (Str.ofString "range") = some .globalImplicit := by rfl) (hxl : env.kindOf (Str.ofString "len") = some .globalImplicit := by rfl) :
    Run prog w A (eval (.Call (.Name (Str.ofString "range") p1) [.Call (.Name (Str.ofString "len") p2) [.Name x p3] [] p4] [] p5) env) h (fun xv h₂ => ∃ r t u v, xv = .ref r ∧ IsRange h₂ r 0 vs.length 1 t u v ∧ Sub h h₂) := by
  refine rCall <| rB W b_range (rCallT <| rItems <| rCall <| rB W b_len (rCallB <| rItems <| rCell hc (rItemsNil <| rLenL hl (by omega) fun t => rItemsNil ?_) hcl hk hx hd) hg hb hk hxl) hg hb hk hxr
  intro s E e
  subst e
  exact call_range_1 ⟨⟨_, rfl⟩, _, _, _, _, rfl, IsRange.new .., Sub.push _ _⟩
end

noncomputable abbrev bC : List Stmt := fnBody (stmtAt 55)
noncomputable abbrev envC (L : Addr) : Env := envAtC 55 "_law_closed" 30 29 L

/-- what _law_closed gives -/
def ClosedIs (h h' : Heap) (l : Addr) (vs : List Value) (k : Int) (v : Value) : Prop :=
  if k = 0 then v = .ref l else if k = 1 then ∃ a, v = .ref a ∧ h.get? a = none ∧ IsTup h' a vs.toArray else ∃ a, v = .ref a ∧ h.get? a = none ∧ DictI h' a (keyed 0 vs)

section
variable {prog : Program} {w : World} {A : Around} {h : Heap} {P : Value → Heap → Prop}

theorem closed_call {k : Int} {t : Tok} {l : Addr} {vs : List Value} (hA : Room A 1) (W : Wd w h) (hl : h.PlainList l vs.toArray) (hsz : vs.length ≤ 100000)
    (hk' : ∀ v h', Sub h h' → ClosedIs h h' l vs k v → P v h') : Run prog w A (call (.ref 30) [.int k t, .ref l]) h P := by
  have hz : sizeLine = 16777216 := rfl
  refine rEnterC (binds := [(Str.ofString "kind", .int k t), (Str.ofString "items", .ref l)]) W hA.call rfl rfl (by kernel_rfl) rfl rfl (kindsX rfl _) fun h₁ F hcs => ?_
  have hc := (hcs (Str.ofString "items") (h.objs.size + 1) rfl).1
  have hc' : h₁.IsCell (h.objs.size + 1) (some (.ref l)) := hc
  clear hc hcs
  show Run prog w (A.deeper (envC h.objs.size)) (execs bC (envC h.objs.size)) h₁ _
  have hA' := hA.deeper (envC h.objs.size)
  generalize hL : h.objs.size = L at F hA' hc' ⊢
  have W₁ := F.wdh
  have hl₁ : h₁.PlainList l vs.toArray := hl.at fun o e => F.sub _ _ e
  refine rCons <| rIf <| rTestCmp <| rLocal F rfl <| rInt fun t1 => rEqI <| rTruthBool ?_
  by_cases h0 : k = 0
  · rw [show (k == 0) = true by simp [h0]]
    refine ifT <| rCons <| rReturn <| rCell hc' ?_
    exact hk' _ _ F.sub (by simp [ClosedIs, h0])
  · rw [show (k == 0) = false by simp [h0]]
    refine ifF <| rNil <| rCons <| rIf <| rTestCmp <| rLocal F rfl <| rInt fun t2 => rEqI <| rTruthBool ?_
    by_cases h1 : k = 1
    · rw [show (k == 1) = true by simp [h1]]
      refine ifT <| rCons <| rReturn <| rCall <| rB W₁ b_tuple <| rCallT <| rItems <| rCell hc' <| rItemsNil <| rTupleOf hl₁.isList (by omega) fun a h₂ n1 p1 => ?_
      exact hk' _ _ (F.sub.trans n1.sub) (by simp only [ClosedIs, if_neg h0, if_pos h1]; exact ⟨a, rfl, none_up n1.none F.sub, p1⟩)
    · rw [show (k == 1) = false by simp [h1]]
      refine ifF <| rNil <| rCons <| rReturn ?_
      intro s E es
      refine wpAny_DictComp_free (cl := [(Str.ofString "items", L + 1)]) (intKind prog w) (fun _ => true) (fun v k => ∃ i t, v = .int i t ∧ k = -i) (fun v y => ∃ i t, v = .int i t ∧ vs[i.toNat]? = some y)
        rfl (by decide) rfl (by decide) (by rfl) ?_
      refine wpAny_mono ((rangeLen (env := envC L) (x := Str.ofString "items") hc' hl₁.isList hsz W₁) s E es) (fun xv s₁ q => ?_) fun _ _ x => x
      obtain ⟨q1, r, t3, t4, t5, rfl, hr, hs₁⟩ := q
      have hne : (vs.length : Int) < 2 ^ 62 := by omega
      refine wpAny_pyIter_range hr (small_one (by decide) (by decide) (by omega) hne) ?_
      have hrs : Builtin.Range.rangeSize 0 (vs.length : Int) 1 = vs.length := by
        rw [rangeSize_one]; split <;> omega
      rw [hrs]
      refine ⟨_, _, _, vs.length, _, _, rfl, walks_lt (Walks.range hA'.handled s₁.heap.objs.size 0 1 vs.length), by omega, ?_, ?_, ?_, ?_⟩
      · exact Heap.get?_push_size _ rfl
      · intro b hb
        rw [List.mem_singleton.mp hb, Heap.size_push]; exact Nat.lt_succ_self _
      · refine ⟨?_, ?_, ?_⟩
        · intro C i v s₃ m₃ E' hv hn hm hk
          exact wpAny_pure ⟨rfl, keeps_of ⟨_, rfl⟩ (Sub.refl _)⟩
        · rintro C i v s₃ m₃ E' ⟨⟨tv, rfl⟩, _⟩ _ hn hm hk
          exact Run.keeps (rUn <| rLocalNs hn hm <| rNegI fun t => ⟨⟨_, intKind_is prog w _ _, _, _, rfl, rfl⟩, Sub.refl _⟩)
        · rintro C i v s₃ m₃ E' ⟨⟨tv, rfl⟩, hlt⟩ _ hn hm hk
          have hsub : Sub h₁ s₃.heap := fun b o e => by
            have e1 := hs₁ _ _ e
            have := Heap.lt_size e1
            refine hk b o (fun hm => ?_) (Heap.get?_push_of_some _ e1)
            rw [List.mem_singleton.mp hm] at this; exact Nat.lt_irrefl _ this
          obtain ⟨oc, hoc, hdc⟩ := id hc'
          exact Run.keeps (rSub <| rCell ⟨oc, hsub _ _ hoc, hdc⟩ <| rLocalNs hn hm <| rItemL (hl₁.isList.at fun o e => hsub _ _ e) (by omega) (by omega) (x := vs[i]) (by simp) ⟨⟨_, _, rfl, by simp⟩, Sub.refl _⟩)
      · intro D h' tk kvs us hD hdict hlen hP hS hk
        rw [List.filter_eq_self.mpr (fun _ _ => rfl)] at hS
        have hkv := storedAll_keyed vs us kvs hS fun j v hj => by
          obtain ⟨⟨tv, rfl⟩, _⟩ := hP j v hj
          exact ⟨tv, by simp⟩
        rw [hlen, List.take_length] at hkv
        subst hkv
        have hsub : Sub h₁ h' := fun b o e => by
          have e1 := hs₁ _ _ e
          have := Heap.lt_size e1
          refine hk b o (fun hm => ?_) (Heap.get?_push_of_some _ e1)
          rw [List.mem_singleton.mp hm] at this; exact Nat.lt_irrefl _ this
        refine ⟨glue q1 ⟨_, rfl⟩, hk' _ _ (F.sub.trans hsub) ?_⟩
        simp only [ClosedIs, if_neg h0, if_neg h1]
        exact ⟨D, rfl, none_up (none_up hD (Sub.push _ _)) (F.sub.trans hs₁), DictI.of hdict⟩
end

end Mine

set_option Elab.async false
set_option maxRecDepth 100000
set_option maxHeartbeats 1000000
set_option linter.unusedVariables false
set_option autoImplicit false
namespace Mine

section
variable {prog : Program} {w : World} {A : Around} {g h : Heap} {L : Addr} {m : Str → Option Value} {mu : List (Addr × MO)} {env : Env} {Q : Flow → Heap → Prop} {P : Value → Heap → Prop} {U : Unit → Heap → Prop}

theorem rAssignTup {elts : List PySem.Expr} {k : Nat} {tpos pos : Pos} {value : PySem.Expr} (r : Run prog w A (eval value env) h (fun v h₁ => Run prog w A (assign (.Tuple elts k tpos) env v) h₁ (fun _ h₂ => Q .next h₂)))
    (hs : swapsWithSole [.Tuple elts k tpos] value pos.line env = Pure.pure false := by rfl)
    (hw : swappedStores [.Tuple elts k tpos] value env = Pure.pure none := by rfl) : Run prog w A (exec (.Assign [.Tuple elts k tpos] value pos) env) h Q :=
  fun s E e => Assign_Tuple (wpAny_mono (r s E e) (fun v s₁ q => q.2.step rfl q.1) fun _ _ x => x) hs hw
theorem rAssignSwap {elts : List PySem.Expr} {k : Nat} {tpos pos : Pos} {value : PySem.Expr} {names : List Str}
    (r : Run prog w A (eval value env) h (fun v h₁ => Run prog w A (unpackItems v names.length none) h₁ (fun items h₂ => Run prog w A (assignInOrder (names.reverse.map fun n => bindName env n) items.reverse) h₂ (fun _ h₃ => Q .next h₃))))
    (hs : swapsWithSole [.Tuple elts k tpos] value pos.line env = Pure.pure false := by rfl)
    (hw : swappedStores [.Tuple elts k tpos] value env = Pure.pure (some names) := by rfl) : Run prog w A (exec (.Assign [.Tuple elts k tpos] value pos) env) h Q :=
  fun s E e => Assign_Tuple_swapped (wpAny_mono (r s E e) (fun v s₁ q => wpAny_mono (q.2 s₁ E rfl) (fun b s₂ q' => q'.2.step rfl (glue q.1 q'.1)) fun _ _ x => x) fun _ _ x => x) hs hw

theorem rUnpack {t : Addr} {n : Nat} {vs : List Value} {V : List Value → Heap → Prop} (hh : A.handled = none) (ht : IsTup h t vs.toArray) (k : ∀ h', Sub h h' → V vs h') (hn : n = vs.length := by rfl) : Run prog w A (unpackItems (.ref t) n none) h V := fun s E e => by
  subst e hn
  have := unpackItems_tuple (prog := prog) (w := w) (E := E) (Q := fun a s' => (∃ tk, s' = { s with heap := s'.heap, toks := tk }) ∧ V a s'.heap) hh ht fun h' he => ⟨⟨_, rfl⟩, by simpa using k h' (sub_of_extBut_size he)⟩
  simpa using this
theorem rTargets {elts : List PySem.Expr} {k : Nat} {tpos : Pos} {t : Addr} {vs : List Value} (hh : A.handled = none) (ht : IsTup h t vs.toArray)
    (r : ∀ h', Sub h h' → Run prog w A (assignInOrder ((assignEach elts env).map (·.2)) vs) h' U)
    (hn : (assignEach elts env).length = vs.length := by rfl) (hstar : (assignEach elts env).findIdx? (·.1) = none := by rfl) : Run prog w A (assign (.Tuple elts k tpos) env (.ref t)) h U := fun s E e => by
  subst e
  exact assign_Tuple_tuple hh ht (by simpa using hn) hstar fun h' he => by
    simpa using wpAny_mono (r h' (sub_of_extBut_size he) { s with heap := h' } E rfl) (fun _ s' q => ⟨glue ⟨_, rfl⟩ q.1, q.2⟩) fun _ _ x => x
theorem rOrderNil {xs : List Value} (q : U () h) : Run prog w A (assignInOrder [] xs) h U := Run.of_pure (by cases xs <;> rfl) q
theorem rOrder {t : Value → Sem Unit} {ts : List (Value → Sem Unit)} {x : Value} {xs : List Value} (r : Run prog w A (t x) h (fun _ h₁ => Run prog w A (assignInOrder ts xs) h₁ U)) : Run prog w A (assignInOrder (t :: ts) (x :: xs)) h U :=
  fun s E e => assignInOrder_cons (wpAny_mono (r s E e) (fun _ s₁ q => q.2.step rfl q.1) fun _ _ x => x)
theorem rBind {x : Str} {v : Value} (r : Run prog w A (storeName env x v) h U) : Run prog w A (bindName env x v) h U := fun s E e => bindName_ (r s E e)
end

-- the plain machine
def clos (k : Int) (ts : List T) : T := if k = 0 then .ll ts else if k = 1 then .tt ts else .dd ts
def leaf (d p : Int) : T :=
  if d = 4 then (if p.fmod 3 = 0 then .nn else if p.fmod 3 = 1 then .bb true else .bb false) else if d = 5 then .ii (p.fmod 10) else if d = 6 then .ii (-(p.fmod 1000)) else .ii (p.fmod 1000000000)
def stp (st : List (Int × List T)) (x : Int) : List (Int × List T) :=
  if x.fmod 8 < 3 then (x.fmod 8, []) :: st
  else if x.fmod 8 = 3 then (match st with | (k, ts) :: (k2, ts2) :: r => (k2, ts2 ++ [clos k ts]) :: r | st => st)
  else (match st with | (k, ts) :: r => (k, ts ++ [leaf (x.fmod 8) (x.fdiv 8)]) :: r | [] => [])
def wgt : List (Int × List T) → Nat
  | [] => 0
  | (_, ts) :: r => szs ts + 1 + wgt r
theorem sz_clos (k : Int) (ts : List T) : sz (clos k ts) = szs ts + 1 := by unfold clos; split <;> (try split) <;> simp [sz]
theorem sz_leaf (d p : Int) : sz (leaf d p) = 1 := by unfold leaf; split <;> (try split) <;> (try split) <;> simp [sz]
theorem wgt_stp (st : List (Int × List T)) (x : Int) : wgt (stp st x) ≤ wgt st + 1 := by
  unfold stp
  split
  · simp [wgt, szs]
    omega
  · split
    · split
      · simp only [wgt, szs_append, szs, sz_clos]; omega
      · omega
    · split
      · simp only [wgt, szs_append, szs, sz_leaf]; omega
      · simp [wgt]
theorem stp_len (st : List (Int × List T)) (x : Int) (h : st ≠ []) : stp st x ≠ [] := by
  unfold stp
  split
  · simp
  · split
    · split
      · simp
      · exact h
    · split
      · simp
      · contradiction

/-- a level of the stack -/
structure Ent where
  ta : Addr
  la : Addr
  k : Int
  tk : Tok
  vs : List Value
  ts : List T
def EntOk (N : Addr → Prop) (g : Heap) (e : Ent) : Prop := IsTup g e.ta [.int e.k e.tk, .ref e.la].toArray ∧ Reps N g e.ts e.vs ∧ 0 ≤ e.k ∧ e.k < 3
theorem EntOk.sub {N : Addr → Prop} {g g' : Heap} {e : Ent} (x : EntOk N g e) (k : Sub g g') : EntOk N g' e := ⟨x.1.keeps k, x.2.1.sub k, x.2.2⟩

def stVals (es : List Ent) : List Value := es.reverse.map fun e => .ref e.ta
def stMu (es : List Ent) : List (Addr × MO) := es.map fun e => (e.la, .lst e.vs)
def stPlain (es : List Ent) : List (Int × List T) := es.map fun e => (e.k, e.ts)
theorem stVals_cons (e : Ent) (es : List Ent) : stVals (e :: es) = stVals es ++ [.ref e.ta] := by simp [stVals]
theorem stVals_len (es : List Ent) : (stVals es).length = es.length := by simp [stVals]

noncomputable abbrev bT : List Stmt := fnBody (stmtAt 56)
noncomputable abbrev envT (L : Addr) : Env := envAt 56 "_law_thing" 37 36 L
noncomputable abbrev bTf : List Stmt := forBody ((bT[1]?).getD (.Pass default))
theorem g_thing : GlobIs "_law_thing" (.ref 37) := fun w => by kernel_rfl

theorem fmod8 (x : Int) : 0 ≤ x.fmod 8 ∧ x.fmod 8 < 8 := ⟨Int.fmod_nonneg_of_pos x (by decide), Int.fmod_lt_of_pos x (by decide)⟩

theorem leaf_at {N : Addr → Prop} {g : Heap} {d p : Int} {v0 : Value} {t1 t2 t3 : Tok} (h0 : Rep N g (leaf 4 p) v0) (hd : d = 4 ∨ d = 5 ∨ d = 6 ∨ d = 7) :
    ∃ v, [v0, .int (p.fmod 10) t1, .int (-(p.fmod 1000)) t2, .int (p.fmod (10 ^ (9 : Int).toNat)) t3][(d - 4).toNat]? = some v ∧ Rep N g (leaf d p) v := by
  rcases hd with rfl | rfl | rfl | rfl
  · exact ⟨_, rfl, h0⟩
  · exact ⟨_, rfl, by simp [leaf, Rep]⟩
  · exact ⟨_, rfl, by simp [leaf, Rep]⟩
  · exact ⟨_, rfl, by simp [leaf, Rep]⟩
theorem leaf_four {N : Addr → Prop} {g : Heap} {p : Int} : ∃ v, [Value.none, .bool true, .bool false][(p.fmod 3).toNat]? = some v ∧ Rep N g (leaf 4 p) v := by
  have h0 : 0 ≤ p.fmod 3 := Int.fmod_nonneg_of_pos p (by decide)
  have h1 : p.fmod 3 < 3 := Int.fmod_lt_of_pos p (by decide)
  have : p.fmod 3 = 0 ∨ p.fmod 3 = 1 ∨ p.fmod 3 = 2 := by omega
  rcases this with e | e | e
  · rw [e]; exact ⟨_, rfl, by simp [leaf, e, Rep]⟩
  · rw [e]; exact ⟨_, rfl, by simp [leaf, e, Rep]⟩
  · rw [e]; exact ⟨_, rfl, by simp [leaf, e, Rep]⟩

theorem closed_rep {w : World} {g h h' : Heap} {L la : Addr} {m : Str → Option Value} {mu : List (Addr × MO)} {vs : List Value} {ts : List T} {N : Addr → Prop} {k : Int} {v : Value}
    (F : Lc w g L m ((la, .lst vs) :: mu) h) (hr : Reps N g ts vs) (hN : ∀ a, g.get? a = none → N a) (hs : Sub h h') (hc : ClosedIs h h' la vs k v) : ∃ g', Lc w g' L m mu h' ∧ Sub g g' ∧ Rep N g' (clos k ts) v := by
  unfold ClosedIs at hc
  unfold clos
  split at hc
  · rename_i h0
    subst hc
    obtain ⟨g', F', sg, hg⟩ := (F.grow hs).freeze
    refine ⟨g', F', sg, ?_⟩
    rw [if_pos h0]
    simp only [Rep]
    have hp := (F.grow hs).at (x := .lst vs) (a := la) (by simp)
    exact ⟨la, vs, rfl, hN _ (F.mt _ (List.mem_cons_self ..)).2.2, Heap.PlainList.at hp hg, hr.sub sg⟩
  · rename_i h0
    split at hc
    · rename_i h1
      obtain ⟨a, rfl, hn, ht⟩ := hc
      obtain ⟨g', F', sg, hg⟩ := F.drop.ext hs
      refine ⟨g', F', sg, ?_⟩
      rw [if_neg h0, if_pos h1]
      simp only [Rep]
      obtain ⟨ot, hot, r⟩ := ht
      exact ⟨a, vs, rfl, hN _ (none_up hn F.sub), ⟨ot, hg _ _ hn hot, r⟩, hr.sub sg⟩
    · rename_i h1
      obtain ⟨a, rfl, hn, ht⟩ := hc
      obtain ⟨g', F', sg, hg⟩ := F.drop.ext hs
      refine ⟨g', F', sg, ?_⟩
      rw [if_neg h0, if_neg h1]
      simp only [Rep]
      refine ⟨a, vs, rfl, hN _ (none_up hn F.sub), ?_, hr.sub sg⟩
      intro prog w
      obtain ⟨o, es, ep, h1, h2⟩ := ht prog w
      exact ⟨o, es, ep, hg _ _ hn h1, h2⟩

section
variable {prog : Program} {w : World} {A : Around} {g h : Heap} {L I stk : Addr} {m : Str → Option Value} {N : Addr → Prop} {o : Obj} {Q : Flow → Heap → Prop}

theorem thing_turn {es : List Ent} {x : Int} {t : Tok} (hA : Room A 1) (F : Lc w g L m ((I, .raw o) :: (stk, .lst (stVals es)) :: stMu es) h) (hes : ∀ e ∈ es, EntOk N g e) (hne : es ≠ []) (hN : ∀ a, g.get? a = none → N a)
    (m1 : m (Str.ofString "stack") = some (.ref stk)) (m2 : m (Str.ofString "x") = some (.int x t)) (hsz : es.length ≤ 1000)
    (hvs : ∀ e ∈ es, e.vs.length ≤ 1000)
    (k : ∀ h' g' m' es', Sub g g' → (∀ e ∈ es', EntOk N g' e) → stPlain es' = stp (stPlain es) x → m' (Str.ofString "stack") = some (.ref stk) → Lc w g' L m' ((I, .raw o) :: (stk, .lst (stVals es')) :: stMu es') h' → Q .next h') :
    Run prog w A (execs bTf (envT L)) h Q := by
  have hz : sizeLine = 16777216 := rfl
  refine rCons <| rAssignSwap (names := [Str.ofString "deed", Str.ofString "part"]) <| rNewTuple <| rItems <| rBin <| rLocal F m2 <| rInt fun t1 => rModI (by decide) fun t2 => rItems <| rBin <| rLocal F m2 <| rInt fun t3 => rDivI (by decide) (by decide) fun t4 => rItemsNil ⟨by simp [sizeLine], fun a1 h1 n1 p1 => ?_⟩
  refine rUnpack hA.handled p1 fun h2 s2 => ?_
  have F2 := F.grow (n1.sub.trans s2)
  refine rOrder <| rBind <| rStore F2 fun h3 F3 => rOrder <| rBind <| rStore F3 fun h4 F4 => rOrderNil ?_
  obtain ⟨d0, d8⟩ := fmod8 x
  have m1' : up (up m (Str.ofString "part") (Value.int (x.fdiv 8) t4)) (Str.ofString "deed") (Value.int (x.fmod 8) t2) (Str.ofString "stack") = some (.ref stk) := (up_ne (by decide)).trans ((up_ne (by decide)).trans m1)
  have md : up (up m (Str.ofString "part") (Value.int (x.fdiv 8) t4)) (Str.ofString "deed") (Value.int (x.fmod 8) t2) (Str.ofString "deed") = some (Value.int (x.fmod 8) t2) := up_same
  have mp : up (up m (Str.ofString "part") (Value.int (x.fdiv 8) t4)) (Str.ofString "deed") (Value.int (x.fmod 8) t2) (Str.ofString "part") = some (Value.int (x.fdiv 8) t4) := (up_ne (by decide)).trans up_same
  generalize up (up m (Str.ofString "part") (Value.int (x.fdiv 8) t4)) (Str.ofString "deed") (Value.int (x.fmod 8) t2) = m4 at F4 m1' md mp
  clear F F2 F3 n1 p1 s2 m1 m2
  refine rCons <| rIf <| rTestCmp <| rLocal F4 md <| rInt fun t5 => rLtI <| rTruthBool ?_
  by_cases c1 : x.fmod 8 < 3
  · rw [decide_eq_true c1]
    refine ifT <| rCons <| rExpr <| rMethod <| rLocal F4 m1' <| rGetM PySem.F.slot_list_append PySem.F.type_list_append (F4.at (x := .lst (stVals es)) (by simp)) <| rCallM <| rItems <| rNewTuple <| rItems <| rLocal F4 md <|
      rItems <| rNewList <| rItemsNil ⟨by simp [sizeLine], fun la h5 n5 p5 => rItemsNil ⟨by simp [sizeLine], fun ta h6 n6 p6 => rItemsNil ?_⟩⟩
    have F5 := F4.extMu (x := .lst []) n5.sub n5.none p5
    obtain ⟨g', F6, sg, hg⟩ := F5.ext n6.sub
    have F6' : Lc w g' L m4 ([(I, MO.raw o)] ++ (stk, .lst (stVals es)) :: (la, .lst []) :: stMu es) h6 := F6.perm (by
      refine (List.Perm.swap _ _ _).trans (List.Perm.cons _ (List.Perm.swap _ _ _)))
    refine rAppend F6' (by rw [stVals_len]; omega) fun h7 F7 => rNil <| rNil ?_
    refine k h7 g' m4 (⟨ta, la, x.fmod 8, t2, [], []⟩ :: es) sg ?_ ?_ m1' ?_
    · intro e he
      rcases List.mem_cons.mp he with rfl | he
      · refine ⟨?_, by simp [Reps], d0, c1⟩
        obtain ⟨ot, hot, r⟩ := p6
        exact ⟨ot, hg _ _ n6.none hot, r⟩
      · exact (hes e he).sub sg
    · simp [stPlain, stp, c1]
    · rw [stVals_cons]; exact F7
  · rw [decide_eq_false c1]
    refine ifF ?_
    obtain ⟨e0, r, rfl⟩ : ∃ e0 r, es = e0 :: r := by cases es with | nil => contradiction | cons a b => exact ⟨a, b, rfl⟩
    have hlen : (stVals (e0 :: r)).length = r.length + 1 := by rw [stVals_len]; rfl
    simp only [List.length_cons] at hsz
    refine rCons <| rIf <| rTestBool <| rAndCons <| rTestCmp <| rLocal F4 md <| rInt fun t6 => rEqI <| rTruthBool ?_
    by_cases c3 : x.fmod 8 = 3
    · rw [show (x.fmod 8 == 3) = true by simp [c3]]
      refine ifT <| rAndCons <| rTestCmp <| rCall <| rB F4.wdh b_len <| rCallB <| rItems <| rLocal F4 m1' <| rItemsNil <| rLenL (F4.at (x := .lst (stVals (e0 :: r))) (by simp)).isList (by omega) fun t7 => rInt fun t8 => rGtI <| rTruthBool ?_
      cases r with
      | nil =>
        rw [decide_eq_false (by rw [hlen]; decide)]
        refine ifF <| ifF <| rCons <| rIf <| rTestCmp <| rLocal F4 md <| rInt fun t9 => rGtI <| rTruthBool ?_
        rw [decide_eq_false (by omega)]
        refine ifF <| rNil <| rNil <| rNil <| rNil ?_
        exact k h4 g m4 _ (Sub.refl _) hes (by simp [stPlain, stp, c3]) m1' F4
      | cons e1 r =>
        rw [decide_eq_true (by rw [hlen]; simp only [List.length_cons]; omega)]
        refine ifT <| rAndNil <| ifT ?_
        have F4' : Lc w g L m4 ([(I, .raw o)] ++ (stk, .lst (stVals (e1 :: r) ++ [.ref e0.ta])) :: stMu (e0 :: e1 :: r)) h4 := by rw [← stVals_cons]; exact F4
        refine rCons <| rAssignTup <| rMethod <| rLocal F4' m1' <| rGetM PySem.F.slot_list_pop PySem.F.type_list_pop (F4'.at (x := .lst _) (by simp; exact .inl rfl)) <| rPop F4' (by rw [stVals_len]; simp only [List.length_cons] at hsz ⊢; omega) fun h5 F5 => ?_
        have ok0 := hes e0 (by simp)
        have ok1 := hes e1 (by simp)
        refine rTargets hA.handled (ok0.1.keeps F5.sub) fun h6 s6 => ?_
        refine rOrder <| rAssignN <| rStore (F5.grow s6) fun h7 F7 => rOrder <| rAssignN <| rStore F7 fun h8 F8 => rOrderNil ?_
        have m1'' : up (up m4 (Str.ofString "kind") (Value.int e0.k e0.tk)) (Str.ofString "items") (Value.ref e0.la) (Str.ofString "stack") = some (.ref stk) := (up_ne (by decide)).trans ((up_ne (by decide)).trans m1')
        have mk : up (up m4 (Str.ofString "kind") (Value.int e0.k e0.tk)) (Str.ofString "items") (Value.ref e0.la) (Str.ofString "kind") = some (Value.int e0.k e0.tk) := (up_ne (by decide)).trans up_same
        have mi : up (up m4 (Str.ofString "kind") (Value.int e0.k e0.tk)) (Str.ofString "items") (Value.ref e0.la) (Str.ofString "items") = some (Value.ref e0.la) := up_same
        generalize up (up m4 (Str.ofString "kind") (Value.int e0.k e0.tk)) (Str.ofString "items") (Value.ref e0.la) = m8 at F8 m1'' mk mi
        clear F4 F4' F5 F7
        have hs8 : h8.PlainList stk (stVals (e1 :: r)).toArray := F8.at (x := .lst (stVals (e1 :: r))) (by simp)
        have hl0 : h8.PlainList e0.la e0.vs.toArray := F8.at (x := .lst e0.vs) (by simp [stMu])
        have hl1 : h8.PlainList e1.la e1.vs.toArray := F8.at (x := .lst e1.vs) (by simp [stMu])
        refine rCons <| rExpr <| rMethod <| rSub <| rSub <| rLocal F8 m1'' <| rUn <| rInt fun t9 => rNegI fun t10 => rItemLast (xs := stVals r) (x := .ref e1.ta) (by rw [← stVals_cons]; exact hs8.isList) <| rInt fun t11 =>
          rItemT (ok1.1.keeps F8.sub) (by decide) (by decide) (j := 1) (by rfl) rfl <| rGetM PySem.F.slot_list_append PySem.F.type_list_append hl1 <| rCallM <| rItems <| rCall <| rG F8.wdh g_closed <| rCallDef rfl <|
          rItems <| rLocal F8 mk <| rItems <| rLocal F8 mi <| rItemsNil ⟨F8.wdh, ?_⟩
        refine closed_call hA F8.wdh hl0 (by have := hvs e0 (by simp); omega) fun v h9 s9 c9 => rItemsNil ?_
        have F8' : Lc w g L m8 ((e0.la, .lst e0.vs) :: ([(I, .raw o), (stk, .lst (stVals (e1 :: r)))] ++ (e1.la, .lst e1.vs) :: stMu r)) h8 := F8.perm (by
          show List.Perm ([(I, MO.raw o), (stk, .lst (stVals (e1 :: r)))] ++ (e0.la, MO.lst e0.vs) :: ((e1.la, MO.lst e1.vs) :: stMu r)) _
          exact List.perm_middle)
        obtain ⟨g', F9, sg, hrep⟩ := closed_rep F8' ok0.2.1 hN s9 c9
        refine rAppend F9 (by have := hvs e1 (by simp); omega) fun h10 F10 => rNil <| rNil <| rNil ?_
        refine k h10 g' m8 ({ e1 with vs := e1.vs ++ [v], ts := e1.ts ++ [clos e0.k e0.ts] } :: r) sg ?_ ?_ m1'' ?_
        · intro e he
          rcases List.mem_cons.mp he with rfl | he
          · have o1 := ok1.sub sg
            exact ⟨o1.1, Reps.snoc _ _ _ _ o1.2.1 hrep, o1.2.2⟩
          · exact (hes e (by simp [he])).sub sg
        · simp [stPlain, stp, c3]
        · rw [stVals_cons]; rw [stVals_cons] at F10; exact F10
    · rw [show (x.fmod 8 == 3) = false by simp [c3]]
      refine ifF <| ifF <| rCons <| rIf <| rTestCmp <| rLocal F4 md <| rInt fun t9 => rGtI <| rTruthBool ?_
      rw [decide_eq_true (by omega)]
      refine ifT ?_
      obtain ⟨v0, hv0, hr0⟩ := leaf_four (N := N) (g := g) (p := x.fdiv 8)
      have f3 : 0 ≤ (x.fdiv 8).fmod 3 := Int.fmod_nonneg_of_pos _ (by decide)
      have f3' : (x.fdiv 8).fmod 3 < 3 := Int.fmod_lt_of_pos _ (by decide)
      refine rCons <| rAssign <| rNewList <| rItems <| rSub <| rNewList <| rItems <| rNone <| rItems <| rBool <| rItems <| rBool <| rItemsNil ⟨by simp [sizeLine], fun a5 h5 n5 p5 => ?_⟩
      have F5 := F4.grow n5.sub
      refine rBin <| rLocal F5 mp <| rInt fun t10 => rModI (by decide) fun t11 => rItemL p5.isList f3 (by omega) hv0 ?_
      refine rItems <| rBin <| rLocal F5 mp <| rInt fun t12 => rModI (by decide) fun t13 => rItems <| rUn <| rBin <| rLocal F5 mp <| rInt fun t14 => rModI (by decide) fun t15 => rNegI fun t16 =>
        rItems <| rBin <| rLocal F5 mp <| rBin <| rInt fun t17 => rInt fun t18 => rPowI (by decide) (by decide) fun t19 => rModI (by decide) fun t20 => rItemsNil ⟨by simp [sizeLine], fun a6 h6 n6 p6 => ?_⟩
      obtain ⟨g', F6, sg, hg⟩ := F5.ext n6.sub
      have p6' : g'.PlainList a6 [v0, .int ((x.fdiv 8).fmod 10) t13, .int (-((x.fdiv 8).fmod 1000)) t16, .int ((x.fdiv 8).fmod (10 ^ (9 : Int).toNat)) t20].toArray := by
        obtain ⟨n, e⟩ := p6
        exact ⟨n, hg _ _ n6.none e⟩
      refine rStore F6 fun h7 F7 => ?_
      obtain ⟨v, hv, hrv⟩ := leaf_at (N := N) (g := g) (d := x.fmod 8) (p := x.fdiv 8) (t1 := t13) (t2 := t16) (t3 := t20) hr0 (by omega)
      have ok0 := hes e0 (by simp)
      have hs7 : h7.PlainList stk (stVals (e0 :: r)).toArray := F7.at (x := .lst (stVals (e0 :: r))) (by simp)
      have hl0 : h7.PlainList e0.la e0.vs.toArray := F7.at (x := .lst e0.vs) (by simp [stMu])
      refine rCons <| rExpr <| rMethod <| rSub <| rSub <| rLocal F7 ((up_ne (by decide)).trans m1') <| rUn <| rInt fun t21 => rNegI fun t22 => rItemLast (xs := stVals r) (x := .ref e0.ta) (by rw [← stVals_cons]; exact hs7.isList) <| rInt fun t23 =>
          rItemT (ok0.1.keeps (sg.trans F7.sub)) (by decide) (by decide) (j := 1) (by rfl) rfl <| rGetM PySem.F.slot_list_append PySem.F.type_list_append hl0 <| rCallM <| rItems <| rSub <| rLocal F7 up_same <| rBin <| rLocal F7 ((up_ne (by decide)).trans md) <| rInt fun t24 => rSubI fun t25 => ?_
      refine rItemL (x := v) (p6'.isList.at fun o e => F7.sub _ _ e) (by omega) (by omega) hv <| rItemsNil ?_
      have F7' : Lc w g' L (up m4 (Str.ofString "leaves") (.ref a6)) ([(I, .raw o), (stk, .lst (stVals (e0 :: r)))] ++ (e0.la, .lst e0.vs) :: stMu r) h7 := F7
      refine rAppend F7' (by have := hvs e0 (by simp); omega) fun h10 F10 => rNil <| rNil <| rNil <| rNil ?_
      refine k h10 g' (up m4 (Str.ofString "leaves") (.ref a6)) ({ e0 with vs := e0.vs ++ [v], ts := e0.ts ++ [leaf (x.fmod 8) (x.fdiv 8)] } :: r) sg ?_ ?_ ((up_ne (by decide)).trans m1') ?_
      · intro e he
        rcases List.mem_cons.mp he with rfl | he
        · have o1 := ok0.sub sg
          exact ⟨o1.1, Reps.snoc _ _ _ _ o1.2.1 (hrv.sub sg), o1.2.2⟩
        · exact (hes e (by simp [he])).sub sg
      · simp [stPlain, stp, c1, c3]
      · rw [stVals_cons]; rw [stVals_cons] at F10; exact F10
end

theorem ints_get : ∀ {vs : List Value} {ns : List Int}, IntsAre vs ns → ∀ (i : Nat) (x : Value), vs[i]? = some x → ∃ n tn, x = .int n tn ∧ ns[i]? = some n
  | _, _, .nil, i, x, hx => by simp at hx
  | _, _, .cons n t r, 0, x, hx => by simp at hx; exact ⟨n, t, hx.symm, by simp⟩
  | _, _, .cons n t r, i + 1, x, hx => by obtain ⟨a, b, c, d⟩ := ints_get r i x (by simpa using hx); exact ⟨a, b, c, by simpa using d⟩
def start : List (Int × List T) := [(0, [])]
def bottom (st : List (Int × List T)) : List T := (st.getLast?.map (·.2)).getD []
def build (ns : List Int) : List T := bottom ((ns ++ List.replicate ns.length 3).foldl stp start)
theorem wgt_fold : ∀ (xs : List Int) (st : List (Int × List T)), wgt (xs.foldl stp st) ≤ wgt st + xs.length
  | [], st => by simp
  | x :: r, st => by have := wgt_fold r (stp st x); have := wgt_stp st x; simp only [List.foldl_cons, List.length_cons]; omega
theorem fold_ne : ∀ (xs : List Int) (st : List (Int × List T)), st ≠ [] → xs.foldl stp st ≠ []
  | [], st, h => by simpa using h
  | x :: r, st, h => by simpa using fold_ne r _ (stp_len st x h)
theorem wgt_len : ∀ st : List (Int × List T), st.length ≤ wgt st
  | [] => by simp [wgt]
  | (k, ts) :: r => by have := wgt_len r; simp only [wgt, List.length_cons]; omega
theorem wgt_mem : ∀ (st : List (Int × List T)) (p : Int × List T), p ∈ st → szs p.2 + 1 ≤ wgt st
  | (k, ts) :: r, p, h => by
    rcases List.mem_cons.mp h with rfl | h
    · simp only [wgt]; omega
    · have := wgt_mem r p h; simp only [wgt]; omega
  | [], p, h => by simp at h

section
variable {prog : Program} {w : World} {A : Around} {h : Heap} {P : Value → Heap → Prop}

theorem thing_call {d : Addr} {ds : List Value} {ns : List Int} (hA : Room A 2) (W : Wd w h) (hd : h.PlainList d ds.toArray) (hi : IntsAre ds ns) (hsz : ns.length ≤ 23)
    (k : ∀ a vs h', Sub h h' → Fresh h a → h'.PlainList a vs.toArray → Reps (Fresh h) h' (build ns) vs → P (.ref a) h') : Run prog w A (call (.ref 37) [.ref d]) h P := by
  have hz : sizeLine = 16777216 := rfl
  have hdl := hi.length
  refine rEnter (binds := [(Str.ofString "deeds", .ref d)]) W hA.call rfl rfl (by kernel_rfl) (fun s _ => BindsTo.of_eq rfl) (by decide) (locs rfl) fun h₁ F => ?_
  show Run prog w (A.deeper (envT h.objs.size)) (execs bT (envT h.objs.size)) h₁ _
  have hA' := hA.deeper (envT h.objs.size)
  generalize hL : h.objs.size = L at F hA' ⊢
  refine rCons <| rAssign <| rNewList <| rItems <| rNewTuple <| rItems <| rInt fun t0 => rItems <| rNewList <| rItemsNil ⟨by simp [sizeLine], fun la h2 n2 p2 => rItemsNil ⟨by simp [sizeLine], fun ta h3 n3 p3 => rItemsNil ⟨by simp [sizeLine], fun stk h4 n4 p4 => ?_⟩⟩⟩
  have F2 := F.extMu (x := .lst []) n2.sub n2.none p2
  obtain ⟨g3, F3, s3, hg3⟩ := F2.ext n3.sub
  have F4 := F3.extMu (x := .lst [.ref ta]) n4.sub n4.none p4
  have ht3 : IsTup g3 ta [.int 0 t0, .ref la].toArray := by
    obtain ⟨o, ho, r⟩ := p3
    exact ⟨o, hg3 _ _ n3.none ho, r⟩
  refine rStore F4 fun h5 F5 => ?_
  clear F F2 F3 F4
  refine rCons <| rFor <| rBin <| rLocal F5 rfl <| rBin <| rNewList <| rItems <| rInt fun t1 => rItemsNil ⟨by simp [sizeLine], fun a6 h6 n6 p6 => ?_⟩
  have F6 := F5.grow n6.sub
  have hd6 : h6.PlainList d ds.toArray := hd.at fun o e => F6.sub _ _ (s3 _ _ e)
  refine rCall <| rB F6.wdh b_len <| rCallB <| rItems <| rLocal F6 rfl <| rItemsNil <| rLenL hd6.isList (by omega) fun t2 => rMulL p6 (by omega) (by omega) (by simp; omega) fun a7 h7 n7 p7 => ?_
  refine rAddL (hd6.at fun o e => n7.sub _ _ e) p7 (by simp; omega) fun a8 h8 n8 p8 => ?_
  obtain ⟨g8, F8, s8, hg8⟩ := (F6.grow n7.sub).ext n8.sub
  have hl8 : g8.IsList a8 (ds ++ List.replicate (ds.length : Int).toNat (Value.int 3 t1)).toArray := by
    obtain ⟨n, e⟩ := p8
    have : g8.PlainList a8 (ds ++ List.replicate (ds.length : Int).toNat (Value.int 3 t1)).toArray := ⟨n, hg8 _ _ n8.none e⟩
    exact this.isList
  have hxs : IntsAre (ds ++ List.replicate (ds.length : Int).toNat (Value.int 3 t1)) (ns ++ List.replicate ns.length 3) := by
    have hrep : ∀ n : Nat, IntsAre (List.replicate n (Value.int 3 t1)) (List.replicate n 3) := by
      intro n
      induction n with
      | zero => exact .nil
      | succ n ih => exact .cons 3 t1 ih
    rw [show (ds.length : Int).toNat = ns.length by omega]
    exact IntsAre.append hi (hrep _)
  have hxl := hxs.length
  have hfr : ∀ g', Sub g8 g' → ∀ a, g'.get? a = none → Fresh h a := fun g' s a e => W.fresh (none_up e (s3.trans (s8.trans s)))
  refine rForList hA'.handled hl8 F8 (fun i g' m' mu' => ∃ es, mu' = (stk, .lst (stVals es)) :: stMu es ∧ (∀ e ∈ es, EntOk (Fresh h) g' e) ∧ stPlain es = ((ns ++ List.replicate ns.length 3).take i).foldl stp start ∧ m' (Str.ofString "stack") = some (.ref stk))
    ⟨[⟨ta, la, 0, t0, [], []⟩], rfl, ?_, rfl, rfl⟩ ?_ ?_ (fun _ _ _ _ _ _ => letGo_name)
  · intro e he
    rw [List.mem_singleton.mp he]
    exact ⟨ht3.keeps s8, by simp [Reps], Int.le_refl 0, (by decide : (0 : Int) < 3)⟩
  · rintro I i x g' m' mu' h' o hx hs ⟨es, rfl, hes, hpl, e1⟩ F'
    obtain ⟨n, tn, rfl, hn⟩ : ∃ n tn, x = .int n tn ∧ (ns ++ List.replicate ns.length 3)[i]? = some n := by
      exact ints_get hxs i x hx
    have hw : wgt (stPlain es) ≤ 1 + 46 := by
      rw [hpl]
      have := wgt_fold ((ns ++ List.replicate ns.length 3).take i) start
      have h2 : wgt start = 1 := by simp [wgt, start, szs]
      have h3 : ((ns ++ List.replicate ns.length 3).take i).length ≤ 46 := by simp; omega
      omega
    have hne : es ≠ [] := by
      rintro rfl
      exact fold_ne _ start (by simp [start]) hpl.symm
    refine rAssignN <| rStore F' fun h'' F'' => ?_
    refine thing_turn hA' F'' hes hne (hfr g' hs) ((up_ne (by decide)).trans e1) up_same ?_ ?_ fun h3 g3 m3 es3 sg hes3 hpl3 e3 F3 => ?_
    · have := wgt_len (stPlain es)
      rw [show (stPlain es).length = es.length by simp [stPlain]] at this
      omega
    · intro e he
      have h1 := wgt_mem (stPlain es) (e.k, e.ts) (List.mem_map.mpr ⟨e, he, rfl⟩)
      have h2 := (hes e he).2.1.length
      have h3 := szs_length e.ts
      simp only at h1
      omega
    · refine ⟨g3, m3, _, sg, F3, es3, rfl, hes3, ?_, e3⟩
      rw [List.take_add_one, hn, List.foldl_append, hpl3, hpl]
      rfl
  · rintro g' m' mu' h' hs ⟨es, rfl, hes, hpl, e1⟩ F'
    rw [hxl, List.take_length] at hpl
    have hne : es ≠ [] := by
      rintro rfl
      exact fold_ne _ start (by simp [start]) hpl.symm
    obtain ⟨es', e, rfl⟩ : ∃ es' e, es = es' ++ [e] := ⟨es.dropLast, es.getLast hne, (List.dropLast_concat_getLast hne).symm⟩
    have hok := hes e (by simp)
    have hst : h'.PlainList stk (stVals (es' ++ [e])).toArray := F'.at (x := .lst (stVals (es' ++ [e]))) (by simp)
    have hle : h'.PlainList e.la e.vs.toArray := F'.at (x := .lst e.vs) (by simp [stMu])
    refine rCons <| rReturn <| rSub <| rSub <| rLocal F' e1 <| rInt fun t3 => rItemL (x := .ref e.ta) hst.isList (by decide) (by decide) (by simp [stVals]) <| rInt fun t4 => rItemT (hok.1.keeps F'.sub) (by decide) (by decide) (j := 1) (by rfl) rfl ?_
    refine k e.la e.vs h' (s3.trans (s8.trans (hs.trans F'.sub))) ?_ hle ?_
    · exact hfr g' hs _ (F'.mt (e.la, .lst e.vs) (by simp [stMu])).2.2
    · have : build ns = e.ts := by
        unfold build bottom
        rw [← hpl]
        simp [stPlain]
      rw [this]
      exact hok.2.1.sub F'.sub
end

end Mine

set_option Elab.async false
set_option maxRecDepth 100000
set_option maxHeartbeats 1000000
set_option linter.unusedVariables false
set_option autoImplicit false
namespace Mine

/-- a piece of a text: a sign or a word with its kind, or a blank -/
abbrev Seg := Option (Int × List Nat)
def segW : Seg → List Nat
  | none => [32]
  | some p => p.2
def flat (ss : List Seg) : List Nat := ss.flatMap segW
theorem flat_append (a b : List Seg) : flat (a ++ b) = flat a ++ flat b := by simp [flat]
theorem flat_cons (a : Seg) (b : List Seg) : flat (a :: b) = segW a ++ flat b := by simp [flat]
theorem flat_nil : flat [] = [] := rfl

def dg (n : Nat) : List Nat := (Nat.toDigits 10 n).map Char.toNat
def sgI (i : Int) : List Seg := if i < 0 then [some (15, [45]), some (2, dg i.natAbs)] else [some (2, dg i.natAbs)]
def sep : List Seg := [some (12, [44]), none]
mutual
def sgs : T → List Seg
  | .nn => [some (1, [78, 111, 110, 101])]
  | .bb b => [some (1, if b then [84, 114, 117, 101] else [70, 97, 108, 115, 101])]
  | .ii i => sgI i
  | .ll xs => [some (9, [91])] ++ (sgL xs).drop 2 ++ [some (10, [93])]
  | .tt xs => [some (7, [40])] ++ (sgL xs).drop 2 ++ (if xs.length = 1 then [some (12, [44])] else []) ++ [some (8, [41])]
  | .dd xs => [some (25, [123])] ++ (sgD 0 xs).drop 2 ++ [some (26, [125])]
def sgL : List T → List Seg
  | [] => []
  | x :: r => sep ++ sgs x ++ sgL r
def sgD : Nat → List T → List Seg
  | _, [] => []
  | k, x :: r => sep ++ sgI (-(k : Int)) ++ [some (11, [58]), none] ++ sgs x ++ sgD (k + 1) r
end

-- its kinds
def kds (ss : List Seg) : List Int := ss.filterMap fun s => s.map (·.1)
theorem kds_append (a b : List Seg) : kds (a ++ b) = kds a ++ kds b := by simp [kds]
theorem kds_sgI (i : Int) : kds (sgI i) = if i < 0 then [15, 2] else [2] := by unfold sgI; split <;> rfl
theorem drop_sgL (xs : List T) (h : kds (sgL xs) = kdL xs) : kds ((sgL xs).drop 2) = (kdL xs).drop 1 := by
  cases xs with
  | nil => rfl
  | cons x r =>
    simp only [sgL, kdL, sep] at h ⊢
    simpa [kds] using h
theorem drop_sgD (k : Nat) (xs : List T) (h : kds (sgD k xs) = kdD k xs) : kds ((sgD k xs).drop 2) = (kdD k xs).drop 1 := by
  cases xs with
  | nil => rfl
  | cons x r =>
    simp only [sgD, kdD, sep] at h ⊢
    simpa [kds] using h
mutual
theorem kds_sgs : ∀ t : T, kds (sgs t) = kd t
  | .nn => rfl
  | .bb _ => rfl
  | .ii i => by simp only [sgs, kd, kds_sgI]
  | .ll xs => by simp only [sgs, kd, kds_append, drop_sgL xs (kds_sgL xs)]; rfl
  | .tt xs => by
    simp only [sgs, kd, kds_append, drop_sgL xs (kds_sgL xs)]
    split <;> rfl
  | .dd xs => by simp only [sgs, kd, kds_append, drop_sgD 0 xs (kds_sgD 0 xs)]; rfl
theorem kds_sgL : ∀ xs : List T, kds (sgL xs) = kdL xs
  | [] => rfl
  | x :: r => by simp only [sgL, kdL, kds_append, kds_sgs x, kds_sgL r]; rfl
theorem kds_sgD : ∀ (k : Nat) (xs : List T), kds (sgD k xs) = kdD k xs
  | _, [] => rfl
  | k, x :: r => by
    simp only [sgD, kdD, kds_append, kds_sgs x, kds_sgD (k + 1) r]
    rw [← kdKey_eq, kds_sgI]
    simp only [kd]
    rfl
end

-- what the library says of it
mutual
def dat : T → PyData
  | .nn => .none
  | .bb b => .bool b
  | .ii i => .int i
  | .ll xs => .list (datL xs)
  | .tt xs => .tuple (datL xs)
  | .dd xs => .dict (datD 0 xs)
def datL : List T → List PyData
  | [] => []
  | x :: r => dat x :: datL r
def datD : Nat → List T → List (PyData × PyData)
  | _, [] => []
  | k, x :: r => (.int (-(k : Int)), dat x) :: datD (k + 1) r
end

def pile (ts : List PySem.Str) : List Nat := ts.flatMap fun t => [44, 32] ++ t.cps.toList
theorem cpsA (a b : PySem.Str) : (a ++ b).cps.toList = a.cps.toList ++ b.cps.toList := PyProof.Rows.cps_toList_append a b
theorem textFrom_cps : ∀ (ts : List PySem.Str) (k : Nat) (acc : PySem.Str), (textFrom k acc ts).cps.toList = acc.cps.toList ++ (if k > 0 then pile ts else (pile ts).drop 2)
  | [], k, acc => by simp [textFrom, pile]
  | t :: r, k, acc => by
    rw [textFrom, textFrom_cps r (k + 1), cpsA, cpsA]
    by_cases h : k > 0
    · simp only [h, if_true, show k + 1 > 0 by omega]
      simp [pile]
      rfl
    · simp only [h, if_false, show k + 1 > 0 by omega, if_true]
      simp [pile]
      rfl
theorem listText_cps (ts : List PySem.Str) : (listText ts).cps.toList = [91] ++ (pile ts).drop 2 ++ [93] := by
  unfold listText
  rw [cpsA, textFrom_cps]
  simp only [show ¬ (0 > 0) by omega, if_false]
  rfl
theorem join_cps : ∀ ts : List PySem.Str, (Str.join ", " ts).cps.toList = (pile ts).drop 2
  | [] => rfl
  | [x] => by simp [Str.join, pile]
  | x :: y :: r => by
    have := join_cps (y :: r)
    rw [Str.join, cpsA, cpsA, this]
    · simp [pile]
      rfl
    · simp
theorem tupleText_cps (ts : List PySem.Str) : (tupleText ts).cps.toList = [40] ++ (pile ts).drop 2 ++ (if ts.length = 1 then [44] else []) ++ [41] := by
  unfold tupleText
  rw [cpsA, cpsA, join_cps]
  by_cases h : ts.length = 1
  · simp only [h, beq_self_eq_true, if_true]
    simp
    rfl
  · have : (ts.length == 1) = false := by simp [h]
    simp only [this, h, if_false]
    simp
    rfl
theorem dictText_cps (ts : List PySem.Str) : (dictText ts).cps.toList = [123] ++ (pile ts).drop 2 ++ [125] := by
  unfold dictText
  rw [cpsA, cpsA, join_cps]
  rfl

theorem shownAll_len : ∀ xs : List T, (PyData.shownAll (datL xs)).length = xs.length
  | [] => rfl
  | x :: r => by simp [datL, PyData.shownAll, shownAll_len r]
theorem int_cps (i : Int) : (Str.ofString (toString i)).cps.toList = flat (sgI i) := by
  unfold sgI
  by_cases h : i < 0
  · rw [if_pos h]
    obtain ⟨n, rfl⟩ := Int.eq_negSucc_of_lt_zero h
    rw [Str.ofString_eq_toList]
    show (List.map Char.toNat (("-" ++ Nat.repr (n + 1)).toList)).toArray.toList = _
    simp only [String.toList_append, List.map_append, Nat.toList_repr]
    have e : List.map Char.toNat "-".toList = [45] := by decide
    rw [e]
    simp [flat, segW, dg]
  · rw [if_neg h]
    obtain ⟨n, rfl⟩ := Int.eq_ofNat_of_zero_le (Int.not_lt.mp h)
    rw [KIN.signs_num]
    simp [flat, segW, dg]
theorem flat_drop_sgL (xs : List T) : flat ((sgL xs).drop 2) = (flat (sgL xs)).drop 2 := by
  cases xs with
  | nil => rfl
  | cons x r => simp [sgL, sep, flat, segW]
theorem flat_drop_sgD (k : Nat) (xs : List T) : flat ((sgD k xs).drop 2) = (flat (sgD k xs)).drop 2 := by
  cases xs with
  | nil => rfl
  | cons x r => simp [sgD, sep, flat, segW]
mutual
theorem shown_cps : ∀ t : T, (dat t).shown.cps.toList = flat (sgs t)
  | .nn => rfl
  | .bb true => rfl
  | .bb false => rfl
  | .ii i => int_cps i
  | .ll xs => by
    simp only [dat, PyData.shown, sgs, listText_cps, flat_append, flat_drop_sgL, ← shown_pile xs]
    rfl
  | .tt xs => by
    simp only [dat, PyData.shown, sgs, tupleText_cps, flat_append, flat_drop_sgL, ← shown_pile xs, shownAll_len]
    split <;> rfl
  | .dd xs => by
    simp only [dat, PyData.shown, sgs, dictText_cps, flat_append, flat_drop_sgD, ← shown_pileD 0 xs]
    rfl
theorem shown_pile : ∀ xs : List T, pile (PyData.shownAll (datL xs)) = flat (sgL xs)
  | [] => rfl
  | x :: r => by
    have h1 := shown_cps x
    have h2 := shown_pile r
    simp only [datL, PyData.shownAll, sgL, flat_append, ← h1, ← h2]
    simp [pile, sep, flat, segW]
theorem shown_pileD : ∀ (k : Nat) (xs : List T), pile (PyData.shownKv (datD k xs)) = flat (sgD k xs)
  | _, [] => rfl
  | k, x :: r => by
    have h1 := shown_cps x
    have h2 := shown_pileD (k + 1) r
    simp only [datD, PyData.shownKv, sgD, flat_append, ← h1, ← h2, ← int_cps]
    simp only [pile, List.flatMap_cons, cpsA, PyData.shown]
    simp [sep, flat, segW]
    rfl
end

-- sizes
mutual
def small : T → Prop
  | .ii i => i.natAbs < 1000000000
  | .ll xs => smalls xs
  | .tt xs => smalls xs
  | .dd xs => smalls xs
  | _ => True
def smalls : List T → Prop
  | [] => True
  | x :: r => small x ∧ smalls r
end
theorem smalls_append : ∀ a b : List T, smalls (a ++ b) ↔ smalls a ∧ smalls b
  | [], b => by simp [smalls]
  | x :: r, b => by simp [smalls, smalls_append r b, and_assoc]
theorem smalls_get : ∀ (xs : List T) (i : Nat) (t : T), smalls xs → xs[i]? = some t → small t
  | x :: r, 0, t, h, e => by simp at e; subst e; exact h.1
  | x :: r, i + 1, t, h, e => smalls_get r i t h.2 (by simpa using e)
  | [], i, t, h, e => by simp at e
def okSt (st : List (Int × List T)) : Prop := ∀ p ∈ st, smalls p.2
theorem small_clos (k : Int) (ts : List T) (h : smalls ts) : small (clos k ts) := by unfold clos; split <;> (try split) <;> simpa [small] using h
theorem small_leaf (d p : Int) : small (leaf d p) := by
  unfold leaf
  have h1 := Int.fmod_nonneg_of_pos p (b := 10) (by decide)
  have h2 := Int.fmod_lt_of_pos p (b := 10) (by decide)
  have h3 := Int.fmod_nonneg_of_pos p (b := 1000) (by decide)
  have h4 := Int.fmod_lt_of_pos p (b := 1000) (by decide)
  have h5 := Int.fmod_nonneg_of_pos p (b := 1000000000) (by decide)
  have h6 := Int.fmod_lt_of_pos p (b := 1000000000) (by decide)
  split <;> (try split) <;> (try split) <;> simp only [small] <;> omega
theorem okSt_stp (st : List (Int × List T)) (x : Int) (h : okSt st) : okSt (stp st x) := by
  unfold stp
  split
  · intro p hp
    rcases List.mem_cons.mp hp with rfl | hp
    · simp [smalls]
    · exact h p hp
  · split
    · split
      · rename_i k ts k2 ts2 r
        intro p hp
        rcases List.mem_cons.mp hp with rfl | hp
        · exact (smalls_append _ _).mpr ⟨h (k2, ts2) (by simp), small_clos k ts (h (k, ts) (by simp)), trivial⟩
        · exact h p (by simp [hp])
      · exact h
    · split
      · rename_i k ts r
        intro p hp
        rcases List.mem_cons.mp hp with rfl | hp
        · exact (smalls_append _ _).mpr ⟨h (k, ts) (by simp), small_leaf _ _, trivial⟩
        · exact h p (by simp [hp])
      · exact fun p hp => by simp at hp
theorem okSt_fold : ∀ (xs : List Int) (st : List (Int × List T)), okSt st → okSt (xs.foldl stp st)
  | [], st, h => h
  | x :: r, st, h => okSt_fold r _ (okSt_stp st x h)
theorem bottom_mem (st : List (Int × List T)) : bottom st = [] ∨ ∃ k, (k, bottom st) ∈ st := by
  unfold bottom
  cases e : st.getLast? with
  | none => exact .inl rfl
  | some p => exact .inr ⟨p.1, List.mem_of_getLast? e⟩
theorem build_small (ns : List Int) : smalls (build ns) := by
  have h := okSt_fold (ns ++ List.replicate ns.length 3) start (fun p hp => by rw [List.mem_singleton.mp hp]; trivial)
  rcases bottom_mem ((ns ++ List.replicate ns.length 3).foldl stp start) with e | ⟨k, hk⟩
  · unfold build; rw [e]; trivial
  · exact h _ hk
theorem build_sz (ns : List Int) (hn : ns.length ≤ 23) : szs (build ns) + 1 ≤ 47 := by
  have h := wgt_fold (ns ++ List.replicate ns.length 3) start
  have h2 : wgt start = 1 := by simp [wgt, start, szs]
  rw [h2] at h
  simp only [List.length_append, List.length_replicate] at h
  rcases bottom_mem ((ns ++ List.replicate ns.length 3).foldl stp start) with e | ⟨k, hk⟩
  · unfold build; rw [e]; simp [szs]
  · have := wgt_mem _ _ hk
    unfold build
    simp only at this
    omega

theorem dg_len {n : Nat} (h : n < 1000000000) : (dg n).length ≤ 9 := by
  unfold dg
  rw [List.length_map]
  exact digits10_le (by decide) (by simpa using h)
theorem dg_pos (n : Nat) : 1 ≤ (dg n).length := by
  unfold dg
  rw [List.length_map]
  exact tDigits_len_ge 10 n
theorem sgI_len {i : Int} (h : i.natAbs < 1000000000) : (flat (sgI i)).length ≤ 10 := by
  have := dg_len h
  unfold sgI
  split <;> simp [flat, segW] <;> omega
theorem flen (a b : List Seg) : (flat (a ++ b)).length = (flat a).length + (flat b).length := by rw [flat_append, List.length_append]
mutual
theorem flat_len : ∀ t : T, small t → sz t ≤ 1000 → (flat (sgs t)).length + 20 ≤ 40 * sz t
  | .nn, _, _ => by simp [sgs, flat, segW, sz]
  | .bb true, _, _ => by simp [sgs, flat, segW, sz]
  | .bb false, _, _ => by simp [sgs, flat, segW, sz]
  | .ii i, h, _ => by have := sgI_len (by simpa [small] using h : i.natAbs < 1000000000); simp only [sgs, sz]; omega
  | .ll xs, h, hs => by
    simp only [sz] at hs ⊢
    have := flatL_len xs (by simpa [small] using h) (by omega)
    simp only [sgs, flen, flat_drop_sgL, List.length_drop, show (flat [some (9, [91])]).length = 1 from rfl, show (flat [some (10, [93])]).length = 1 from rfl]
    omega
  | .tt xs, h, hs => by
    simp only [sz] at hs ⊢
    have := flatL_len xs (by simpa [small] using h) (by omega)
    simp only [sgs, flen, flat_drop_sgL, List.length_drop, show (flat [some (7, [40])]).length = 1 from rfl, show (flat [some (8, [41])]).length = 1 from rfl]
    split
    · simp only [show (flat [some (12, [44])]).length = 1 from rfl]; omega
    · simp only [show (flat []).length = 0 from rfl]; omega
  | .dd xs, h, hs => by
    simp only [sz] at hs ⊢
    have := flatD_len 0 xs (by simpa [small] using h) (by omega)
    simp only [sgs, flen, flat_drop_sgD, List.length_drop, show (flat [some (25, [123])]).length = 1 from rfl, show (flat [some (26, [125])]).length = 1 from rfl]
    omega
theorem flatL_len : ∀ xs : List T, smalls xs → szs xs ≤ 1000 → (flat (sgL xs)).length ≤ 40 * szs xs
  | [], _, _ => by simp [sgL, flat]
  | x :: r, h, hs => by
    simp only [szs] at hs ⊢
    have h1 := flat_len x h.1 (by omega)
    have h2 := flatL_len r h.2 (by omega)
    simp only [sgL, flen, show (flat sep).length = 2 from rfl]
    omega
theorem flatD_len : ∀ (k : Nat) (xs : List T), smalls xs → k + szs xs ≤ 1000 → (flat (sgD k xs)).length ≤ 40 * szs xs
  | _, [], _, _ => by simp [sgD, flat]
  | k, x :: r, h, hs => by
    simp only [szs] at hs ⊢
    have hp := sz_pos x
    have h1 := flat_len x h.1 (by omega)
    have h2 := flatD_len (k + 1) r h.2 (by omega)
    have h3 := sgI_len (i := -(k : Int)) (by omega)
    simp only [sgD, flen, show (flat sep).length = 2 from rfl, show (flat [some (11, [58]), none]).length = 2 from rfl]
    omega
end

-- the library's reading of a thing
theorem kvs_keys : ∀ (es : List DictEntry) (kvs : List (Int × Value)) (prog : Program) (w : World), Pairs (intKind prog w) es kvs → (es.map (·.val)) = kvs.map (·.2) ∧ ∀ h, ReadsAll h (es.map (·.key)) (kvs.map fun p => PyData.int p.1) []
  | _, _, prog, w, .nil => ⟨rfl, fun h => .nil⟩
  | _, _, prog, w, .cons (e := e) (es := es) (kv := (k, v)) h1 h2 r => by
    have h2' : e.val = v := h2
    obtain ⟨i1, i2⟩ := kvs_keys _ _ prog w r
    refine ⟨by simp [i1, h2'], fun h => ?_⟩
    have hv : Value.isInt k e.key = true := h1
    simp only [List.map_cons]
    cases hk : e.key with
    | int j t =>
      rw [hk] at hv
      have e : j = k := by simpa [Value.isInt] using hv
      subst e
      exact ReadsAll.cons (as := []) (.int _ t) (i2 h)
    | _ => rw [hk] at hv; simp [Value.isInt] at hv
theorem keyed_dat : ∀ (k : Nat) (xs : List T) (vs : List Value), vs.length = xs.length → (keyed k vs).map (fun p => PyData.int p.1) = (datD k xs).map (·.1) ∧ (datD k xs).map (·.2) = datL xs
  | k, [], vs, h => by
    have : vs = [] := List.length_eq_zero_iff.mp h
    subst this
    simp [keyed, datD, datL]
  | k, x :: r, [], h => by simp at h
  | k, x :: r, v :: vs, h => by
    have ih := keyed_dat (k + 1) r vs (by simpa using h)
    simp [keyed, datD, datL, ih.1, ih.2]
mutual
theorem rep_reads {N : Addr → Prop} {h : Heap} (w : World) : ∀ (t : T) (v : Value), Rep N h t v → ∃ as, Reads h v (dat t) as ∧ ∀ a ∈ as, N a
  | .nn, v, r => by simp only [Rep] at r; subst r; exact ⟨[], .none, by simp⟩
  | .bb b, v, r => by simp only [Rep] at r; subst r; exact ⟨[], .bool b, by simp⟩
  | .ii i, v, r => by simp only [Rep] at r; obtain ⟨t, rfl⟩ := r; exact ⟨[], .int i t, by simp⟩
  | .ll xs, v, r => by
    simp only [Rep] at r
    obtain ⟨a, vs, rfl, hn, ⟨n, hp⟩, hr⟩ := r
    obtain ⟨as, h1, h2⟩ := reps_reads w xs vs hr
    exact ⟨a :: as, .list hp rfl rfl h1, fun b hb => (List.mem_cons.mp hb).elim (fun e => e ▸ hn) (h2 b)⟩
  | .tt xs, v, r => by
    simp only [Rep] at r
    obtain ⟨a, vs, rfl, hn, ⟨o, hp, hc, n, hd⟩, hr⟩ := r
    obtain ⟨as, h1, h2⟩ := reps_reads w xs vs hr
    exact ⟨as, .tuple hp hc hd h1, h2⟩
  | .dd xs, v, r => by
    simp only [Rep] at r
    obtain ⟨a, vs, rfl, hn, hdi, hr⟩ := r
    obtain ⟨as, h1, h2⟩ := reps_reads w xs vs hr
    have hl := Reps.length _ _ hr
    obtain ⟨o, es, ep, ho, hc, hd, hz, hp, hnd⟩ := hdi default w
    obtain ⟨k1, k2⟩ := kvs_keys _ _ _ _ hp
    obtain ⟨d1, d2⟩ := keyed_dat 0 xs vs hl
    refine ⟨a :: [] ++ as, .dict (kvs := datD 0 xs) ho hc.1 hd ?_ ?_, fun b hb => ?_⟩
    · rw [← d1]; exact k2 h
    · rw [k1, keyed_snd, d2]; exact h1
    · rcases List.mem_cons.mp hb with e | e
      · exact e ▸ hn
      · exact h2 b (by simpa using e)
theorem reps_reads {N : Addr → Prop} {h : Heap} (w : World) : ∀ (ts : List T) (vs : List Value), Reps N h ts vs → ∃ as, ReadsAll h vs (datL ts) as ∧ ∀ a ∈ as, N a
  | [], vs, r => by simp only [Reps] at r; subst r; exact ⟨[], .nil, by simp⟩
  | x :: xs, vs, r => by
    simp only [Reps] at r
    obtain ⟨v, ws, rfl, h1, h2⟩ := r
    obtain ⟨as, p1, p2⟩ := rep_reads w x v h1
    obtain ⟨bs, q1, q2⟩ := reps_reads w xs ws h2
    exact ⟨as ++ bs, .cons p1 q1, fun a ha => (List.mem_append.mp ha).elim (p2 a) (q2 a)⟩
end

theorem log_small {i : Int} (h : i.natAbs < 1000000000) : i.natAbs.log2 < 1920 := by
  rcases Nat.eq_zero_or_pos i.natAbs with e | e
  · rw [e]; decide
  · have h2 : i.natAbs.log2 < 30 := (Nat.log2_lt (by omega)).mpr (by omega)
    omega
mutual
theorem showable_dat : ∀ t : T, small t → sz t ≤ 1000 → (dat t).showable = true
  | .nn, _, _ => rfl
  | .bb _, _, _ => rfl
  | .ii i, h, _ => by simp only [dat, PyData.showable, decide_eq_true_eq]; exact log_small (by simpa [small] using h)
  | .ll xs, h, hs => by simp only [sz] at hs; simp only [dat, PyData.showable]; exact showable_all xs (by simpa [small] using h) (by omega)
  | .tt xs, h, hs => by simp only [sz] at hs; simp only [dat, PyData.showable]; exact showable_all xs (by simpa [small] using h) (by omega)
  | .dd xs, h, hs => by simp only [sz] at hs; simp only [dat, PyData.showable]; exact showable_kv 0 xs (by simpa [small] using h) (by omega)
theorem showable_all : ∀ xs : List T, smalls xs → szs xs ≤ 1000 → PyData.showableAll (datL xs) = true
  | [], _, _ => rfl
  | x :: r, h, hs => by
    simp only [szs] at hs
    simp only [datL, PyData.showableAll, Bool.and_eq_true]
    exact ⟨showable_dat x h.1 (by omega), showable_all r h.2 (by omega)⟩
theorem showable_kv : ∀ (k : Nat) (xs : List T), smalls xs → k + szs xs ≤ 1000 → PyData.showableKv (datD k xs) = true
  | _, [], _, _ => rfl
  | k, x :: r, h, hs => by
    simp only [szs] at hs
    have hp := sz_pos x
    simp only [datD, PyData.showableKv, PyData.showable, Bool.and_eq_true, decide_eq_true_eq]
    exact ⟨⟨log_small (by omega), showable_dat x h.1 (by omega)⟩, showable_kv (k + 1) r h.2 (by omega)⟩
end
mutual
theorem depth_dat : ∀ t : T, (dat t).depth ≤ sz t
  | .nn => by simp [dat, PyData.depth]
  | .bb _ => by simp [dat, PyData.depth]
  | .ii i => by simp [dat, PyData.depth]
  | .ll xs => by have := depth_all xs; simp only [dat, PyData.depth, sz]; omega
  | .tt xs => by have := depth_all xs; simp only [dat, PyData.depth, sz]; omega
  | .dd xs => by have := depth_kv 0 xs; simp only [dat, PyData.depth, sz]; omega
theorem depth_all : ∀ xs : List T, PyData.depthAll (datL xs) ≤ szs xs
  | [] => by simp [datL, PyData.depthAll]
  | x :: r => by have h1 := depth_dat x; have h2 := depth_all r; simp only [datL, PyData.depthAll, szs]; omega
theorem depth_kv : ∀ (k : Nat) (xs : List T), PyData.depthKv (datD k xs) ≤ szs xs
  | _, [] => by simp [datD, PyData.depthKv]
  | k, x :: r => by have h1 := depth_dat x; have h2 := depth_kv (k + 1) r; simp only [datD, PyData.depthKv, PyData.depth, szs]; omega
end

end Mine

set_option Elab.async false
set_option maxRecDepth 100000
set_option maxHeartbeats 1000000
set_option linter.unusedVariables false
set_option autoImplicit false
namespace Mine

noncomputable abbrev bS : List Stmt := fnBody (stmtAt 2)
noncomputable abbrev envS (L : Addr) : Env := envAt 2 "safe_repr" 22 21 L
theorem g_safe : GlobIs "safe_repr" (.ref 22) := fun w => by kernel_rfl
theorem b_repr : BltIs "repr" (.builtin "repr") := ⟨fun w => by kernel_rfl, by kernel_rfl, by decide⟩
theorem g_max : ∃ t, GlobIs "_MAX_LENGTH" (.int 80 t) := ⟨_, fun w => by rfl⟩

def txt (l : List Nat) : PySem.Str := ⟨l.toArray⟩
theorem txt_len (l : List Nat) : (txt l).length = l.length := by simp [txt, Str.length]
def tail : List Nat := [32, 91, 116, 114, 117, 110, 99, 97, 116, 101, 100, 93, 46, 46, 46]
def short (l : List Nat) : List Nat := if l.length < 80 then l else l.take 80 ++ tail

section
variable {prog : Program} {w : World} {A : Around} {h : Heap} {env : Env} {Q : Flow → Heap → Prop} {P : Value → Heap → Prop} {N : Addr → Prop}

theorem rTry {body orelse : List Stmt} {h₀ : ExceptHandler} {hs : List ExceptHandler} {pos : Pos} (r : Run prog w A (execs body env) h (Then prog w A env orelse Q)) : Run prog w A (exec (.Try body (h₀ :: hs) orelse [] pos) env) h Q :=
  fun s E e => wpAny_Try_except (wpAny_mono (r s _ e) (fun f s' q => by
    cases f with
    | next => exact Run.step q.2 rfl q.1
    | brk => exact q
    | cont => exact q
    | ret v => exact q) fun _ _ x => x)

theorem rRepr {t : T} {a : Addr} (hA : Room A 0) (hr : Rep N h t (.ref a)) (hN : ∀ a, N a → (a == sysModules) = false) (ht : small t) (hz : sz t ≤ 47) (k : ∀ u h', Sub h h' → P (.str (txt (flat (sgs t))) u) h') :
    Run prog w A (call (.builtin "repr") [.ref a]) h P := fun s E e => by
  subst e
  obtain ⟨as, hrd, has⟩ := rep_reads w t _ hr
  have hs : (dat t).shown = txt (flat (sgs t)) := by
    have := shown_cps t
    unfold txt
    rw [← this]
  have hl := flat_len t ht (by omega)
  have hd := depth_dat t
  refine repr_of_reads' hrd (showable_dat t ht (by omega)) (fun _ hm => ?_) hA.guards (by have := hA.units; omega) (fun _ _ e => e) (fun h' u tk hk => ⟨⟨_, rfl⟩, hs ▸ k u h' hk⟩) ?_
  · have := hN _ (has _ hm)
    simp at this
  · rw [hs, txt_len]
    have : sizeLine = 16777216 := rfl
    omega

theorem safe_body {h' : Heap} {L : Addr} {m : Str → Option Value} {t : T} {a : Addr} {b : Bool} (hA : Room A 0) (F : Lc w h L m [] h') (m1 : m (Str.ofString "obj") = some (.ref a)) (m2 : m (Str.ofString "short") = some (.bool b)) (hr : Rep N h t (.ref a)) (hN : ∀ a, N a → (a == sysModules) = false) (ht : small t) (hz : sz t ≤ 47)
    (k : ∀ u h', Sub h h' → Q (.ret (.str (txt (if b then short (flat (sgs t)) else flat (sgs t))) u)) h') : Run prog w A (execs bS (envS L)) h' Q := by
  have hl := flat_len t ht (by omega)
  obtain ⟨tm, gm⟩ := g_max
  have hzl : sizeLine = 16777216 := rfl
  refine rCons <| rTry <| rCons <| rAssign <| rCall <| rB F.wdh b_repr <| rCallB <| rItems <| rLocal F m1 <| rItemsNil <| rRepr hA (hr.sub F.sub) hN ht hz fun u h1 s1 => rStore (F.grow s1) fun h2 F2 => rNil <| rNil ?_
  have m2' : up m (Str.ofString "result") (.str (txt (flat (sgs t))) u) (Str.ofString "short") = some (.bool b) := (up_ne (by decide)).trans m2
  refine rCons <| rIf <| rTestBool <| rOrCons <| rTestNot <| rTestVal <| rLocal F2 m2' <| rTruthBool ?_
  cases b with
  | false =>
    refine ifT <| ifT <| rCons <| rReturn <| rLocal F2 up_same ?_
    exact k u h2 F2.sub
  | true =>
    refine ifF <| rOrCons <| rTestCmp <| rCall <| rB F2.wdh b_len <| rCallB <| rItems <| rLocal F2 up_same <| rItemsNil <| rLenS (by rw [txt_len]; omega) fun t1 => rG F2.wdh gm <| rLtI <| rTruthBool ?_
    rw [txt_len]
    by_cases hlt : (flat (sgs t)).length < 80
    · rw [decide_eq_true (by omega)]
      refine ifT <| ifT <| rCons <| rReturn <| rLocal F2 up_same ?_
      have := k u h2 F2.sub
      rw [if_pos rfl] at this
      unfold short at this
      rw [if_pos hlt] at this
      exact this
    · rw [decide_eq_false (by omega)]
      refine ifF <| rOrNil <| ifF <| rNil <| rCons <| rReturn <| rBin <| rSub <| rLocal F2 up_same <| rSliceE <| rPartN <| rPartS <| rG F2.wdh gm <| rPartN ?_
      refine rSliceS0 (b := 80) rfl (by rw [txt_len]; omega) fun t2 h3 s3 => rStr fun t3 => rAddS (by rw [cut_len]; show _ + 15 ≤ _; omega) fun t4 => ?_
      have := k t4 h3 (F2.sub.trans s3)
      rw [if_pos rfl] at this
      unfold short at this
      rw [if_neg hlt] at this
      have e : cut (txt (flat (sgs t))) 0 80 ++ Str.ofString " [truncated]..." = txt ((flat (sgs t)).take 80 ++ tail) := by
        have e1 : Str.ofString " [truncated]..." = txt tail := by decide
        rw [e1]
        show (⟨_⟩ : PySem.Str) = _
        simp [cut, txt]
      rw [e]
      exact this

theorem safe_call0 {t : T} {a : Addr} (hA : Room A 1) (W : Wd w h) (hr : Rep N h t (.ref a)) (hN : ∀ a, N a → (a == sysModules) = false) (ht : small t) (hz : sz t ≤ 47) (k : ∀ u h', Sub h h' → P (.str (txt (flat (sgs t))) u) h') :
    Run prog w A (call (.ref 22) [.ref a]) h P := by
  refine rEnter (binds := [(Str.ofString "obj", .ref a), (Str.ofString "short", .bool false)]) W hA.call rfl rfl (by kernel_rfl) (fun s e => BindsTo.of_defaults rfl (by rw [e]; exact W.1 _ _ rfl) rfl rfl rfl) (by decide) (locs rfl) fun h₁ F => ?_
  show Run prog w (A.deeper (envS h.objs.size)) (execs bS (envS h.objs.size)) h₁ _
  exact safe_body (b := false) (hA.deeper _) F rfl rfl hr hN ht hz fun u h' s => k u h' s
theorem safe_call1 {t : T} {a : Addr} (hA : Room A 1) (W : Wd w h) (hr : Rep N h t (.ref a)) (hN : ∀ a, N a → (a == sysModules) = false) (ht : small t) (hz : sz t ≤ 47) (k : ∀ u h', Sub h h' → P (.str (txt (short (flat (sgs t)))) u) h') :
    Run prog w A (call (.ref 22) [.ref a, .bool true]) h P := by
  refine rEnter (binds := [(Str.ofString "obj", .ref a), (Str.ofString "short", .bool true)]) W hA.call rfl rfl (by kernel_rfl) (fun s e => BindsTo.of_defaults rfl (by rw [e]; exact W.1 _ _ rfl) rfl rfl rfl) (by decide) (locs rfl) fun h₁ F => ?_
  show Run prog w (A.deeper (envS h.objs.size)) (execs bS (envS h.objs.size)) h₁ _
  exact safe_body (b := true) (hA.deeper _) F rfl rfl hr hN ht hz fun u h' s => k u h' s
end

end Mine

set_option Elab.async false
set_option maxRecDepth 100000
set_option maxHeartbeats 1000000
set_option linter.unusedVariables false
set_option autoImplicit false
namespace Mine

theorem g_exact : GlobIs "EXACT_TOKEN_TYPES" (.ref 23) := fun w => by kernel_rfl
theorem b_max : BltIs "max" (.builtin "max") := ⟨fun w => by kernel_rfl, by kernel_rfl, by decide⟩
theorem g_number : ∃ t, GlobIs "NUMBER" (.int 2 t) := ⟨_, fun w => by rfl⟩
theorem g_name : ∃ t, GlobIs "NAME" (.int 1 t) := ⟨_, fun w => by rfl⟩

-- the table of signs, as it lies in the heap
noncomputable def tes (w : World) : List DictEntry := match (KF w).lookup 23 with
  | some o => (match o.data with | .dict es _ => es.toList | _ => [])
  | none => []
def keyStr : Value → PySem.Str
  | .str x _ => x
  | _ => Str.empty
def keyTok : Value → Tok
  | .str _ t => t
  | _ => 0
noncomputable def tkv (w : World) : List (PySem.Str × Value) := (tes w).map fun e => (keyStr e.key, e.val)

theorem tes_lookup (w : World) : ∃ o n, (KF w).lookup 23 = some o ∧ o.ExactDict ∧ o.data = .dict (tes w).toArray n := ⟨_, _, rfl, ⟨rfl, rfl, rfl⟩, rfl⟩
theorem tes_form (w : World) : tes w = (tes w).map fun e => { hash := PyData.keyHash w.params (keyStr e.key), key := .str (keyStr e.key) (keyTok e.key), val := e.val } := by rfl
theorem tes_key (w : World) {e : DictEntry} (h : e ∈ tes w) : e.hash = PyData.keyHash w.params (keyStr e.key) ∧ ∃ t, e.key = .str (keyStr e.key) t := by
  rw [tes_form] at h
  obtain ⟨e', _, rfl⟩ := List.mem_map.mp h
  exact ⟨rfl, _, rfl⟩
def valInt : Value → Option Int
  | .int i _ => some i
  | _ => none
theorem tes_vals (w : World) : (tes w).all (fun e => (valInt e.val).isSome) = true := by kernel_rfl
theorem tkv_nodup (w : World) : ((tkv w).map (·.1)).Nodup := of_decide_eq_true (by kernel_rfl)

theorem dict23 {prog : Program} {w : World} {h : Heap} (W : Wd w h) : h.DictOf (strKind prog w) 23 (tkv w) := by
  obtain ⟨o, n, ho, hx, hd⟩ := tes_lookup w
  refine ⟨o, (tes w).toArray, n, W.1 _ _ ho, hx, hd, ?_, ?_, tkv_nodup w⟩
  · intro e he
    obtain ⟨h1, t, h2⟩ := tes_key w (e := e) (by simpa using he)
    refine ⟨keyStr e.key, ?_, h1⟩
    rw [h2]
    exact strKind_is prog w _ t
  · have : ∀ es : List DictEntry, (∀ e ∈ es, ∃ t, e.key = .str (keyStr e.key) t) → Pairs (strKind prog w) es (es.map fun e => (keyStr e.key, e.val)) := by
      intro es
      induction es with
      | nil => exact fun _ => .nil
      | cons e r ih =>
        intro hh
        refine .cons ?_ rfl (ih fun e he => hh e (by simp [he]))
        obtain ⟨t, ht⟩ := hh e (by simp)
        show (strKind prog w).is (keyStr e.key) e.key = true
        rw [ht]
        exact strKind_is prog w _ t
    exact this _ fun e he => (tes_key w he).2

noncomputable def tab (w : World) (x : List Nat) : Option Int := (valueAt (tkv w) (txt x)).bind valInt

theorem tab_val {w : World} {x : List Nat} {v : Value} (h : valueAt (tkv w) (txt x) = some v) : ∃ i t, v = .int i t ∧ tab w x = some i := by
  have hv : ∃ e ∈ tes w, e.val = v := by
    unfold valueAt at h
    obtain ⟨kv, h1, h2⟩ := Option.map_eq_some_iff.mp h
    have := List.mem_of_find?_eq_some h1
    obtain ⟨e, he, e2⟩ := List.mem_map.mp this
    refine ⟨e, he, ?_⟩
    rw [← h2, ← e2]
  obtain ⟨e, he, rfl⟩ := hv
  have := List.all_eq_true.mp (tes_vals w) e he
  unfold tab
  rw [h]
  cases hval : e.val with
  | int i t => exact ⟨i, t, rfl, rfl⟩
  | _ => rw [hval] at this; simp [valInt] at this
theorem tab_isSome (w : World) (x : List Nat) : (valueAt (tkv w) (txt x)).isSome = (tab w x).isSome := by
  cases h : valueAt (tkv w) (txt x) with
  | none => simp [tab, h]
  | some v => obtain ⟨i, t, rfl, e⟩ := tab_val h; rw [e]; rfl

/-- the signs of the texts: their code points and kinds -/
def singles : List (Nat × Int) := [(40, 7), (41, 8), (91, 9), (93, 10), (58, 11), (44, 12), (45, 15), (123, 25), (125, 26)]
/-- the letters and figures of the texts -/
def letters : List Nat := [48, 49, 50, 51, 52, 53, 54, 55, 56, 57, 78, 111, 110, 101, 84, 114, 117, 70, 97, 108, 115, 116, 99, 100]

structure TF (f : List Nat → Option Int) : Prop where
  one : ∀ p ∈ singles, f [p.1] = some p.2
  wd : ∀ c ∈ letters, f [c] = none
  blank : f [32] = none
  two : ∀ p ∈ singles, ∀ c r, c ≠ 61 → c ≠ 62 → f (p.1 :: c :: r) = none
  dot : f [46] = some 23
  dots : f [46, 46, 46] = some 52

theorem tab_TF (w : World) : TF (tab w) := by
  have h1 : singles.all (fun p => tab w [p.1] == some p.2) = true := by kernel_rfl
  have h2 : letters.all (fun c => tab w [c] == none) = true := by kernel_rfl
  have h3 : (tkv w).all (fun kv => singles.all fun p => match kv.1.cps.toList with | a :: b :: _ => a != p.1 || b == 61 || b == 62 | _ => true) = true := by kernel_rfl
  refine ⟨fun p hp => by simpa using List.all_eq_true.mp h1 p hp, fun c hc => by simpa using List.all_eq_true.mp h2 c hc, by kernel_rfl, fun p hp c r hc1 hc2 => ?_, by kernel_rfl, by kernel_rfl⟩
  unfold tab
  cases h : valueAt (tkv w) (txt (p.1 :: c :: r)) with
  | none => rfl
  | some v =>
    unfold valueAt at h
    obtain ⟨kv, e1, e2⟩ := Option.map_eq_some_iff.mp h
    have hm := List.mem_of_find?_eq_some e1
    have hk := List.find?_some e1
    simp only [decide_eq_true_eq] at hk
    have := List.all_eq_true.mp (List.all_eq_true.mp h3 kv hm) p hp
    rw [hk] at this
    simp [txt, hc1, hc2] at this

end Mine

set_option Elab.async false
set_option maxRecDepth 100000
set_option maxHeartbeats 1000000
set_option linter.unusedVariables false
set_option autoImplicit false
namespace Mine

abbrev Pc := Int × List Nat × Nat
def isDig (c : Nat) : Bool := !(Builtin.Str.occurrences (Str.ofString "0123456789") ⟨#[c]⟩ 0 (Str.ofString "0123456789").length 1).isEmpty

/-- the cutting of a text, by a table f -/
inductive Lex (f : List Nat → Option Int) : List Nat → Nat → List Pc → Prop
  | nil (i : Nat) : Lex f [] i []
  | blank {r : List Nat} {i : Nat} {ts : List Pc} : f [32] = none → Lex f r (i + 1) ts → Lex f (32 :: r) i ts
  | word {c : Nat} {w r : List Nat} {i : Nat} {ts : List Pc} : f [c] = none → c ≠ 32 → (∀ d ∈ w, f [d] = none ∧ d ≠ 32) → (∀ d r', r = d :: r' → (f [d]).isSome = true ∨ d = 32) →
      Lex f r (i + 1 + w.length) ts → Lex f (c :: w ++ r) i ((if isDig c then 2 else 1, c :: w, i) :: ts)
  | sign {c : Nat} {r : List Nat} {i n : Nat} {k : Int} {ts : List Pc} : (f [c]).isSome = true → n ∈ [1, 2, 3] → f ((c :: r).take n) = some k → (∀ j ∈ [1, 2, 3], (f ((c :: r).take j)).isSome = true → j ≤ n) →
      Lex f ((c :: r).drop n) (i + n) ts → Lex f (c :: r) i ((k, (c :: r).take n, i) :: ts)

/-- a piece in the heap -/
def PcAt (g : Heap) (v : Value) (p : Pc) : Prop := ∃ a t1 t2 t3, v = .ref a ∧ IsTup g a [.int p.1 t1, .str (txt p.2.1) t2, .int (p.2.2 : Int) t3].toArray
theorem PcAt.sub {g g' : Heap} {v : Value} {p : Pc} (x : PcAt g v p) (k : Sub g g') : PcAt g' v p := let ⟨a, t1, t2, t3, e, h⟩ := x; ⟨a, t1, t2, t3, e, h.keeps k⟩
abbrev Pcs (g : Heap) (vs : List Value) (ps : List Pc) : Prop := Paired (PcAt g) vs ps
theorem Pcs.sub {g g' : Heap} {vs : List Value} {ps : List Pc} (x : Pcs g vs ps) (k : Sub g g') : Pcs g' vs ps := by
  induction x with
  | nil => exact .nil
  | cons a _ ih => exact .cons (a.sub k) ih

noncomputable abbrev bP : List Stmt := fnBody (stmtAt 58)
noncomputable abbrev envP (L : Addr) : Env := envAtC 58 "_law_pieces" 49 48 L
def whileBody : Stmt → List Stmt
  | .While _ b _ _ => b
  | _ => []
noncomputable abbrev bPw : List Stmt := whileBody ((bP[1]?).getD (.Pass default))
theorem g_pieces : GlobIs "_law_pieces" (.ref 49) := fun w => by kernel_rfl

section
variable {prog : Program} {w : World} {A : Around} {g h : Heap} {env : Env} {P : Value → Heap → Prop} {L told ct ca : Addr} {m : Str → Option Value} {Q : Flow → Heap → Prop}

theorem rMax {l : Addr} {vs : List Value} {ns : List Int} (hh : A.handled = none) (hl : h.IsList l vs.toArray) (hi : IntsAre vs ns) (hne : 0 < ns.length)
    (k : ∀ M t h', Sub h h' → M ∈ ns → (∀ a, a ∈ ns → a ≤ M) → P (.int M t) h') : Run prog w A (call (.builtin "max") [.ref l]) h P := fun s E eh => by
  subst eh
  obtain ⟨xs, e⟩ := hi.allInts.items
  have hns : ns = xs.toList.map (·.1) := by
    rw [← hi.numsOf, ← nums_intItems, ← e]
  have hsz : 0 < xs.size := by
    have h3 := hne; rw [hns, List.length_map, Array.length_toList] at h3; exact h3
  rw [e] at hl
  refine max_intList hh hl hsz fun v h' tk hv hk => ⟨⟨_, rfl⟩, ?_⟩
  obtain ⟨t, rfl⟩ := intItems_at hv
  obtain ⟨h1, h2⟩ := argBest_gt (numAt xs) (xs.size - 1)
  refine k _ t h' hk ?_ fun a ha => ?_
  · rw [hns, numAt_eq]; exact getD_mem (by rw [List.length_map, Array.length_toList]; omega)
  · rw [hns] at ha
    obtain ⟨j, hj, rfl⟩ := mem_getD ha
    rw [List.length_map, Array.length_toList] at hj
    rw [← numAt_eq]; exact h2 j (by omega)

theorem rIn {x : List Nat} {t : Tok} (W : Wd w h) (q : P (.bool (tab w x).isSome) h) : Run prog w A (compareOp .In (.str (txt x) t) (.ref 23)) h P := fun s E e => by
  subst e
  exact wpAny_in_of (strKind_is prog w (txt x) t) (by decide) (dict23 W).mapOf (by rw [tab_isSome]; exact ⟨⟨_, rfl⟩, q⟩)
theorem rNotIn {x : List Nat} {t : Tok} (W : Wd w h) (q : P (.bool (!(tab w x).isSome)) h) : Run prog w A (compareOp .NotIn (.str (txt x) t) (.ref 23)) h P := fun s E e => by
  subst e
  exact wpAny_notIn_of (strKind_is prog w (txt x) t) (by decide) (dict23 W).mapOf (by rw [tab_isSome]; exact ⟨⟨_, rfl⟩, q⟩)
theorem rTabItem {value slice : PySem.Expr} {x : List Nat} {t : Tok} {k : Int} (W : Wd w h) (hx : tab w x = some k) (q : ∀ u, P (.int k u) h)
    (hs : subscripted slice false (.ref 23) (.str (txt x) t) = operate [.ref 23, .str (txt x) t] (getItem (.ref 23) (.str (txt x) t)) := by with_unfolding_all rfl) :
    Run prog w A (subscriptTail value slice (.ref 23) (.str (txt x) t)) h P := fun s E e => by
  subst e
  have hm := (dict23 (prog := prog) W).mapOf
  have hv : ∃ v, valueAt (tkv w) (txt x) = some v := by
    cases e : valueAt (tkv w) (txt x) with
    | none => rw [tab, e] at hx; cases hx
    | some v => exact ⟨v, rfl⟩
  obtain ⟨v, hv⟩ := hv
  obtain ⟨i, u, rfl, e2⟩ := tab_val hv
  rw [e2] at hx
  cases hx
  exact tail_any hm.typeIs F.slot_dict_getitem.lookup (wpAny_getItem_of (strKind_is prog w (txt x) t) hm hv ⟨⟨_, rfl⟩, q u⟩) hs
theorem rInDig {c : Nat} {t u : Tok} (q : P (.bool (isDig c)) h) : Run prog w A (compareOp .In (.str (txt [c]) t) (.str (Str.ofString "0123456789") u)) h P := fun s E e => by
  subst e
  exact PyProof.Rows.in_str ⟨⟨_, rfl⟩, q⟩

/-- text[i] -/
theorem rChar {x y : Str} {p1 p2 p3 : Pos} {l : List Nat} {tt ti : Tok} {i c : Nat} (hx : ∀ P : Value → Heap → Prop, P (.str (txt l) tt) h → Run prog w A (eval (.Name x p1) env) h P) (hy : ∀ P : Value → Heap → Prop, P (.int i ti) h → Run prog w A (eval (.Name y p2) env) h P)
    (hl : l.length ≤ 100000) (hc : l[i]? = some c) (q : ∀ t, P (.str (txt [c]) t) h) : Run prog w A (eval (.Subscript (.Name x p1) (.Name y p2) p3) env) h P :=
  rSub <| hx _ <| hy _ <| rItemS (i := i) rfl (by rw [txt_len]; omega) (by simpa [txt] using hc) q
/-- text[i:j] -/
theorem rCut {x y : Str} {p1 p2 p4 p5 : Pos} {l : List Nat} {tt ti : Tok} {i j : Nat} {jj : Int} (hj : jj = j) (hx : ∀ P : Value → Heap → Prop, P (.str (txt l) tt) h → Run prog w A (eval (.Name x p1) env) h P) (hy : ∀ P : Value → Heap → Prop, P (.int i ti) h → Run prog w A (eval (.Name y p2) env) h P)
    {e2 : PySem.Expr} (hz : ∀ P : Value → Heap → Prop, (∀ tj, P (.int jj tj) h) → Run prog w A (eval e2 env) h P)
    (hl : l.length ≤ 100000) (q : ∀ t h', Sub h h' → P (.str (txt ((l.drop i).take (j - i))) t) h') : Run prog w A (eval (.Subscript (.Name x p1) (.Slice (some (.Name y p2)) (some e2) none p4) p5) env) h P := by
  refine rSub <| hx _ <| rSliceE <| rPartS <| hy _ <| rPartS <| hz _ fun tj => rPartN ?_
  refine rSliceS (a := i) (b := j) rfl hj (by rw [txt_len]; have : sizeLine = 16777216 := rfl; omega) fun t h' s => ?_
  have e : cut (txt l) i j = txt ((l.drop i).take (j - i)) := by simp [cut, txt]
  rw [e]
  exact q t h' s

theorem rListComp1 {elt iter c : PySem.Expr} {x : Str} {px pos : Pos} {scope : Scope} {cl : List (Str × Addr)} (hh : A.handled = none) (p : Value → Bool) (Fv : Value → Value → Prop)
    (hclos : closureFor scope env = Pure.pure cl) (hcell : ∀ y ∈ scope.names, y.2 ≠ .cell) (hkind : scope.kind = .function)
    (hnames : ∀ y ∈ scope.names, y.2 = .local → scope.names.lookup y.1 = some .local) (hx : scope.names.lookup x = some .local)
    (k : Run prog w A (eval iter env) h (fun xv h₁ => ∃ (l : Addr) (xs : List Value), xv = .ref l ∧ h₁.IsList l xs.toArray ∧ xs.length ≤ sizeLine ∧
      (∀ C v h₃ m₃, v ∈ xs → h₃.Ns C m₃ → m₃ x = some v → Sub h₁ h₃ → Run prog w A (isTrue c (compEnvC scope cl C env) (eval c (compEnvC scope cl C env))) h₃ (fun b h₄ => b = p v ∧ Sub h₃ h₄)) ∧
      (∀ C v h₃ m₃, v ∈ xs → p v = true → h₃.Ns C m₃ → m₃ x = some v → Sub h₁ h₃ → Run prog w A (eval elt (compEnvC scope cl C env)) h₃ (fun y h₄ => Fv v y ∧ Sub h₃ h₄)) ∧
      (∀ (D : Addr) (h' : Heap) (ys : List Value), h₁.get? D = none → h'.PlainList D ys.toArray → Paired Fv (xs.filter p) ys → Sub h₁ h' → P (.ref D) h')))
    (hs : ∀ x, foldedSetIterable iter env x = Pure.pure x := by intro _; rfl) :
    Run prog w A (eval (.ListComp elt [⟨.Name x px, iter, [c], 0⟩] scope pos) env) h P := fun s E e => by
  refine wpAny_ListComp_free p Fv hclos hcell hkind hnames hx (wpAny_mono (k s E e) (fun xv s₁ q => ?_) fun _ _ x => x) hs
  obtain ⟨q1, l, xs, rfl, hl, hsz, htests, helt, hdone⟩ := q
  refine wpAny_pyIter_list hl ?_
  obtain ⟨ol, hol, _⟩ := id hl
  have hne : l ≠ s₁.heap.objs.size := Nat.ne_of_lt (Heap.lt_size hol)
  have W := Walks.list (prog := prog) (w := w) hh s₁.heap.objs.size l hne xs.toArray
  have hsub : ∀ {h₃ : Heap}, (∀ b o, b ∉ [s₁.heap.objs.size] → (s₁.heap.push { cls := .type "list_iterator", data := .fields #[.ref l, .int 0 0] }).get? b = some o → h₃.get? b = some o) → Sub s₁.heap h₃ := fun hk b o e =>
    hk b o (fun hm => by rw [List.mem_singleton.mp hm] at e; exact absurd (Heap.lt_size e) (Nat.lt_irrefl _)) (Heap.get?_push_of_some _ e)
  refine ⟨_, _, _, _, _, _, rfl, W, by simpa using hsz, ⟨⟨_, Heap.get?_push_size _ rfl, rfl, rfl⟩, hl.push _⟩, ?_, ⟨?_, ?_⟩, ?_⟩
  · intro b hb
    rw [Heap.size_push]
    rcases List.mem_cons.mp hb with rfl | hb
    · exact Nat.lt_succ_self _
    · rw [List.mem_singleton.mp hb]; exact Nat.lt_succ_of_lt (Heap.lt_size hol)
  · intro C i v s₃ m₃ E' _ hv hn hm hk _
    refine wpAny_tests_one ?_
    refine wpAny_mono (htests C v s₃.heap m₃ ?_ hn hm (hsub hk) s₃ E' rfl) (fun b s₄ z => ⟨z.2.1, keeps_of z.1 z.2.2⟩) fun _ _ x => x
    exact List.mem_of_getElem? (by simpa using hv)
  · intro C i v s₃ m₃ E' _ hv hp hn hm hk _
    refine wpAny_mono (helt C v s₃.heap m₃ ?_ hp hn hm (hsub hk) s₃ E' rfl) (fun b s₄ z => ⟨z.2.1, keeps_of z.1 z.2.2⟩) fun _ _ x => x
    exact List.mem_of_getElem? (by simpa using hv)
  · intro D h' tk ys vs hD hl' hpl hlen hP hpair hk
    have hvs : vs = xs := by
      apply List.ext_getElem?
      intro j
      cases e : vs[j]? with
      | some v => exact (by simpa using hP j v e : xs[j]? = some v).symm
      | none =>
        have h1 := List.getElem?_eq_none_iff.mp e
        have h2 : vs.length = xs.length := by simpa using hlen
        exact (List.getElem?_eq_none_iff.mpr (by omega)).symm
    subst hvs
    refine ⟨glue q1 ⟨_, rfl⟩, hdone D h' ys.toList (none_up hD (Sub.push _ _)) (by simpa using hpl) hpair (hsub hk)⟩
end

theorem thenNil {prog : Program} {w : World} {A : Around} {env : Env} {h : Heap} {Q : Flow → Heap → Prop} (q : Q .next h) : Then prog w A env [] Q .next h := rNil (Q := Q) q
theorem cell_sub {h h' : Heap} {c : Addr} {v : Option Value} (x : h.IsCell c v) (k : Sub h h') : h'.IsCell c v := let ⟨o, ho, hd⟩ := x; ⟨o, k _ _ ho, hd⟩
theorem paired_eq : ∀ {xs ys : List Value}, Paired (fun v y => y = v) xs ys → ys = xs
  | _, _, .nil => rfl
  | _, _, .cons e r => by rw [e, paired_eq r]

section
variable {prog : Program} {w : World} {A : Around} {g h : Heap} {L told : Addr} {m : Str → Option Value} {Q : Flow → Heap → Prop}

/-- the last row of a turn: at = end -/
theorem pieces_end {i j : Nat} {ti tj : Tok} {vs : List Value} (F : Lc w g L m [(told, .lst vs), (L + 2, .cel (some (.int i ti)))] h) (m2 : m (Str.ofString "end") = some (.int j tj))
    (k : ∀ h', Lc w g L m [(told, .lst vs), (L + 2, .cel (some (.int j tj)))] h' → Q .next h') : Run prog w A (execs (bPw.drop 2) (envP L)) h Q := by
  refine rCons <| rAssign <| rLocal F m2 <| rStoreCell (l1 := [(told, .lst vs)]) (l2 := []) F fun h' F' => rNil <| k h' F'

noncomputable abbrev wB : List Stmt := match (bPw[1]? : Option Stmt) with
  | some (Stmt.If _ _ [Stmt.If _ b _ _] _) => b
  | _ => []

theorem pieces_word {l : List Nat} {tt ti tj : Tok} {i j c : Nat} {x : List Nat} {vs : List Value} (F : Lc w g L m [(told, .lst vs), (L + 2, .cel (some (.int i ti)))] h) (hct : g.IsCell (L + 1) (some (.str (txt l) tt)))
    (m1 : m (Str.ofString "told") = some (.ref told)) (m2 : m (Str.ofString "end") = some (.int (j : Nat) tj)) (hll : l.length ≤ 10000) (hvs : vs.length ≤ 10000) (hc : l[i]? = some c) (hx : (l.drop i).take (j - i) = x)
    (k : ∀ h' g' v, Sub g g' → Lc w g' L m [(told, .lst (vs ++ [v])), (L + 2, .cel (some (.int i ti)))] h' → PcAt g' v (if isDig c then 2 else 1, x, i) → Q .next h') : Run prog w A (execs (wB.drop 1) (envP L)) h Q := by
  have hz : sizeLine = 16777216 := rfl
  have hc1 := cell_sub hct F.sub
  have ha1 : h.IsCell (L + 2) (some (.int i ti)) := F.at (x := .cel (some (.int i ti))) (by simp)
  obtain ⟨tn, gn⟩ := g_number
  obtain ⟨tm, gm⟩ := g_name
  refine rCons <| rExpr <| rMethod <| rLocal F m1 <| rGetM PySem.F.slot_list_append PySem.F.type_list_append (F.at (x := .lst vs) (by simp)) <| rCallM <| rItems <| rNewTuple <| rItems <|
    rIfExp <| rTestCmp <| rChar (fun _ q => rCell hc1 q) (fun _ q => rCell ha1 q) (by omega) hc fun t3 => rStr fun t4 => rInDig <| rTruthBool ?_
  cases hd : isDig c
  · refine ifF <| rG F.wdh gm <| rItems <| rCut (j := j) rfl (fun _ q => rCell hc1 q) (fun _ q => rCell ha1 q) (fun _ q => rLocal F m2 (q _)) (by omega) fun t8 h8 s8 => ?_
    rw [hx]
    have F8 := F.grow s8
    have ha8 : h8.IsCell (L + 2) (some (.int i ti)) := F8.at (x := .cel (some (.int i ti))) (by simp)
    refine rItems <| rCell ha8 <| rItemsNil ⟨by simp [sizeLine], fun a9 h9 n9 p9 => rItemsNil ?_⟩
    obtain ⟨g', F9, sg, hg⟩ := F8.ext n9.sub
    refine rAppend (l1 := []) F9 (by omega) fun h10 F10 => rNil <| k h10 g' _ sg F10 ⟨a9, tm, t8, ti, rfl, ?_⟩
    obtain ⟨o, ho, rr⟩ := p9
    exact ⟨o, hg _ _ n9.none ho, by simpa [hd] using rr⟩
  · refine ifT <| rG F.wdh gn <| rItems <| rCut (j := j) rfl (fun _ q => rCell hc1 q) (fun _ q => rCell ha1 q) (fun _ q => rLocal F m2 (q _)) (by omega) fun t8 h8 s8 => ?_
    rw [hx]
    have F8 := F.grow s8
    have ha8 : h8.IsCell (L + 2) (some (.int i ti)) := F8.at (x := .cel (some (.int i ti))) (by simp)
    refine rItems <| rCell ha8 <| rItemsNil ⟨by simp [sizeLine], fun a9 h9 n9 p9 => rItemsNil ?_⟩
    obtain ⟨g', F9, sg, hg⟩ := F8.ext n9.sub
    refine rAppend (l1 := []) F9 (by omega) fun h10 F10 => rNil <| k h10 g' _ sg F10 ⟨a9, tn, t8, ti, rfl, ?_⟩
    obtain ⟨o, ho, rr⟩ := p9
    exact ⟨o, hg _ _ n9.none ho, by simpa [hd] using rr⟩

theorem pieces_turn {l : List Nat} {tt ti : Tok} {i : Nat} {vs : List Value} {ps ts : List Pc} (hA : A.handled = none) (F : Lc w g L m [(told, .lst vs), (L + 2, .cel (some (.int i ti)))] h) (hct : g.IsCell (L + 1) (some (.str (txt l) tt)))
    (m1 : m (Str.ofString "told") = some (.ref told)) (hll : l.length ≤ 10000) (hi : i < l.length) (hvs : vs.length ≤ i) (hlex : Lex (tab w) (l.drop i) i ts) (hpc : Pcs g vs ps)
    (k : ∀ h' g' m' vs' ps' ts' i' ti', Sub g g' → Lc w g' L m' [(told, .lst vs'), (L + 2, .cel (some (.int ((i' : Nat) : Int) ti')))] h' → m' (Str.ofString "told") = some (.ref told) → vs'.length ≤ i' → Pcs g' vs' ps' → Lex (tab w) (l.drop i') i' ts' → ps' ++ ts' = ps ++ ts → i < i' → Q .next h') :
    Run prog w A (execs bPw (envP L)) h Q := by
  have hz : sizeLine = 16777216 := rfl
  refine rCons <| rAssign <| rBin <| rCell (F.at (a := L + 2) (x := .cel (some (.int i ti))) (by simp)) <| rInt fun t1 => rAddI fun t2 => rStore F fun h1 F1 => ?_
  have e1 : (i : Int) + 1 = ((i + 1 : Nat) : Int) := by omega
  rw [e1] at F1
  have m1' : up m (Str.ofString "end") (.int ((i + 1 : Nat) : Int) t2) (Str.ofString "told") = some (.ref told) := (up_ne (by decide)).trans m1
  have m2' : up m (Str.ofString "end") (.int ((i + 1 : Nat) : Int) t2) (Str.ofString "end") = some (.int ((i + 1 : Nat) : Int) t2) := up_same
  generalize up m (Str.ofString "end") (.int ((i + 1 : Nat) : Int) t2) = m1s at F1 m1' m2'
  clear F
  have hc1 := cell_sub hct F1.sub
  have ha1 : h1.IsCell (L + 2) (some (.int i ti)) := F1.at (x := .cel (some (.int i ti))) (by simp)
  generalize hr : l.drop i = r at hlex
  have hget : ∀ j, l[i + j]? = r[j]? := fun j => by rw [← hr, List.getElem?_drop]
  have hci : ∀ c r', r = c :: r' → l[i]? = some c := fun c r' e => by have := hget 0; rw [e] at this; simpa using this
  have hdrop : ∀ n, l.drop (i + n) = r.drop n := fun n => by rw [← hr, List.drop_drop]
  cases hlex with
  | nil => have := congrArg List.length hr; simp at this; omega
  | @blank r i ts hb hl' =>
    refine rCons <| rIf <| rTestCmp <| rChar (fun _ q => rCell hc1 q) (fun _ q => rCell ha1 q) (by omega) (hci _ _ rfl) fun t3 => rG F1.wdh g_exact <| rIn F1.wdh <| rTruthBool ?_
    rw [hb]
    refine ifF <| rCons <| rIf <| rTestCmp <| rChar (fun _ q => rCell hc1 q) (fun _ q => rCell ha1 q) (by omega) (hci _ _ rfl) fun t4 => rStr fun t5 => rNeS <| rTruthBool ?_
    rw [show (txt [32] != Str.ofString " ") = false by decide]
    refine ifF <| rNil <| rNil <| pieces_end F1 m2' fun h2 F2 => ?_
    refine k h2 g m1s vs ps ts (i + 1) t2 (Sub.refl _) F2 m1' (by omega) hpc ?_ rfl (by omega)
    rw [hdrop 1]
    exact hl'
  | @sign c r i n kk ts hs hn hk hmax hl' =>
    refine rCons <| rIf <| rTestCmp <| rChar (fun _ q => rCell hc1 q) (fun _ q => rCell ha1 q) (by omega) (hci _ _ rfl) fun t3 => rG F1.wdh g_exact <| rIn F1.wdh <| rTruthBool ?_
    rw [hs]
    refine ifT <| rCons <| rAssign <| rBin <| rCell ha1 <| rCall <| rB F1.wdh b_max <| rCallB <| rItems ?_
    refine rListComp1 (cl := [(Str.ofString "text", L + 1), (Str.ofString "at", L + 2)]) hA (fun v => match v with | .int j _ => (tab w ((c :: r).take j.toNat)).isSome | _ => false) (fun v y => y = v)
      rfl (by decide) rfl (by decide) (by rfl) ?_
    refine rNewList <| rItems <| rInt fun u1 => rItems <| rInt fun u2 => rItems <| rInt fun u3 => rItemsNil ⟨by simp [sizeLine], fun a2 h2 n2 p2 => ⟨a2, _, rfl, p2.isList, by simp [sizeLine], ?_, ?_, ?_⟩⟩
    · intro C v h3 m3 hv hN hm hsub
      have F3 := F1.grow (n2.sub.trans hsub)
      have hc3 := cell_sub hct F3.sub
      have ha3 : h3.IsCell (L + 2) (some (.int i ti)) := F3.at (x := .cel (some (.int i ti))) (by simp)
      have hvv : ∃ (j : Nat) (tj : Tok), v = .int j tj := by
        simp only [List.mem_cons, List.not_mem_nil, or_false] at hv
        rcases hv with rfl | rfl | rfl
        · exact ⟨1, _, rfl⟩
        · exact ⟨2, _, rfl⟩
        · exact ⟨3, _, rfl⟩
      obtain ⟨j, tj, rfl⟩ := hvv
      refine rTestCmp <| rCut (j := i + j) (jj := (i : Int) + (j : Int)) (by omega) (fun _ q => rCell hc3 q) (fun _ q => rCell ha3 q) (fun _ q => rBin <| rCell ha3 <| rLocalNs hN hm <| rAddI fun t => q t) (by omega) fun t4 h4 s4 => rG (F3.grow s4).wdh g_exact <| rIn (F3.grow s4).wdh <| rTruthBool ⟨?_, s4⟩
      show _ = (tab w ((c :: r).take (j : Int).toNat)).isSome
      rw [hr, Nat.add_sub_cancel_left, Int.toNat_natCast]
    · intro C v h3 m3 hv hp hN hm hsub
      exact rLocalNs hN hm ⟨rfl, Sub.refl _⟩
    · intro D h3 ys hD hys hpair hsub
      have hy := paired_eq hpair
      subst hy
      have hints : ∀ (qq : Int → Bool), IntsAre ([Value.int 1 u1, .int 2 u2, .int 3 u3].filter (fun v => match v with | .int j _ => qq j | _ => false)) ([1, 2, 3].filter qq) := by
        intro qq
        cases e1 : qq 1 <;> cases e2 : qq 2 <;> cases e3 : qq 3 <;> simp [List.filter, e1, e2, e3] <;> repeat constructor
      have hI := hints (fun j => (tab w ((c :: r).take j.toNat)).isSome)
      have hmem : (n : Int) ∈ [1, 2, 3].filter (fun j : Int => (tab w ((c :: r).take j.toNat)).isSome) := by
        refine List.mem_filter.mpr ⟨?_, by simp [hk]⟩
        simp only [List.mem_cons, List.not_mem_nil, or_false] at hn ⊢
        omega
      refine rItemsNil <| rMax hA hys.isList hI (List.length_pos_of_mem hmem) fun M tM h4 s4 hM hMax => rAddI fun t5 => ?_
      have hMn : M = n := by
        have h1 := hMax _ hmem
        obtain ⟨h2, h3⟩ := List.mem_filter.mp hM
        have h5 := hmax M.toNat (by simp only [List.mem_cons, List.not_mem_nil, or_false] at h2 ⊢; omega) h3
        simp only [List.mem_cons, List.not_mem_nil, or_false] at h2
        omega
      subst hMn
      rw [← Int.natCast_add]
      refine rStore (F1.grow (n2.sub.trans (hsub.trans s4))) fun h5 F5 => ?_
      have m1'' : up m1s (Str.ofString "end") (.int ((i + n : Nat) : Int) t5) (Str.ofString "told") = some (.ref told) := (up_ne (by decide)).trans m1'
      have m2'' : up m1s (Str.ofString "end") (.int ((i + n : Nat) : Int) t5) (Str.ofString "end") = some (.int ((i + n : Nat) : Int) t5) := up_same
      generalize up m1s (Str.ofString "end") (.int ((i + n : Nat) : Int) t5) = m5 at F5 m1'' m2''
      have hc5 := cell_sub hct F5.sub
      have ha5 : h5.IsCell (L + 2) (some (.int i ti)) := F5.at (x := .cel (some (.int i ti))) (by simp)
      have hcut : (l.drop i).take (i + n - i) = (c :: r).take n := by rw [hr, Nat.add_sub_cancel_left]
      refine rCons <| rExpr <| rMethod <| rLocal F5 m1'' <| rGetM PySem.F.slot_list_append PySem.F.type_list_append (F5.at (x := .lst vs) (by simp)) <| rCallM <| rItems <| rNewTuple <| rItems <| rSub <| rG F5.wdh g_exact <|
        rCut (j := i + n) rfl (fun _ q => rCell hc5 q) (fun _ q => rCell ha5 q) (fun _ q => rLocal F5 m2'' (q _)) (by omega) fun t6 h6 s6 => ?_
      rw [hcut]
      have F6 := F5.grow s6
      have hc6 := cell_sub hct F6.sub
      have ha6 : h6.IsCell (L + 2) (some (.int i ti)) := F6.at (x := .cel (some (.int i ti))) (by simp)
      refine rTabItem F6.wdh hk fun t7 => rItems <| rCut (j := i + n) rfl (fun _ q => rCell hc6 q) (fun _ q => rCell ha6 q) (fun _ q => rLocal F6 m2'' (q _)) (by omega) fun t8 h8 s8 => ?_
      rw [hcut]
      have F8 := F6.grow s8
      have ha8 : h8.IsCell (L + 2) (some (.int i ti)) := F8.at (x := .cel (some (.int i ti))) (by simp)
      refine rItems <| rCell ha8 <| rItemsNil ⟨by simp [sizeLine], fun a9 h9 n9 p9 => rItemsNil ?_⟩
      obtain ⟨g', F9, sg, hg⟩ := F8.ext n9.sub
      refine rAppend (l1 := []) F9 (by omega) fun h10 F10 => rNil <| pieces_end F10 m2'' fun h11 F11 => ?_
      have hn1 : 1 ≤ n := by simp only [List.mem_cons, List.not_mem_nil, or_false] at hn; omega
      refine k h11 g' m5 _ (ps ++ [(kk, (c :: r).take n, i)]) ts (i + n) t5 sg F11 m1'' (by simp; omega) ?_ ?_ (by simp) (by omega)
      · refine Paired.snoc (hpc.sub sg) ⟨a9, t7, t8, ti, rfl, ?_⟩
        obtain ⟨o, ho, rr⟩ := p9
        exact ⟨o, hg _ _ n9.none ho, rr⟩
      · rw [hdrop n]
        exact hl'
  | @word c wd r i ts hc hc32 hwd hnext hl' =>
    have hlen : l.length = i + 1 + wd.length + r.length := by
      have := congrArg List.length hr
      simp at this
      omega
    have hne : ∀ d : Nat, d ≠ 32 → (txt [d] != Str.ofString " ") = true := fun d hd => by
      rw [show Str.ofString " " = txt [32] by decide]
      simp [txt, hd]
    have hat : ∀ j, l[i + 1 + j]? = (wd ++ r)[j]? := fun j => by
      have := hget (1 + j)
      rw [show i + (1 + j) = i + 1 + j by omega] at this
      rw [this, Nat.add_comm 1 j]
      simp
    refine rCons <| rIf <| rTestCmp <| rChar (fun _ q => rCell hc1 q) (fun _ q => rCell ha1 q) (by omega) (hci _ _ rfl) fun t3 => rG F1.wdh g_exact <| rIn F1.wdh <| rTruthBool ?_
    rw [hc]
    refine ifF <| rCons <| rIf <| rTestCmp <| rChar (fun _ q => rCell hc1 q) (fun _ q => rCell ha1 q) (by omega) (hci _ _ rfl) fun t4 => rStr fun t5 => rNeS <| rTruthBool ?_
    rw [hne c hc32]
    refine ifT <| rCons <| rWhile ?_
    refine rWhileLoop (fun n h' => ∃ j tj m', n = wd.length - j ∧ j ≤ wd.length ∧ Lc w g L m' [(told, .lst vs), (L + 2, .cel (some (.int i ti)))] h' ∧ m' (Str.ofString "told") = some (.ref told) ∧ m' (Str.ofString "end") = some (.int ((i + 1 + j : Nat) : Int) tj)) ?_ wd.length ⟨0, t2, m1s, rfl, Nat.zero_le _, F1, m1', m2'⟩
    rintro n h2 ⟨j, tj, m2, rfl, hj, F2, e1, e2⟩
    have hc2 := cell_sub hct F2.sub
    have ha2 : h2.IsCell (L + 2) (some (.int i ti)) := F2.at (x := .cel (some (.int i ti))) (by simp)
    refine rTestBool <| rAndCons <| rTestCmp <| rLocal F2 e2 <| rCall <| rB F2.wdh b_len <| rCallB <| rItems <| rCell hc2 <| rItemsNil <| rLenS (by rw [txt_len]; omega) fun t6 => rLtI <| rTruthBool ?_
    rw [txt_len]
    by_cases hjl : j < wd.length
    · rw [decide_eq_true (by omega)]
      have hd := hat j
      rw [List.getElem?_append_left hjl, List.getElem?_eq_getElem hjl] at hd
      obtain ⟨w1, w2⟩ := hwd wd[j] (List.getElem_mem hjl)
      refine ifT <| rAndCons <| rTestCmp <| rChar (fun _ q => rCell hc2 q) (fun _ q => rLocal F2 e2 q) (by omega) hd fun t7 => rStr fun t8 => rNeS <| rTruthBool ?_
      rw [hne _ w2]
      refine ifT <| rAndCons <| rTestCmp <| rChar (fun _ q => rCell hc2 q) (fun _ q => rLocal F2 e2 q) (by omega) hd fun t9 => rG F2.wdh g_exact <| rNotIn F2.wdh <| rTruthBool ?_
      rw [w1]
      refine ifT <| rAndNil <| ifT <| rCons <| rAssign <| rBin <| rLocal F2 e2 <| rInt fun t10 => rAddI fun t11 => rStore F2 fun h3 F3 => ?_
      refine thenNil ?_
      refine ⟨wd.length - (j + 1), by omega, j + 1, t11, _, rfl, hjl, F3, (up_ne (by decide)).trans e1, ?_⟩
      rw [up_same]
      congr 2
    · have hjl' : j = wd.length := by omega
      subst hjl'
      have hcut : (l.drop i).take (i + 1 + wd.length - i) = c :: wd := by
        rw [hr, show i + 1 + wd.length - i = (c :: wd).length by simp; omega]
        exact List.take_left
      have fin : Run prog w A (execs (wB.drop 1) (envP L)) h2 (Then prog w A (envP L) [] (Then prog w A (envP L) (bPw.drop 2) Q)) := by
        refine pieces_word F2 hct e1 e2 (by omega) (by omega) (hci _ _ rfl) hcut fun h3 g' v sg F3 hp => ?_
        refine rNil <| pieces_end F3 e2 fun h4 F4 => ?_
        refine k h4 g' m2 _ (ps ++ [(if isDig c then 2 else 1, c :: wd, i)]) ts (i + 1 + wd.length) tj sg F4 e1 (by simp; omega) (Paired.snoc (hpc.sub sg) hp) ?_ (by simp) (by omega)
        have := hdrop (1 + wd.length)
        rw [show i + (1 + wd.length) = i + 1 + wd.length by omega] at this
        rw [this, Nat.add_comm 1 wd.length, List.cons_append, List.drop_succ_cons, List.drop_left]
        exact hl'
      cases r with
      | nil =>
        rw [decide_eq_false (by simp at hlen; omega)]
        exact ifF <| ifF fin
      | cons d r' =>
        rw [decide_eq_true (by simp at hlen; omega)]
        have hd := hat wd.length
        rw [List.getElem?_append_right (Nat.le_refl _), Nat.sub_self] at hd
        simp only [List.getElem?_cons_zero] at hd
        refine ifT <| rAndCons <| rTestCmp <| rChar (fun _ q => rCell hc2 q) (fun _ q => rLocal F2 e2 q) (by omega) hd fun t7 => rStr fun t8 => rNeS <| rTruthBool ?_
        by_cases h32 : d = 32
        · subst h32
          rw [show (txt [32] != Str.ofString " ") = false by decide]
          exact ifF <| ifF fin
        · rw [hne d h32]
          refine ifT <| rAndCons <| rTestCmp <| rChar (fun _ q => rCell hc2 q) (fun _ q => rLocal F2 e2 q) (by omega) hd fun t9 => rG F2.wdh g_exact <| rNotIn F2.wdh <| rTruthBool ?_
          rcases hnext d r' rfl with hs | hs
          · rw [hs]
            exact ifF <| ifF fin
          · exact absurd hs h32
end

end Mine

set_option Elab.async false
set_option maxRecDepth 100000
set_option maxHeartbeats 1000000
set_option linter.unusedVariables false
set_option autoImplicit false
namespace Mine

section
variable {prog : Program} {w : World} {A : Around} {h : Heap} {P : Value → Heap → Prop}

theorem pieces_call {l : List Nat} {tt : Tok} {ts : List Pc} (hA : Room A 1) (W : Wd w h) (hll : l.length ≤ 10000) (hlex : Lex (tab w) l 0 ts)
    (k : ∀ a vs h', Sub h h' → h.get? a = none → h'.PlainList a vs.toArray → Pcs h' vs ts → P (.ref a) h') : Run prog w A (call (.ref 49) [.str (txt l) tt]) h P := by
  have hz : sizeLine = 16777216 := rfl
  refine rEnterC (binds := [(Str.ofString "text", .str (txt l) tt)]) W hA.call rfl rfl (by kernel_rfl) rfl rfl (kindsX rfl _) fun h₁ F hcs => ?_
  have hc1 := hcs (Str.ofString "text") (h.objs.size + 1) rfl
  have hc2 := hcs (Str.ofString "at") (h.objs.size + 2) rfl
  have hct : h₁.IsCell (h.objs.size + 1) (some (.str (txt l) tt)) := hc1.1
  have hca : h₁.IsCell (h.objs.size + 2) none := hc2.1
  clear hcs
  show Run prog w (A.deeper (envP h.objs.size)) (execs bP (envP h.objs.size)) h₁ _
  have hA' := hA.deeper (envP h.objs.size)
  have F0 : Lc w h h.objs.size _ [(h.objs.size + 2, .cel none)] h₁ := ⟨F.ns, F.sub, F.off, fun p hp => by
    rw [List.mem_singleton.mp hp]; exact ⟨hca, by simp, hc2.2.2⟩, by simp, F.wd⟩
  obtain ⟨F1, sg1⟩ := F0.refreeze
  have hctg : (frz h₁ h.objs.size [(h.objs.size + 2, .cel none)]).IsCell (h.objs.size + 1) (some (.str (txt l) tt)) := by
    obtain ⟨o, ho, hd⟩ := hct
    exact ⟨o, hideAll_get _ ho (by simp), hd⟩
  generalize frz h₁ h.objs.size [(h.objs.size + 2, .cel none)] = g at F1 sg1 hctg
  have hLn : h.get? h.objs.size = none := none_of_size h (Nat.le_refl _)
  generalize hL : h.objs.size = L at F1 hctg hA' ⊢
  clear F F0 hc1 hc2 hct hca
  refine rCons <| rAssignTup <| rNewTuple <| rItems <| rNewList <| rItemsNil ⟨by simp [sizeLine], fun told h2 n2 p2 => rItems <| rInt fun t0 => rItemsNil ⟨by simp [sizeLine], fun a3 h3 n3 p3 => ?_⟩⟩
  refine rTargets hA'.handled p3 fun h4 s4 => ?_
  have F2 := F1.extMu (x := .lst []) n2.sub n2.none p2
  have F4 := F2.grow (n3.sub.trans s4)
  refine rOrder <| rAssignN <| rStore F4 fun h5 F5 => rOrder <| rAssignN <| rStoreCell (l1 := [(told, .lst [])]) (l2 := []) F5 fun h6 F6 => rOrderNil ?_
  have hnone : h.get? told = none := none_up n2.none (sg1.trans F1.sub)
  refine rCons <| rWhile ?_
  refine rWhileLoop (fun n h' => ∃ g' m' vs ps ts' i ti, n = l.length - i ∧ Sub g g' ∧ Lc w g' L m' [(told, .lst vs), (L + 2, .cel (some (.int ((i : Nat) : Int) ti)))] h' ∧ m' (Str.ofString "told") = some (.ref told) ∧ vs.length ≤ i ∧ Pcs g' vs ps ∧ Lex (tab w) (l.drop i) i ts' ∧ ps ++ ts' = ts) ?_ l.length
    ⟨g, _, [], [], ts, 0, t0, rfl, Sub.refl _, F6, up_same, Nat.zero_le _, .nil, by simpa using hlex, rfl⟩
  rintro n h7 ⟨g', m', vs, ps, ts', i, ti, rfl, sg, F7, e1, hvs, hpc, hlx, hts⟩
  have hct7 := cell_sub hctg (sg.trans F7.sub)
  have ha7 : h7.IsCell (L + 2) (some (.int i ti)) := F7.at (x := .cel (some (.int i ti))) (by simp)
  refine rTestCmp <| rCell ha7 <| rCall <| rB F7.wdh b_len <| rCallB <| rItems <| rCell hct7 <| rItemsNil <| rLenS (by rw [txt_len]; omega) fun t6 => rLtI <| rTruthBool ?_
  rw [txt_len]
  by_cases hi : i < l.length
  · rw [decide_eq_true (by omega)]
    refine ifT <| pieces_turn hA'.handled F7 (cell_sub hctg sg) e1 hll hi hvs hlx hpc fun h8 g8 m8 vs8 ps8 ts8 i8 ti8 s8 F8 e8 hvs8 hpc8 hlx8 hts8 hi8 => ?_
    exact ⟨l.length - i8, by omega, g8, m8, vs8, ps8, ts8, i8, ti8, rfl, sg.trans s8, F8, e8, hvs8, hpc8, hlx8, hts8.trans hts⟩
  · rw [decide_eq_false (by omega)]
    have hd : l.drop i = [] := List.drop_of_length_le (by omega)
    rw [hd] at hlx
    have hts' : ts' = [] := by cases hlx; rfl
    subst hts'
    rw [List.append_nil] at hts
    subst hts
    refine ifF <| rCons <| rReturn <| rLocal F7 e1 ?_
    exact k told vs h7 (sg1.trans (sg.trans F7.sub)) hnone (F7.at (x := .lst vs) (by simp)) (hpc.sub F7.sub)
end

end Mine

set_option Elab.async false
set_option maxRecDepth 100000
set_option maxHeartbeats 1000000
set_option linter.unusedVariables false
set_option autoImplicit false
namespace Mine

theorem zk_getattr_none : typeLookup (.type "zip") "__getattr__" = pure none := by rw [typeLookup_type, builtinLookup_eq_fast]; kernel_rfl
theorem zk_keys_none : typeLookup (.type "zip") "keys" = pure none := by rw [typeLookup_type, builtinLookup_eq_fast]; kernel_rfl
theorem zk_entry : entryFor table "zip.__getattribute__" = some Builtin.«object.__getattribute__» :=
  entryFor_alias (id' := "object.__getattribute__") (by kernel_rfl) (by decide +kernel) (by decide +kernel) (by kernel_rfl)

theorem zk_meets (a : Addr) (fs : Array Value) (u : Tok) :
    Meets (Builtin.«object.__getattribute__» ⟨[.ref a, .str "keys" u], []⟩) (fun A R s => s.heap.get? a = some { cls := .type "zip", dict := none, data := .fields fs, slots := #[] } ∧ raisesAttr (.ref a) "keys" A R s) :=
  Meets.of_wp fun prog w A R s hs => by
    obtain ⟨hp, g, d, tk, os⟩ := s
    obtain ⟨hx, hs⟩ := hs
    have hT : (⟨hp, g, d, tk, os⟩ : Shared).TypeIs (.ref a) "zip" := ⟨_, hx, rfl⟩
    have hmiss := zk_keys_none
    unfold Builtin.«object.__getattribute__»
    repeat (any_goals (first | assumption | wp_step))
    exact wpAny_raiseAttrError hs.1 hs.2 (attrMsg_fits (by decide +kernel) (by decide))

theorem zk_attr {prog : Program} {w : World} {A : Around} {E : Value → Shared → Prop} {s : Shared} {a : Addr} {fs : Array Value} {Q : Option Value → Shared → Prop}
    (hx : s.heap.get? a = some { cls := .type "zip", dict := none, data := .fields fs, slots := #[] }) (hA : A.handled = none) (h : ∀ h' tk, Sub s.heap h' → Q none { s with heap := h', toks := tk }) :
    wpAny (model prog w) A (getAttr? (.ref a) "keys") Q E s := by
  obtain ⟨hp, g, d, tk, os⟩ := s
  have hT : ∀ tk', (⟨hp, g, d, tk', os⟩ : Shared).TypeIs (.ref a) "zip" := fun _ => ⟨_, hx, rfl⟩
  have f1 := sub_AttributeError
  have f3 := F.slot_zip_getattribute.lookup
  have f4 := F.slot_zip_getattribute.bind (.ref a)
  have f5 := zk_getattr_none
  unfold getAttr? getAttrBy? getAttrBy
  repeat (any_goals (first | assumption | exact hT _ | ((with_reducible show wpAny _ _ (call (Value.builtin "zip.__getattribute__") _ _) _ _ _); refine call_meets F.slot_zip_getattribute (hT _) zk_entry (F.args_zip_getattribute_2 _ _) (zk_meets a fs _) ⟨hx, hA, fun h' tk' e hx' => ?_⟩) | wp_step))
  obtain ⟨t', u', he⟩ := hx'.there
  show wpAny _ _ (getattributeRaised _ _ _ _ _ _ _) _ _ _
  unfold getattributeRaised
  repeat (any_goals (first | assumption | wp_step))
  exact h h' tk' hx'.keeps

end Mine

set_option Elab.async false
set_option maxRecDepth 100000
set_option maxHeartbeats 1000000
set_option linter.unusedVariables false
set_option autoImplicit false
namespace Mine

/-- a zip whose last pair is still there -/
def ZB (h : Heap) (z TI TO : Addr) (T : Nat) (b : Bool) : Prop :=
  h.get? z = some { cls := .type "zip", dict := none, data := .fields #[rawInt T, .bool b, .bool false, .ref TI, .ref TO], slots := #[] }

section
variable {prog : Program} {w : World} {A : Around} {E : Value → Shared → Prop} {s : Shared}

theorem zb_free {z TI TO : Addr} {T : Nat} {b : Bool} {o : Obj} {Q : Bool → Shared → Prop} (hz : ZB s.heap z TI TO T b) (hT : s.heap.get? T = some o) (hQ : ∀ h' b', ZB h' z TI TO T b' → Heap.SameBut z s.heap h' → Q false { s with heap := h' }) :
    wpAny (model prog w) A (Builtin.SmallTypes.ownedTupleIsFree (.ref z)) Q E s := by
  unfold Builtin.SmallTypes.ownedTupleIsFree
  refine wpAny_bind (wpAny_field hz rfl (x := rawInt T) rfl ?_)
  show wpAny _ _ (loadIfAlive (T : Int).toNat >>= _) _ _ _
  refine wpAny_bind ?_
  have hl : wpAny (model prog w) A (loadIfAlive (T : Int).toNat) (fun r s' => r = some o ∧ s' = s) E s := by
    intro Γ p _
    show s.heap.get? (T : Int).toNat = some o ∧ s = s
    rw [Int.toNat_natCast]
    exact ⟨hT, rfl⟩
  refine wpAny_mono hl (fun r s' hr => ?_) fun _ _ x => x
  obtain ⟨rfl, rfl⟩ := hr
  simp only [Option.isNone_some, Bool.false_eq_true, if_false]
  refine wpAny_bind (wpAny_field hz rfl (x := .bool b) rfl ?_)
  cases b with
  | true =>
    show wpAny _ _ (pure false) _ _ _
    exact wpAny_pure (hQ _ true hz (Heap.SameBut.refl ..))
  | false =>
    show wpAny _ _ (setField (.ref z) 1 (.bool true) >>= _) _ _ _
    exact wpAny_bind (wpAny_setField_rec hz (by simp) fun h' hz' hs' => wpAny_pure (hQ h' true hz' hs'))

theorem zb_next_item {z TI TO i1 i2 l1 l2 T : Addr} {k1 k2 : Nat} {xs ys : Array Value} {x y : Value} {b : Bool} {o : Obj} {Q : Value → Shared → Prop} (D : ZipApart z TI TO i1 i2 l1 l2)
    (hz : ZB s.heap z TI TO T b) (hT : s.heap.get? T = some o) (hTI : IsPair s.heap TI (.ref i1) (.ref i2))
    (h1 : s.heap.IsListIter i1 l1 k1) (h2 : s.heap.IsListIter i2 l2 k2) (hl1 : s.heap.IsList l1 xs) (hl2 : s.heap.IsList l2 ys) (hx : xs[k1]? = some x) (hy : ys[k2]? = some y)
    (hQ : ∀ h' b', ZB h' z TI TO T b' → h'.IsListIter i1 l1 (k1 + 1) → h'.IsListIter i2 l2 (k2 + 1) → IsPair h' s.heap.objs.size x y →
      (∀ c o, c ≠ z → c ≠ i1 → c ≠ i2 → s.heap.get? c = some o → h'.get? c = some o) → (∀ c o, s.heap.get? c = some o → ∃ o', h'.get? c = some o') → Q (.ref s.heap.objs.size) { s with heap := h' }) :
    wpAny (model prog w) A (Builtin.«zip.__next__» ⟨[.ref z], []⟩) (fun fin s' => ∃ v, fin = .done (.ret v) ∧ Q v s') E s := by
  show wpAny _ _ (field (.ref z) 2 >>= _) _ _ _
  refine wpAny_bind (wpAny_field hz rfl (x := .bool false) rfl ?_)
  show wpAny _ _ (field (.ref z) 3 >>= _) _ _ _
  refine wpAny_bind (wpAny_field hz rfl (x := .ref TI) rfl ?_)
  refine wpAny_bind (wpAny_seqItems hTI rfl ?_)
  show wpAny _ _ (Builtin.SmallTypes.ownedTupleIsFree (.ref z) >>= _) _ _ _
  refine wpAny_bind (zb_free hz hT fun h₁ b' hz₁ hs₁ => ?_)
  simp only [Bool.false_eq_true, if_false]
  refine wpAny_bind ?_
  simp only [← Array.forIn_toList, List.forIn_cons, List.forIn_nil]
  have up1 : ∀ c o, s.heap.get? c = some o → ∃ o', h₁.get? c = some o' := fun c o e => by
    by_cases hc : c = z
    · subst hc; exact ⟨_, hz₁⟩
    · exact ⟨o, hs₁.extBut _ _ hc e⟩
  refine wpAny_bind (wpAny_bind (wpAny_holding ?_))
  show wpAny _ _ (Builtin.SmallTypes.nextOf (.ref i1) >>= _) _ _ _
  refine wpAny_bind (wpAny_nextOf_list_item (h1.extBut hs₁.extBut D.i1z) (hl1.extBut hs₁.extBut D.l1z) hx fun h₂ h1₂ hs₂ => wpAny_pure (wpAny_pure ?_))
  refine wpAny_bind (wpAny_bind (wpAny_holding ?_))
  show wpAny _ _ (Builtin.SmallTypes.nextOf (.ref i2) >>= _) _ _ _
  refine wpAny_bind (wpAny_nextOf_list_item ((h2.extBut hs₁.extBut D.i2z).extBut hs₂.extBut D.i12.symm) ((hl2.extBut hs₁.extBut D.l2z).extBut hs₂.extBut D.l2i1) hy fun h₃ h2₃ hs₃ => wpAny_pure (wpAny_pure (wpAny_pure ?_)))
  refine wpAny_bind (wpAny_newTuple ?_ (show 2 ≤ sizeLine by decide))
  have hsz : h₃.objs.size = s.heap.objs.size := by rw [hs₃.1, hs₂.1, hs₁.1]
  refine wpAny_pure ⟨_, rfl, ?_⟩
  show Q (.ref h₃.objs.size) _
  have hz₃ : ZB h₃ z TI TO T b' := hs₃.extBut _ _ D.i2z.symm (hs₂.extBut _ _ D.i1z.symm hz₁)
  rw [hsz]
  refine hQ _ b' (Heap.get?_push_of_some _ hz₃) (((h1₂.extBut hs₃.extBut D.i12)).at fun o e => Heap.get?_push_of_some _ e) (h2₃.at fun o e => Heap.get?_push_of_some _ e) (by rw [← hsz]; exact Heap.get?_push_size _ rfl)
    (fun c o c1 c2 c3 e => Heap.get?_push_of_some _ (hs₃.extBut _ _ c3 (hs₂.extBut _ _ c2 (hs₁.extBut _ _ c1 e)))) fun c o e => ?_
  obtain ⟨o1, e1⟩ := up1 c o e
  have e2 : ∃ o2, h₂.get? c = some o2 := by
    by_cases hc : c = i1
    · subst hc; obtain ⟨oo, ho, _⟩ := h1₂; exact ⟨oo, ho⟩
    · exact ⟨o1, hs₂.extBut _ _ hc e1⟩
  obtain ⟨o2, e2⟩ := e2
  have e3 : ∃ o3, h₃.get? c = some o3 := by
    by_cases hc : c = i2
    · subst hc; obtain ⟨oo, ho, _⟩ := h2₃; exact ⟨oo, ho⟩
    · exact ⟨o2, hs₃.extBut _ _ hc e2⟩
  obtain ⟨o3, e3⟩ := e3
  exact ⟨o3, Heap.get?_push_of_some _ e3⟩

theorem zb_next_end {z TI TO i1 i2 l1 l2 T : Addr} {k1 : Nat} {xs : Array Value} {b : Bool} {o : Obj} {Q : Fin → Shared → Prop} (hh : A.handled = none) (D : ZipApart z TI TO i1 i2 l1 l2)
    (hz : ZB s.heap z TI TO T b) (hT : s.heap.get? T = some o) (hTI : IsPair s.heap TI (.ref i1) (.ref i2))
    (h1 : s.heap.IsListIter i1 l1 k1) (hl1 : s.heap.IsList l1 xs) (hx : xs[k1]? = none)
    (hE : ∀ h' e, (∀ c o, c ≠ z → c ≠ i1 → s.heap.get? c = some o → h'.get? c = some o) → (∃ o, h'.get? e = some o ∧ o.cls = .type "StopIteration") → E (.ref e) { s with heap := h' }) :
    wpAny (model prog w) A (Builtin.«zip.__next__» ⟨[.ref z], []⟩) Q E s := by
  show wpAny _ _ (field (.ref z) 2 >>= _) _ _ _
  refine wpAny_bind (wpAny_field hz rfl (x := .bool false) rfl ?_)
  show wpAny _ _ (field (.ref z) 3 >>= _) _ _ _
  refine wpAny_bind (wpAny_field hz rfl (x := .ref TI) rfl ?_)
  refine wpAny_bind (wpAny_seqItems hTI rfl ?_)
  show wpAny _ _ (Builtin.SmallTypes.ownedTupleIsFree (.ref z) >>= _) _ _ _
  refine wpAny_bind (zb_free hz hT fun h₁ b' hz₁ hs₁ => ?_)
  simp only [Bool.false_eq_true, if_false]
  refine wpAny_bind ?_
  simp only [← Array.forIn_toList, List.forIn_cons, List.forIn_nil]
  refine wpAny_bind (wpAny_bind (wpAny_holding ?_))
  show wpAny _ _ (Builtin.SmallTypes.nextOf (.ref i1) >>= _) _ _ _
  refine wpAny_bind (wpAny_nextOf_list_end hh (h1.extBut hs₁.extBut D.i1z) (hl1.extBut hs₁.extBut D.l1z) hx fun h₂ e hs₂ he => ?_)
  exact hE h₂ e (fun c o c1 c2 x => hs₂ _ _ c2 (hs₁.extBut _ _ c1 x)) he

/-- a zip of two lists behind k pairs -/
structure ZSt (z TI TO i1 i2 l1 l2 : Addr) (xs ys : Array Value) (k : Nat) (h : Heap) : Prop where
  own : IsZip h z TI TO .none ∨ ∃ T b o, ZB h z TI TO T b ∧ h.get? T = some o
  ti : IsPair h TI (.ref i1) (.ref i2)
  to : ∃ a b, IsPair h TO a b
  a1 : h.IsListIter i1 l1 k
  a2 : h.IsListIter i2 l2 k
  b1 : h.IsList l1 xs
  b2 : h.IsList l2 ys

variable {z TI TO i1 i2 l1 l2 : Addr} {xs ys : Array Value} {k : Nat}

theorem zst_item {x y : Value} {Q : Option Value → Shared → Prop} (D : ZipApart z TI TO i1 i2 l1 l2) (Z : ZSt z TI TO i1 i2 l1 l2 xs ys k s.heap) (hx : xs[k]? = some x) (hy : ys[k]? = some y)
    (hQ : ∀ h', ZSt z TI TO i1 i2 l1 l2 xs ys (k + 1) h' → IsPair h' s.heap.objs.size x y → (∀ c o, c ≠ z → c ≠ TO → c ≠ i1 → c ≠ i2 → s.heap.get? c = some o → h'.get? c = some o) → Q (some (.ref s.heap.objs.size)) { s with heap := h' }) :
    wpAny (model prog w) A (pyNext (.ref z)) Q E s := by
  obtain ⟨own, ti, ⟨a, b, to⟩, a1, a2, b1, b2⟩ := Z
  rcases own with hz | ⟨T, bb, o, hz, hT⟩
  · refine wpAny_pyNext_zip_item D hz ti to a1 a2 b1 b2 hx hy fun h' c1 c2 c3 c4 c5 c6 hk => hQ h' ⟨.inr ⟨s.heap.objs.size, false, _, ?_, c5⟩, ?_, ⟨_, _, c2⟩, c3, c4, ?_, ?_⟩ c5 hk
    · exact c1
    · exact hk _ _ D.TIz D.TITO D.TIi1 D.TIi2 ti
    · exact b1.at fun o e => hk _ o D.l1z D.l1TO D.l1i1 D.l1i2 e
    · exact b2.at fun o e => hk _ o D.l2z D.l2TO D.l2i1 D.l2i2 e
  · have hT' : s.TypeIs (.ref z) "zip" := ⟨_, hz, rfl⟩
    unfold pyNext
    refine wpAny_bind (wpAny_attempt (wpAny_callSpecial?_slot (name := Str.ofString "__next__") hT' F.slot_zip_next
      (wpAny_call_entry F.slot_zip_next hT' F.entry_zip_next (zb_next_item D hz hT ti a1 a2 b1 b2 hx hy fun h' b' c1 c3 c4 c5 hk hal => wpAny_pure ?_) (F.args_zip_next_1 _))))
    obtain ⟨oT, hoT⟩ := hal T o hT
    refine hQ h' ⟨.inr ⟨T, b', oT, c1, hoT⟩, hk _ _ D.TIz D.TIi1 D.TIi2 ti, ⟨a, b, hk _ _ D.TOz D.TOi1 D.TOi2 to⟩, c3, c4, ?_, ?_⟩ c5 fun c o h1 _ h3 h4 e => hk c o h1 h3 h4 e
    · exact b1.at fun o e => hk _ o D.l1z D.l1i1 D.l1i2 e
    · exact b2.at fun o e => hk _ o D.l2z D.l2i1 D.l2i2 e

theorem zst_end {Q : Option Value → Shared → Prop} (hh : A.handled = none) (D : ZipApart z TI TO i1 i2 l1 l2) (Z : ZSt z TI TO i1 i2 l1 l2 xs ys k s.heap) (hx : xs[k]? = none)
    (hQ : ∀ h', (∀ c o, c ≠ z → c ≠ TO → c ≠ i1 → c ≠ i2 → s.heap.get? c = some o → h'.get? c = some o) → Q none { s with heap := h' }) : wpAny (model prog w) A (pyNext (.ref z)) Q E s := by
  obtain ⟨own, ti, ⟨a, b, to⟩, a1, a2, b1, b2⟩ := Z
  rcases own with hz | ⟨T, bb, o, hz, hT⟩
  · exact wpAny_pyNext_zip_end hh D hz ti to a1 a2 b1 b2 (.inl hx) hQ
  · have hT' : s.TypeIs (.ref z) "zip" := ⟨_, hz, rfl⟩
    unfold pyNext
    refine wpAny_bind (wpAny_attempt (wpAny_callSpecial?_slot (name := Str.ofString "__next__") hT' F.slot_zip_next
      (wpAny_call_entry F.slot_zip_next hT' F.entry_zip_next (zb_next_end hh D hz hT ti a1 b1 hx fun h' e hk he => ?_) (F.args_zip_next_1 _))))
    obtain ⟨o, ho, hc⟩ := he
    refine wpAny_bind (wpAny_isInstance (T := "StopIteration") (b := true) ⟨o, ho, hc⟩ isSubtype_stop ?_)
    exact wpAny_pure (hQ _ fun c o h1 _ h3 _ e => hk c o h1 h3 e)

theorem zst_frame {d : Addr} {h h' : Heap} (Z : ZSt z TI TO i1 i2 l1 l2 xs ys k h) (hd : d ≠ z ∧ d ≠ TI ∧ d ≠ TO ∧ d ≠ i1 ∧ d ≠ i2 ∧ d ≠ l1 ∧ d ≠ l2) (hk : ∀ c o, c ≠ d → h.get? c = some o → h'.get? c = some o) (hal : ∃ o, h'.get? d = some o) :
    ZSt z TI TO i1 i2 l1 l2 xs ys k h' := by
  obtain ⟨own, ti, ⟨a, b, to⟩, a1, a2, b1, b2⟩ := Z
  obtain ⟨d1, d2, d3, d4, d5, d6, d7⟩ := hd
  refine ⟨?_, hk _ _ d2.symm ti, ⟨a, b, hk _ _ d3.symm to⟩, a1.at fun o e => hk _ o d4.symm e, a2.at fun o e => hk _ o d5.symm e, b1.at fun o e => hk _ o d6.symm e, b2.at fun o e => hk _ o d7.symm e⟩
  rcases own with hz | ⟨T, bb, o, hz, hT⟩
  · exact .inl (hk _ _ d1.symm hz)
  · refine .inr ⟨T, bb, ?_⟩
    by_cases hTd : T = d
    · subst hTd
      obtain ⟨o', ho'⟩ := hal
      exact ⟨o', hk _ _ d1.symm hz, ho'⟩
    · exact ⟨o, hk _ _ d1.symm hz, hk _ _ hTd hT⟩

theorem stored_keyed {vs : List Value} {k : Nat} {v : Value} (hv : vs[k]? = some v) : stored (keyed 0 (vs.take k)) (-(k : Int)) v = keyed 0 (vs.take (k + 1)) := by
  have hlt := (List.getElem?_eq_some_iff.mp hv).1
  rw [stored_new, List.take_add_one, hv, keyed_append, List.length_take, Nat.min_eq_left (by omega)]
  · simp [keyed]
  · intro p hp e
    obtain ⟨i, hi, e2⟩ := keyed_keys _ _ p hp
    rw [List.length_take] at hi
    rw [e] at e2
    omega

theorem up_entry : entryFor table "dict.update.loop" = some Builtin.«dict.update.loop» := entryFor_of_tree (by kernel_rfl)
theorem up_plain : plainId "dict.update.loop" = true := by decide +kernel

theorem dict_loop {d : Addr} {vs : List Value} {R : Result → Shared → Prop} (hh : A.handled = none) (D : ZipApart z TI TO i1 i2 l1 l2) (hd : d ≠ z ∧ d ≠ TI ∧ d ≠ TO ∧ d ≠ i1 ∧ d ≠ i2 ∧ d ≠ l1 ∧ d ≠ l2)
    (hys : ys = vs.toArray) (hsz : xs.size = vs.length) (hvs : vs.length ≤ 100000) (hxs : ∀ j, j < vs.length → ∃ t, xs[j]? = some (.int (-(j : Int)) t)) :
    ∀ (n k : Nat) (s : Shared) (i : Int), vs.length - k = n → k ≤ vs.length → ZSt z TI TO i1 i2 l1 l2 xs ys k s.heap → s.heap.DictOf (intKind prog w) d (keyed 0 (vs.take k)) →
      (∀ h' tk, h'.DictOf (intKind prog w) d (keyed 0 vs) → (∀ c o, c ≠ d → c ≠ z → c ≠ TO → c ≠ i1 → c ≠ i2 → s.heap.get? c = some o → h'.get? c = some o) → R (.ok (.ret .none)) { s with heap := h', toks := tk }) →
      codeAny (model prog w) A (.builtin "dict.update.loop" ⟨[.ref d, .ref z, rawInt i, .none], []⟩) R s := by
  intro n
  induction n with
  | zero =>
    intro k s i hn hk Z hdict hR
    have hkn : k = vs.length := by omega
    subst hkn
    rw [List.take_length] at hdict
    refine codeAny_builtin up_entry ?_
    rw [Around.under_plainId up_plain _]
    show wpAny _ A.in1 (pyNext (.ref z) >>= _) _ _ s
    refine wpAny_bind (zst_end hh D Z (by simp [hsz]) fun h' hk' => ?_)
    show wpAny _ _ (Builtin.Dict.addKeywords d [] >>= _) _ _ _
    refine wpAny_bind (wpAny_pure (wpAny_pure ?_))
    refine hR h' s.toks ?_ fun c o _ c1 c2 c3 c4 e => hk' c o c1 c2 c3 c4 e
    exact hdict.at fun o e => hk' _ o hd.1 hd.2.2.1 hd.2.2.2.1 hd.2.2.2.2.1 e
  | succ n ih =>
    intro k s i hn hk Z hdict hR
    have hlt : k < vs.length := by omega
    obtain ⟨t, hx⟩ := hxs k hlt
    have hy : ys[k]? = some vs[k] := by rw [hys]; simp [hlt]
    refine codeAny_builtin up_entry ?_
    rw [Around.under_plainId up_plain _]
    show wpAny _ A.in1 (pyNext (.ref z) >>= _) _ _ s
    refine wpAny_bind (zst_item D Z hx hy fun h' Z' hp hk' => ?_)
    have hd' : h'.DictOf (intKind prog w) d (keyed 0 (vs.take k)) := hdict.at fun o e => hk' _ o hd.1 hd.2.2.1 hd.2.2.2.1 hd.2.2.2.2.1 e
    refine wpAny_bind (wpAny_holding (wpAny_bind (wpAny_tryCatch ?_)))
    unfold Builtin.Dict.pairItems
    refine wpAny_bind (wpAny_typeOf (T := "tuple") ⟨_, hp, rfl⟩ ?_)
    simp only [show (Value.type "tuple" == Value.type "list" || Value.type "tuple" == Value.type "tuple") = true by decide, if_true]
    refine wpAny_bind (wpAny_seqItems hp rfl (wpAny_pure ?_))
    show wpAny _ _ (holding [.int (-(k : Int)) t, vs[k]] (dictSet d (.int (-(k : Int)) t) vs[k])) _ _ _
    refine wpAny_holding (wpAny_dictSet_pairs (intKind_is prog w _ t) hd' (fun h'' hd'' hs'' => ?_) (by rw [keyed_length, List.length_take]; show _ ≤ 16777216; omega))
    rw [stored_keyed (by simp [hlt])] at hd''
    refine wpAny_pure ⟨plainId_quiet up_plain _, ?_⟩
    refine ih (k + 1) _ (i + 1) (by omega) (by omega) (zst_frame Z' hd (fun c o hc e => hs''.extBut c o hc e) ?_) hd'' fun h3 tk hd3 hk3 => ?_
    · obtain ⟨o, _, _, ho, _⟩ := hd''; exact ⟨o, ho⟩
    · exact hR h3 tk hd3 fun c o c0 c1 c2 c3 c4 e => hk3 c o c0 c1 c2 c3 c4 (hs''.extBut c o c0 (hk' c o c1 c2 c3 c4 e))
end

section
variable {prog : Program} {w : World} {A : Around} {h : Heap} {P : Value → Heap → Prop}

/-- dict(zip(l1, l2)) where the keys are 0, -1, -2 and so on -/
theorem rDictZip {l1 l2 : Addr} {us vs : List Value} (hh : A.handled = none) (h1 : h.IsList l1 us.toArray) (h2 : h.IsList l2 vs.toArray) (hlen : us.length = vs.length) (hvs : vs.length ≤ 100000)
    (hus : ∀ j, j < vs.length → ∃ t, us[j]? = some (.int (-(j : Int)) t))
    (k : ∀ a h', Sub h h' → h.get? a = none → DictI h' a (keyed 0 vs) → P (.ref a) h') :
    Run prog w A (call (.type "zip") [.ref l1, .ref l2]) h (fun z h₁ => Run prog w A (call (.type "dict") [z]) h₁ P) := fun s E e => by
  subst e
  obtain ⟨o1, ho1, _⟩ := id h1
  obtain ⟨o2, ho2, _⟩ := id h2
  have n1 : @LT.lt Nat _ l1 s.heap.objs.size := Heap.lt_size ho1
  have n2 : @LT.lt Nat _ l2 s.heap.objs.size := Heap.lt_size ho2
  refine call_zip_2 h1 h2 fun h' z1 z2 z3 z4 z5 z6 hk => ⟨⟨_, rfl⟩, fun s₂ E₂ e₂ => ?_⟩
  have hsz : s₂.heap.objs.size = s.heap.objs.size + 5 := by rw [e₂]; exact z6
  have e₂' : h' = s₂.heap := e₂.symm
  subst e₂'
  have D : ZipApart (s.heap.objs.size + 4) (s.heap.objs.size + 2) (s.heap.objs.size + 3) s.heap.objs.size (s.heap.objs.size + 1) l1 l2 := by
    constructor <;> first | exact Nat.ne_of_lt (by omega) | exact Nat.ne_of_gt (by omega)
  refine callType_codes (Q₁ := fun obj s₁ => obj = .ref s₂.heap.objs.size ∧ s₁ = { s₂ with heap := s₂.heap.push { cls := .type "dict", data := .dict #[] } }) F.kt_called_dict (F.kt_typeCall_dict_1 _) F.entry_dict_init (kt_code_dict_new _ ⟨rfl, rfl⟩) ?_
  rintro obj s₁ ⟨rfl, rfl⟩
  have hnew : (s₂.heap.push { cls := .type "dict", data := .dict #[] }).DictOf (intKind prog w) s₂.heap.objs.size [] := Heap.DictOf.new s₂.heap
  have up : ∀ c o, s₂.heap.get? c = some o → (s₂.heap.push { cls := .type "dict", data := .dict #[] }).get? c = some o := fun c o e => Heap.get?_push_of_some _ e
  have hz := up _ _ z1
  have Z0 : ZSt (s.heap.objs.size + 4) (s.heap.objs.size + 2) (s.heap.objs.size + 3) s.heap.objs.size (s.heap.objs.size + 1) l1 l2 us.toArray vs.toArray 0 (s₂.heap.push { cls := .type "dict", data := .dict #[] }) :=
    ⟨.inl hz, up _ _ z2, ⟨_, _, up _ _ z3⟩, z4.at fun o e => up _ o e, z5.at fun o e => up _ o e, h1.at fun o e => up _ o (hk _ _ e), h2.at fun o e => up _ o (hk _ _ e)⟩
  refine ⟨hnew.typeIs, F.args_dict_init_2 _ _, ?_⟩
  unfold Builtin.«dict.__init__»
  refine wpAny_bind ?_
  unfold Builtin.Dict.selfAndRest
  refine wpAny_bind (wpAny_notOrdered_dict hnew.typeIs ?_)
  show wpAny _ _ (pure (s₂.heap.objs.size, [Value.ref (s.heap.objs.size + 4)])) _ _ _
  refine wpAny_pure ?_
  show wpAny _ _ (Builtin.Dict.updateFrom "dict.__init__" s₂.heap.objs.size (.ref (s.heap.objs.size + 4)) [] .none) _ _ _
  unfold Builtin.Dict.updateFrom
  refine wpAny_bind (wpAny_typeOf (T := "zip") ⟨_, hz, rfl⟩ ?_)
  rw [if_pos (by decide)]
  refine wpAny_bind (zk_attr hz hh fun h₃ tk hs₃ => ?_)
  simp only [Option.isNone_none, if_true]
  refine wpAny_bind (wpAny_rule ?_)
  refine wpAny_bind (wpAny_pyIter_zip (hs₃ _ _ hz) ?_)
  refine wpAny_pure ⟨plainId_quiet up_plain _, ?_⟩
  refine dict_loop (A := A.in1) (d := s₂.heap.objs.size) hh D (by rw [hsz]; refine ⟨?_, ?_, ?_, ?_, ?_, ?_, ?_⟩ <;> exact Nat.ne_of_gt (by omega)) rfl (by simpa using hlen) hvs (by simpa using hus) vs.length 0 { s₂ with heap := h₃, toks := tk } 0 (by omega) (by omega)
    (zst_frame (d := s₂.heap.objs.size) Z0 (by rw [hsz]; refine ⟨?_, ?_, ?_, ?_, ?_, ?_, ?_⟩ <;> exact Nat.ne_of_gt (by omega)) (fun c o _ e => hs₃ c o e) ⟨_, hs₃ _ _ (Heap.get?_push_size _ rfl)⟩) (hnew.at fun o e => hs₃ _ o e) fun h₄ tk₄ hd₄ hk₄ => ?_
  refine ⟨rfl, ⟨_, rfl⟩, k _ _ (fun c o e => ?_) (none_of_size _ (by rw [hsz]; omega)) (DictI.of hd₄)⟩
  have hc : @LT.lt Nat _ c s.heap.objs.size := Heap.lt_size e
  exact hk₄ c o (Nat.ne_of_lt (by omega)) (Nat.ne_of_lt (by omega)) (Nat.ne_of_lt (by omega)) (Nat.ne_of_lt (by omega)) (Nat.ne_of_lt (by omega)) (hs₃ _ _ (up _ _ (hk _ _ e)))
end

end Mine

set_option Elab.async false
set_option maxRecDepth 100000
set_option maxHeartbeats 1000000
set_option linter.unusedVariables false
set_option autoImplicit false
namespace Mine

-- two lists woven together
def weave : List Value → List Value → List Value
  | u :: us, v :: vs => u :: v :: weave us vs
  | _, _ => []
theorem weave_len : ∀ (us vs : List Value), us.length = vs.length → (weave us vs).length = 2 * us.length
  | [], [], _ => rfl
  | u :: us, v :: vs, h => by have := weave_len us vs (by simpa using h); simp only [weave, List.length_cons]; omega
  | [], v :: vs, h => by simp at h
  | u :: us, [], h => by simp at h
theorem weave_even : ∀ (us vs : List Value) (k : Nat), us.length = vs.length → (weave us vs)[2 * k]? = us[k]?
  | [], [], k, _ => by simp [weave]
  | u :: us, v :: vs, 0, h => by simp [weave]
  | u :: us, v :: vs, k + 1, h => by
    have := weave_even us vs k (by simpa using h)
    rw [show 2 * (k + 1) = 2 * k + 1 + 1 by omega]
    simpa [weave] using this
  | [], v :: vs, k, h => by simp at h
  | u :: us, [], k, h => by simp at h
theorem weave_odd : ∀ (us vs : List Value) (k : Nat), us.length = vs.length → (weave us vs)[2 * k + 1]? = vs[k]?
  | [], [], k, _ => by simp [weave]
  | u :: us, v :: vs, 0, h => by simp [weave]
  | u :: us, v :: vs, k + 1, h => by
    have := weave_odd us vs k (by simpa using h)
    rw [show 2 * (k + 1) + 1 = 2 * k + 1 + 1 + 1 by omega]
    simpa [weave] using this
  | [], v :: vs, k, h => by simp at h
  | u :: us, [], k, h => by simp at h
theorem range_pick : ∀ us : List Value, (List.range us.length).filterMap (fun k => us[k]?) = us
  | [] => rfl
  | u :: us => by
    rw [List.length_cons, List.range_succ_eq_map, List.filterMap_cons]
    simp only [List.getElem?_cons_zero, List.filterMap_map]
    congr 1
    have := range_pick us
    simpa [Function.comp_def] using this
theorem slice_even {us vs : List Value} (h : us.length = vs.length) : slicePick (weave us vs).toArray none none (some 2) = us.toArray := by
  have hl := weave_len us vs h
  have hb : sliceBounds none none (some 2) (weave us vs).toArray.size = (0, ((2 * us.length : Nat) : Int), 2) := by
    simp [sliceBounds, hl]
  unfold slicePick
  rw [hb]
  unfold sliceRange
  have hc : (if (2 : Int) > 0 then (if (0 : Int) < ((2 * us.length : Nat) : Int) then (((2 * us.length : Nat) : Int) - 0 + 2 - 1) / 2 else 0) else (if (0 : Int) > ((2 * us.length : Nat) : Int) then (0 - ((2 * us.length : Nat) : Int) - 2 - 1) / (-2) else 0)).toNat = us.length := by
    rw [if_pos (by decide)]
    split <;> omega
  simp only [hc]
  congr 1
  rw [List.filterMap_map]
  have : ((fun i => (weave us vs).toArray[i]?) ∘ fun (k : Nat) => ((0 : Int) + 2 * (k : Int)).toNat) = fun k => us[k]? := by
    funext k
    simp only [Function.comp_def]
    rw [show ((0 : Int) + 2 * (k : Int)).toNat = 2 * k by omega]
    rw [List.getElem?_toArray, weave_even us vs k h]
  rw [this, range_pick]
theorem slice_odd {us vs : List Value} (h : us.length = vs.length) : slicePick (weave us vs).toArray (some 1) none (some 2) = vs.toArray := by
  have hl := weave_len us vs h
  have hb : sliceBounds (some 1) none (some 2) (weave us vs).toArray.size = (min 1 ((2 * us.length : Nat) : Int), ((2 * us.length : Nat) : Int), 2) := by
    simp [sliceBounds, hl]
    omega
  unfold slicePick
  rw [hb]
  unfold sliceRange
  have hc : (if (2 : Int) > 0 then (if min 1 ((2 * us.length : Nat) : Int) < ((2 * us.length : Nat) : Int) then (((2 * us.length : Nat) : Int) - min 1 ((2 * us.length : Nat) : Int) + 2 - 1) / 2 else 0) else (if min 1 ((2 * us.length : Nat) : Int) > ((2 * us.length : Nat) : Int) then (min 1 ((2 * us.length : Nat) : Int) - ((2 * us.length : Nat) : Int) - 2 - 1) / (-2) else 0)).toNat = vs.length := by
    rw [if_pos (by decide)]
    split <;> omega
  simp only [hc]
  congr 1
  rw [List.filterMap_map]
  rcases Nat.eq_zero_or_pos us.length with h0 | h0
  · have : vs = [] := List.length_eq_zero_iff.mp (by omega)
    subst this
    rfl
  · have : ((fun i => (weave us vs).toArray[i]?) ∘ fun (k : Nat) => (min 1 ((2 * us.length : Nat) : Int) + 2 * (k : Int)).toNat) = fun k => vs[k]? := by
      funext k
      simp only [Function.comp_def]
      rw [show (min 1 ((2 * us.length : Nat) : Int) + 2 * (k : Int)).toNat = 2 * k + 1 by omega]
      rw [List.getElem?_toArray, weave_odd us vs k h]
    rw [this, range_pick]

/-- keys and values in turn, as a table is read -/
def inter : Nat → List T → List T
  | _, [] => []
  | k, x :: r => .ii (-(k : Int)) :: x :: inter (k + 1) r
theorem inter_len : ∀ (k : Nat) (xs : List T), (inter k xs).length = 2 * xs.length
  | _, [] => rfl
  | k, x :: r => by have := inter_len (k + 1) r; simp only [inter, List.length_cons]; omega
theorem reps_inter {N : Addr → Prop} {h : Heap} : ∀ (xs : List T) (k : Nat) (vs : List Value), Reps N h (inter k xs) vs →
    ∃ us ws, vs = weave us ws ∧ us.length = xs.length ∧ ws.length = xs.length ∧ (∀ j, j < xs.length → ∃ t, us[j]? = some (.int (-((k + j : Nat) : Int)) t)) ∧ Reps N h xs ws
  | [], k, vs, r => by
    simp only [inter, Reps] at r
    exact ⟨[], [], r, rfl, rfl, by simp, by simp [Reps]⟩
  | x :: xs, k, vs, r => by
    simp only [inter, Reps] at r
    obtain ⟨v, ws, rfl, h1, v2, ws2, rfl, h2, h3⟩ := r
    simp only [Rep] at h1
    obtain ⟨t, rfl⟩ := h1
    obtain ⟨us, vs', rfl, l1, l2, hu, hr⟩ := reps_inter xs (k + 1) ws2 h3
    refine ⟨.int (-(k : Int)) t :: us, v2 :: vs', rfl, by simp [l1], by simp [l2], ?_, by simp only [Reps]; exact ⟨v2, vs', rfl, h2, hr⟩⟩
    intro j hj
    cases j with
    | zero => exact ⟨t, by simp⟩
    | succ j =>
      obtain ⟨t', e⟩ := hu j (by simpa using hj)
      refine ⟨t', ?_⟩
      rw [List.getElem?_cons_succ, e]
      congr 3
      omega

section
variable {prog : Program} {w : World} {A : Around} {h : Heap} {env : Env} {P : Value → Heap → Prop}

theorem rInInts {l : Addr} {vs : List Value} {ns : List Int} {k : Int} {t : Tok} (hl : h.IsList l vs.toArray) (hi : IntsAre vs ns) (q : P (.bool (ns.contains k)) h) : Run prog w A (compareOp .In (.int k t) (.ref l)) h P := fun s E e => by
  subst e
  refine SeqAt.in_listAt (fun y => match y with | .int i _ => i == k | _ => false) hl (fun y hy => ?_) ?_
  · obtain ⟨i, hi'⟩ := List.getElem?_of_mem (by simpa using hy : y ∈ vs)
    obtain ⟨n, tn, rfl, _⟩ := ints_get hi i y hi'
    exact SeqAt.EqAt.int_int n tn k t
  · have : vs.toArray.any (fun y => match y with | .int i _ => i == k | _ => false) = ns.contains k := by
      rw [List.any_toArray]
      clear hl q
      induction hi with
      | nil => rfl
      | cons n tn _ ih =>
        rw [List.any_cons, List.contains_cons, ih]
        congr 1
        show (n == k) = (k == n)
        by_cases hnk : n = k
        · rw [hnk]
        · rw [beq_eq_false_iff_ne.mpr hnk, beq_eq_false_iff_ne.mpr (Ne.symm hnk)]
    rw [this]
    exact ⟨⟨_, rfl⟩, q⟩

theorem dg_str (n : Nat) : txt (dg n) = Str.ofString (toString (n : Int)) := by
  have := KIN.signs_num n
  unfold txt dg
  rw [← this]
theorem rIntOf {n : Nat} {t : Tok} (hn : n < 10000000000) (q : ∀ u, P (.int n u) h) : Run prog w A (call (.type "int") [.str (txt (dg n)) t]) h P := fun s E e => by
  subst e
  rw [dg_str]
  exact KIN.call_num (by omega) (by have h10 : (10 : Int) ^ 10 = 10000000000 := by decide
                                    rw [h10]; omega) ⟨⟨_, rfl⟩, q _⟩
end

end Mine

set_option Elab.async false
set_option maxRecDepth 100000
set_option maxHeartbeats 1000000
set_option linter.unusedVariables false
set_option autoImplicit false
namespace Mine

theorem g_read : GlobIs "_law_read" (.ref 56) := fun w => by kernel_rfl
theorem g_lpar : ∃ t, GlobIs "LPAR" (.int 7 t) := ⟨_, fun w => by rfl⟩
theorem g_lsqb : ∃ t, GlobIs "LSQB" (.int 9 t) := ⟨_, fun w => by rfl⟩
theorem g_lbrace : ∃ t, GlobIs "LBRACE" (.int 25 t) := ⟨_, fun w => by rfl⟩
theorem g_rpar : ∃ t, GlobIs "RPAR" (.int 8 t) := ⟨_, fun w => by rfl⟩
theorem g_rsqb : ∃ t, GlobIs "RSQB" (.int 10 t) := ⟨_, fun w => by rfl⟩
theorem g_rbrace : ∃ t, GlobIs "RBRACE" (.int 26 t) := ⟨_, fun w => by rfl⟩
theorem g_minus : ∃ t, GlobIs "MINUS" (.int 15 t) := ⟨_, fun w => by rfl⟩
theorem b_zip : BltIs "zip" (.type "zip") := ⟨fun w => by kernel_rfl, by kernel_rfl, by decide⟩

/-- the reader's step on a piece -/
inductive RStep : List (List T) → Bool → Int → List Nat → List (List T) → Bool → Prop
  | opens {st : List (List T)} {b : Bool} {k : Int} {x : List Nat} : [7, 9, 25].contains k = true → RStep st b k x ([] :: st) b
  | tup {r r2 : List T} {st : List (List T)} {b : Bool} {x : List Nat} : RStep (r :: r2 :: st) b 8 x ((r2 ++ [.tt r]) :: st) b
  | lst {r r2 : List T} {st : List (List T)} {b : Bool} {x : List Nat} : RStep (r :: r2 :: st) b 10 x ((r2 ++ [.ll r]) :: st) b
  | dct {xs r2 : List T} {st : List (List T)} {b : Bool} {x : List Nat} : RStep (inter 0 xs :: r2 :: st) b 26 x ((r2 ++ [.dd xs]) :: st) b
  | minus {st : List (List T)} {b : Bool} {x : List Nat} : RStep st b 15 x st true
  | num {r : List T} {st : List (List T)} {b : Bool} {n : Nat} : n < 10000000000 → RStep (r :: st) b 2 (dg n) ((r ++ [.ii (if b then -(n : Int) else n)]) :: st) false
  | none {r : List T} {st : List (List T)} {b : Bool} : RStep (r :: st) b 1 [78, 111, 110, 101] ((r ++ [.nn]) :: st) b
  | true {r : List T} {st : List (List T)} {b : Bool} : RStep (r :: st) b 1 [84, 114, 117, 101] ((r ++ [.bb true]) :: st) b
  | false {r : List T} {st : List (List T)} {b : Bool} : RStep (r :: st) b 1 [70, 97, 108, 115, 101] ((r ++ [.bb false]) :: st) b
  | skip {st : List (List T)} {b : Bool} {k : Int} {x : List Nat} : k = 11 ∨ k = 12 → RStep st b k x st b

inductive RSteps : List (List T) → Bool → List Pc → List (List T) → Bool → Prop
  | nil {st : List (List T)} {b : Bool} : RSteps st b [] st b
  | cons {st st1 st2 : List (List T)} {b b1 b2 : Bool} {p : Pc} {ps : List Pc} : RStep st b p.1 p.2.1 st1 b1 → RSteps st1 b1 ps st2 b2 → RSteps st b (p :: ps) st2 b2

structure Row where
  la : Addr
  vs : List Value
  ts : List T
def rwVals (rs : List Row) : List Value := rs.reverse.map fun r => .ref r.la
def rwMu (rs : List Row) : List (Addr × MO) := rs.map fun r => (r.la, .lst r.vs)
def rwPlain (rs : List Row) : List (List T) := rs.map (·.ts)
theorem rwVals_cons (r : Row) (rs : List Row) : rwVals (r :: rs) = rwVals rs ++ [.ref r.la] := by simp [rwVals]
theorem rwVals_len (rs : List Row) : (rwVals rs).length = rs.length := by simp [rwVals]

noncomputable abbrev bR : List Stmt := fnBody (stmtAt 59)
noncomputable abbrev envR (L : Addr) : Env := envAt 59 "_law_read" 56 55 L
noncomputable abbrev bRf : List Stmt := forBody ((bR[1]?).getD (.Pass default))

section
variable {prog : Program} {w : World} {A : Around} {g h : Heap} {L I stk : Addr} {m : Str → Option Value} {N : Addr → Prop} {o : Obj} {Q : Flow → Heap → Prop} {P : Value → Heap → Prop} {B : Bool → Heap → Prop}

theorem ints3 {a b c : Int} {t1 t2 t3 : Tok} : IntsAre [.int a t1, .int b t2, .int c t3] [a, b, c] := .cons a t1 (.cons b t2 (.cons c t3 .nil))

def nameTab : List (PySem.Str × Value) := [(Str.ofString "None", .none), (Str.ofString "True", .bool true), (Str.ofString "False", .bool false)]
theorem rNames {env : Env} {s1 s2 s3 : PySem.Str} {n1 n2 n3 : Nat} {p1 p2 p3 pos : Pos} {e1 e2 e3 : PySem.Expr} {v1 v2 v3 : Value} (h1 : eval e1 env = Pure.pure v1) (h2 : eval e2 env = Pure.pure v2) (h3 : eval e3 env = Pure.pure v3)
    (hm : merged [] [(s1, v1), (s2, v2), (s3, v3)] = nameTab) (k : ∀ a h', NewAt h a h' → h'.DictOf (strKind prog w) a nameTab → P (.ref a) h') :
    Run prog w A (eval (.Dict [some (.Constant (.str s1) n1 p1), some (.Constant (.str s2) n2 p2), some (.Constant (.str s3) n3 p3)] [e1, e2, e3] pos) env) h P := fun s E e => by
  subst e
  refine wpAny_Dict_walk (knd := strKind prog w) rfl rfl (by simp) (by simp) ?_
  have kv : ∀ {v : Value} {Q : Value → Shared → Prop} {s' : Shared} {e : PySem.Expr}, eval e env = Pure.pure v → Q v s' → wpAny (model prog w) A (do let x ← eval e env; standAt pos; pure x) Q E s' := fun he q => by
    rw [he]
    exact wpAny_bind (wpAny_pure (wpAny_bind (wpAny_standAt (wpAny_pure q))))
  refine evalPairs_cons (wpAny_Constant_str (kv h1 (evalPairs_cons (wpAny_Constant_str (kv h2 (evalPairs_cons (wpAny_Constant_str (kv h3 (evalPairs_nil ?_)))))))))
  refine ⟨[(s1, v1), (s2, v2), (s3, v3)], ⟨strKind_is prog w _ _, rfl, strKind_is prog w _ _, rfl, strKind_is prog w _ _, rfl, trivial⟩, Heap.DictOf.new s.heap, fun h' hd hs => ⟨⟨_, rfl⟩, k _ _ ⟨fun b o e => ?_, none_of_size _ (Nat.le_refl _)⟩ ?_⟩⟩
  · exact hs.extBut b o (Nat.ne_of_lt (Heap.lt_size e)) (Heap.get?_push_of_some _ e)
  · rw [hm] at hd
    exact hd
theorem rItemDS {value slice : PySem.Expr} {d : Addr} {kvs : List (PySem.Str × Value)} {x : PySem.Str} {v : Value} {u : Tok} (hd : h.DictOf (strKind prog w) d kvs) (hx : valueAt kvs x = some v) (q : P v h)
    (hs : subscripted slice false (.ref d) (.str x u) = operate [.ref d, .str x u] (getItem (.ref d) (.str x u)) := by with_unfolding_all rfl) :
    Run prog w A (subscriptTail value slice (.ref d) (.str x u)) h P := fun s E e => by
  subst e
  have hm := hd.mapOf
  exact tail_any hm.typeIs F.slot_dict_getitem.lookup (wpAny_getItem_of (strKind_is prog w x u) hm hx ⟨⟨_, rfl⟩, q⟩) hs

/-- stack[-1].append(v) as the last thing of a turn's branch -/
theorem read_append {r1 : Row} {rs : List Row} {v : Value} (F : Lc w g L m ([(I, .raw o), (stk, .lst (rwVals (r1 :: rs)))] ++ (r1.la, .lst r1.vs) :: rwMu rs) h) (hsz : r1.vs.length ≤ 10000)
    (k : ∀ h', Lc w g L m ([(I, .raw o), (stk, .lst (rwVals (r1 :: rs)))] ++ (r1.la, .lst (r1.vs ++ [v])) :: rwMu rs) h' → P .none h') : Run prog w A (call (.builtin "list.append") [.ref r1.la, v]) h P :=
  rAppend F (by have : sizeLine = 16777216 := rfl; omega) k

noncomputable abbrev bR1 : List Stmt := match (bRf[0]? : Option Stmt) with
  | some (Stmt.If _ _ e _) => e
  | _ => []
noncomputable abbrev bR2 : List Stmt := match (bR1[0]? : Option Stmt) with
  | some (Stmt.If _ b _ _) => b
  | _ => []
noncomputable abbrev bR3 : List Stmt := match (bR1[0]? : Option Stmt) with
  | some (Stmt.If _ _ e _) => e
  | _ => []

noncomputable abbrev bRn : List Stmt := match (bR3[0]? : Option Stmt) with
  | some (Stmt.If _ _ [Stmt.If _ _ [Stmt.If _ b _ _] _] _) => b
  | _ => []
theorem read_name {h2 : Heap} {r0 : Row} {rest : List Row} {x : List Nat} {t2 : Tok} {v : Value} (F2 : Lc w g L m ((I, .raw o) :: (stk, .lst (rwVals (r0 :: rest))) :: rwMu (r0 :: rest)) h2) (m1 : m (Str.ofString "stack") = some (.ref stk)) (m4 : m (Str.ofString "word") = some (.str (txt x) t2)) (hx : valueAt nameTab (txt x) = some v) (hv : r0.vs.length ≤ 10000)
    (k : ∀ h', Lc w g L m ([(I, .raw o), (stk, .lst (rwVals (r0 :: rest)))] ++ (r0.la, .lst (r0.vs ++ [v])) :: rwMu rest) h' → Q .next h') : Run prog w A (execs bRn (envR L)) h2 Q := by
  have hs2 : h2.PlainList stk (rwVals (r0 :: rest)).toArray := F2.at (x := .lst (rwVals (r0 :: rest))) (by simp)
  have hl0 : h2.PlainList r0.la r0.vs.toArray := F2.at (x := .lst r0.vs) (by simp [rwMu])
  refine rCons ?_
  refine rExpr ?_
  refine rMethod ?_
  refine rSub <| rLocal F2 m1 ?_
  refine rUn <| rInt fun t9 => rNegI fun t10 => ?_
  refine rItemLast (xs := rwVals rest) (x := .ref r0.la) (by rw [← rwVals_cons]; exact hs2.isList) ?_
  refine rGetM PySem.F.slot_list_append PySem.F.type_list_append hl0 ?_
  refine rCallM ?_
  refine rItems ?_
  refine rSub ?_
  refine rNames (v1 := .none) (v2 := .bool true) (v3 := .bool false) rfl rfl rfl (by decide) fun a3 h3 n3 d3 => ?_
  have F3 := F2.grow n3.sub
  refine rLocal F3 m4 ?_
  refine rItemDS d3 (v := v) hx ?_
  refine rItemsNil ?_
  refine read_append F3 hv fun h4 F4 => rNil ?_
  exact k h4 F4

theorem read_close {h2 : Heap} {rs : List Row} {kk : Int} {x : List Nat} {t1 t2 : Tok} {b b' : Bool} {st' : List (List T)} (hA : A.handled = none) (F2 : Lc w g L m ((I, .raw o) :: (stk, .lst (rwVals rs)) :: rwMu rs) h2) (hrs : ∀ r ∈ rs, Reps N g r.ts r.vs) (hN : ∀ a, g.get? a = none → N a)
    (m1 : m (Str.ofString "stack") = some (.ref stk)) (m2 : m (Str.ofString "below") = some (.bool b)) (m3 : m (Str.ofString "kind") = some (.int kk t1)) (m4 : m (Str.ofString "word") = some (.str (txt x) t2))
    (hsz : rs.length ≤ 10000) (hvs : ∀ r ∈ rs, r.vs.length ≤ 10000) (c1 : [7, 9, 25].contains kk = false) (c2 : [8, 10, 26].contains kk = true) (hst : RStep (rwPlain rs) b kk x st' b')
    (k : ∀ h' g' m' rs', Sub g g' → (∀ r ∈ rs', Reps N g' r.ts r.vs) → rwPlain rs' = st' → m' (Str.ofString "stack") = some (.ref stk) → m' (Str.ofString "below") = some (.bool b') → Lc w g' L m' ((I, .raw o) :: (stk, .lst (rwVals rs')) :: rwMu rs') h' → Q .next h') :
    Run prog w A (execs bR2 (envR L)) h2 Q := by
  have hz : sizeLine = 16777216 := rfl
  generalize hpl : rwPlain rs = pl at hst
  obtain ⟨q4, g4⟩ := g_rpar
  obtain ⟨q5, g5⟩ := g_rsqb
  have hrows : ∃ r0 r1 rest, rs = r0 :: r1 :: rest := by
    have : ∃ a b c, rwPlain rs = a :: b :: c := by
      rw [hpl]
      cases hst with
      | opens hk => rw [hk] at c1; cases c1
      | tup => exact ⟨_, _, _, rfl⟩
      | lst => exact ⟨_, _, _, rfl⟩
      | dct => exact ⟨_, _, _, rfl⟩
      | skip hk => rcases hk with rfl | rfl <;> simp at c2
      | _ => simp at c2
    obtain ⟨a, b, c, e⟩ := this
    match rs, e with
    | r0 :: r1 :: rest, _ => exact ⟨r0, r1, rest, rfl⟩
  obtain ⟨r0, r1, rest, rfl⟩ := hrows
  have F2' : Lc w g L m ([(I, .raw o)] ++ (stk, .lst (rwVals (r1 :: rest) ++ [.ref r0.la])) :: rwMu (r0 :: r1 :: rest)) h2 := by rw [← rwVals_cons]; exact F2
  refine rCons <| rAssign <| rMethod <| rLocal F2' m1 <| rGetM PySem.F.slot_list_pop PySem.F.type_list_pop (F2'.at (x := .lst _) (by simp; exact .inl rfl)) <| rPop F2' (by rw [rwVals_len]; simp only [List.length_cons] at hsz ⊢; omega) fun h3 F3 => ?_
  refine rStore F3 fun h4 F4 => ?_
  have hr0 := hrs r0 (by simp)
  have hr1 := hrs r1 (by simp)
  have e1 : up m (Str.ofString "row") (.ref r0.la) (Str.ofString "stack") = some (.ref stk) := (up_ne (by decide)).trans m1
  have e2 : up m (Str.ofString "row") (.ref r0.la) (Str.ofString "below") = some (.bool b) := (up_ne (by decide)).trans m2
  have e3 : up m (Str.ofString "row") (.ref r0.la) (Str.ofString "kind") = some (.int kk t1) := (up_ne (by decide)).trans m3
  have e4 : up m (Str.ofString "row") (.ref r0.la) (Str.ofString "row") = some (.ref r0.la) := up_same
  generalize up m (Str.ofString "row") (.ref r0.la) = m4s at F4 e1 e2 e3 e4
  clear F2 F2' F3
  have F4' : Lc w g L m4s ((r0.la, .lst r0.vs) :: ([(I, .raw o), (stk, .lst (rwVals (r1 :: rest)))] ++ (r1.la, .lst r1.vs) :: rwMu rest)) h4 := F4.perm (by
    show List.Perm ([(I, MO.raw o), (stk, .lst (rwVals (r1 :: rest)))] ++ (r0.la, MO.lst r0.vs) :: ((r1.la, MO.lst r1.vs) :: rwMu rest)) _
    exact List.perm_middle)
  have hs4 : h4.PlainList stk (rwVals (r1 :: rest)).toArray := F4.at (x := .lst (rwVals (r1 :: rest))) (by simp)
  have hl0 : h4.PlainList r0.la r0.vs.toArray := F4.at (x := .lst r0.vs) (by simp [rwMu])
  have hl1 : h4.PlainList r1.la r1.vs.toArray := F4.at (x := .lst r1.vs) (by simp [rwMu])
  have hv0 := hvs r0 (by simp)
  have hv1 := hvs r1 (by simp)
  have fin : ∀ {g' h' m' : _} {v : Value} {t : T}, Sub g g' → Rep N g' t v → st' = (r1.ts ++ [t]) :: rwPlain rest → b' = b → m' (Str.ofString "stack") = some (.ref stk) → m' (Str.ofString "below") = some (.bool b) →
      Lc w g' L m' ([(I, .raw o), (stk, .lst (rwVals (r1 :: rest)))] ++ (r1.la, .lst (r1.vs ++ [v])) :: rwMu rest) h' → Q .next h' := by
    intro g' h' m' v t sg hrep e5 e6 e7 e8 F5
    subst e5 e6
    refine k h' g' m' ({ r1 with vs := r1.vs ++ [v], ts := r1.ts ++ [t] } :: rest) sg ?_ rfl e7 e8 ?_
    · intro r hr
      rcases List.mem_cons.mp hr with rfl | hr
      · exact Reps.snoc _ _ _ _ (hr1.sub sg) hrep
      · exact (hrs r (by simp [hr])).sub sg
    · rw [rwVals_cons]; rw [rwVals_cons] at F5; exact F5
  have hst3 : (kk = 8 ∧ st' = (r1.ts ++ [.tt r0.ts]) :: rwPlain rest ∧ b' = b) ∨ (kk = 10 ∧ st' = (r1.ts ++ [.ll r0.ts]) :: rwPlain rest ∧ b' = b) ∨ (kk = 26 ∧ ∃ xs, r0.ts = inter 0 xs ∧ st' = (r1.ts ++ [.dd xs]) :: rwPlain rest ∧ b' = b) := by
    have hpl' : r0.ts :: r1.ts :: rwPlain rest = pl := hpl
    cases hst with
    | opens hk => rw [hk] at c1; cases c1
    | tup =>
      injection hpl' with z1 z2
      injection z2 with z2 z3
      subst z1 z2 z3
      exact .inl ⟨rfl, rfl, rfl⟩
    | lst =>
      injection hpl' with z1 z2
      injection z2 with z2 z3
      subst z1 z2 z3
      exact .inr (.inl ⟨rfl, rfl, rfl⟩)
    | dct =>
      injection hpl' with z1 z2
      injection z2 with z2 z3
      subst z2 z3
      exact .inr (.inr ⟨rfl, _, z1, rfl, rfl⟩)
    | skip hk => rcases hk with rfl | rfl <;> simp at c2
    | _ => simp at c2
  have hx1 : ∀ {env : Env} {P : Value → Heap → Prop} {p1 p2 p3 p4 : Pos} {kd : Nat}, env.locals = L → env.scope.kind = .function → env.kindOf (Str.ofString "stack") = some .local → P (.ref r1.la) h4 →
      Run prog w A (eval (.Subscript (.Name (Str.ofString "stack") p1) (.UnaryOp .USub (.Constant (.int 1) kd p2) p3) p4) env) h4 P := fun l1 l2 l3 q =>
    rSub <| rLocal F4 e1 (rUn <| rInt fun t9 => rNegI fun t10 => rItemLast (xs := rwVals rest) (x := .ref r1.la) (by rw [← rwVals_cons]; exact hs4.isList) q) l1 l2 l3
  refine rCons <| rIf <| rTestCmp <| rLocal F4 e3 <| rG F4.wdh g4 <| rEqI <| rTruthBool ?_
  rcases hst3 with ⟨rfl, z1, z2⟩ | ⟨rfl, z1, z2⟩ | ⟨rfl, xs, z0, z1, z2⟩
  · refine ifT <| rCons <| rExpr <| rMethod <| hx1 rfl rfl rfl <| rGetM PySem.F.slot_list_append PySem.F.type_list_append hl1 <| rCallM <| rItems <| rCall <| rB F4.wdh b_tuple <| rCallT <| rItems <| rLocal F4 e4 <| rItemsNil <| rTupleOf hl0.isList (by omega) fun a5 h5 n5 p5 => rItemsNil ?_
    obtain ⟨g', F5, sg, hrep⟩ := closed_rep (k := 1) F4' hr0 hN n5.sub (show ClosedIs h4 h5 r0.la r0.vs 1 (.ref a5) from ⟨a5, rfl, n5.none, p5⟩)
    refine read_append F5 hv1 fun h6 F6 => rNil <| rNil ?_
    exact fin sg hrep z1 z2 e1 e2 F6
  · refine ifF <| rCons <| rIf <| rTestCmp <| rLocal F4 e3 <| rG F4.wdh g5 <| rEqI <| rTruthBool ?_
    refine ifT <| rCons <| rExpr <| rMethod <| hx1 rfl rfl rfl <| rGetM PySem.F.slot_list_append PySem.F.type_list_append hl1 <| rCallM <| rItems <| rLocal F4 e4 <| rItemsNil ?_
    obtain ⟨g', F5, sg, hrep⟩ := closed_rep (k := 0) F4' hr0 hN (Sub.refl _) (show ClosedIs h4 h4 r0.la r0.vs 0 (.ref r0.la) from rfl)
    refine read_append F5 hv1 fun h6 F6 => rNil <| rNil <| rNil ?_
    exact fin sg hrep z1 z2 e1 e2 F6
  · refine ifF <| rCons <| rIf <| rTestCmp <| rLocal F4 e3 <| rG F4.wdh g5 <| rEqI <| rTruthBool ?_
    rw [z0] at hr0
    obtain ⟨us, ws, hw, hu1, hw1, hu, hrw⟩ := reps_inter xs 0 _ hr0
    have hlen : us.length = ws.length := by omega
    have hwl := weave_len us ws hlen
    rw [← hw] at hwl
    refine ifF <| rCons <| rExpr <| rMethod <| hx1 rfl rfl rfl <| rGetM PySem.F.slot_list_append PySem.F.type_list_append hl1 <| rCallM <| rItems <| rCall <| rB F4.wdh b_dict <| rCallT <| rItems <| rCall <| rB F4.wdh b_zip <| rCallT <| rItems <|
      rSub <| rLocal F4 e4 <| rSliceE <| rPartN <| rPartN <| rPartS <| rInt fun u1 => ?_
    refine rSliceL (hl0.at fun o e => Heap.get?_push_of_some _ e) ⟨_, Heap.get?_push_size _ rfl, rfl, rfl⟩ .none .none (.int 2 u1) (by simp) (by omega) fun a5 h5 n5 p5 => ?_
    have F5 := F4'.grow ((Sub.push _ _).trans n5.sub)
    have hl05 : h5.PlainList r0.la r0.vs.toArray := F5.at (x := .lst r0.vs) (by simp)
    refine rItems <| rSub <| rLocal F5 e4 <| rSliceE <| rPartS <| rInt fun u2 => rPartN <| rPartS <| rInt fun u3 => ?_
    refine rSliceL (hl05.at fun o e => Heap.get?_push_of_some _ e) ⟨_, Heap.get?_push_size _ rfl, rfl, rfl⟩ (.int 1 u2) .none (.int 2 u3) (by simp) (by omega) fun a6 h6 n6 p6 => rItemsNil ?_
    rw [hw, slice_even hlen] at p5
    rw [hw, slice_odd hlen] at p6
    have s56 : Sub h5 h6 := (Sub.push _ _).trans n6.sub
    refine (rDictZip hA (p5.isList.at fun o e => s56 _ _ e) p6.isList hlen (by omega) (fun j hj => ?_) fun a7 h7 s7 n7 d7 => ?_).mono fun z h₁ q => rItemsNil q
    · obtain ⟨t, ht⟩ := hu j (by omega)
      exact ⟨t, by simpa using ht⟩
    · have F6 := F5.grow s56
      obtain ⟨g', F7, sg, hg⟩ := F6.drop.ext s7
      refine rItemsNil <| read_append F7 hv1 fun h8 F8 => rNil <| rNil <| rNil ?_
      refine fin (t := .dd xs) sg ?_ z1 z2 e1 e2 F8
      simp only [Rep]
      refine ⟨a7, ws, rfl, hN _ (none_up n7 F6.sub), ?_, hrw.sub sg⟩
      intro prog w
      obtain ⟨o, es, ep, y1, y2⟩ := d7 prog w
      exact ⟨o, es, ep, hg _ _ n7 y1, y2⟩

theorem read_leaf {h2 : Heap} {rs : List Row} {kk : Int} {x : List Nat} {t1 t2 : Tok} {b b' : Bool} {st' : List (List T)} (hA : A.handled = none) (F2 : Lc w g L m ((I, .raw o) :: (stk, .lst (rwVals rs)) :: rwMu rs) h2) (hrs : ∀ r ∈ rs, Reps N g r.ts r.vs) (hN : ∀ a, g.get? a = none → N a)
    (m1 : m (Str.ofString "stack") = some (.ref stk)) (m2 : m (Str.ofString "below") = some (.bool b)) (m3 : m (Str.ofString "kind") = some (.int kk t1)) (m4 : m (Str.ofString "word") = some (.str (txt x) t2))
    (hsz : rs.length ≤ 10000) (hvs : ∀ r ∈ rs, r.vs.length ≤ 10000) (c1 : [7, 9, 25].contains kk = false) (c2 : [8, 10, 26].contains kk = false) (hst : RStep (rwPlain rs) b kk x st' b')
    (k : ∀ h' g' m' rs', Sub g g' → (∀ r ∈ rs', Reps N g' r.ts r.vs) → rwPlain rs' = st' → m' (Str.ofString "stack") = some (.ref stk) → m' (Str.ofString "below") = some (.bool b') → Lc w g' L m' ((I, .raw o) :: (stk, .lst (rwVals rs')) :: rwMu rs') h' → Q .next h') :
    Run prog w A (execs bR3 (envR L)) h2 Q := by
  have hz : sizeLine = 16777216 := rfl
  generalize hpl : rwPlain rs = pl at hst
  obtain ⟨q7, g7⟩ := g_minus
  obtain ⟨q8, g8⟩ := g_number
  obtain ⟨q9, g9⟩ := g_name
  have hs2 : h2.PlainList stk (rwVals rs).toArray := F2.at (x := .lst (rwVals rs)) (by simp)
  refine rCons <| rIf <| rTestCmp <| rLocal F2 m3 <| rG F2.wdh g7 <| rEqI <| rTruthBool ?_
  have leafy : ∀ {r0 : Row} {rest : List Row} {h' : Heap} {v : Value} {t : T} {m' : Str → Option Value} {g' : Heap}, rs = r0 :: rest → Sub g g' → Rep N g' t v → st' = (r0.ts ++ [t]) :: rwPlain rest → m' (Str.ofString "stack") = some (.ref stk) → m' (Str.ofString "below") = some (.bool b') →
      Lc w g' L m' ([(I, .raw o), (stk, .lst (rwVals (r0 :: rest)))] ++ (r0.la, .lst (r0.vs ++ [v])) :: rwMu rest) h' → Q .next h' := by
    intro r0 rest h' v t m' g' hrs0 sg hrep e5 e7 e8 F5
    subst hrs0 e5
    refine k h' g' m' ({ r0 with vs := r0.vs ++ [v], ts := r0.ts ++ [t] } :: rest) sg ?_ rfl e7 e8 ?_
    · intro r hr
      rcases List.mem_cons.mp hr with rfl | hr
      · exact Reps.snoc _ _ _ _ ((hrs r0 (by simp)).sub sg) hrep
      · exact (hrs r (by simp [hr])).sub sg
    · rw [rwVals_cons]; rw [rwVals_cons] at F5; exact F5
  cases hst with
  | opens hk => rw [hk] at c1; cases c1
  | tup => simp at c2
  | lst => simp at c2
  | dct => simp at c2
  | minus =>
    refine ifT <| rCons <| rAssign <| rBool <| rStore F2 fun h3 F3 => rNil <| rNil ?_
    exact k h3 g _ rs (Sub.refl _) hrs hpl ((up_ne (by decide)).trans m1) up_same F3
  | skip hk =>
    have hn1 : (kk == 15) = false := by rcases hk with rfl | rfl <;> rfl
    have hn2 : (kk == 2) = false := by rcases hk with rfl | rfl <;> rfl
    have hn3 : (kk == 1) = false := by rcases hk with rfl | rfl <;> rfl
    rw [hn1]
    refine ifF <| rCons <| rIf <| rTestCmp <| rLocal F2 m3 <| rG F2.wdh g8 <| rEqI <| rTruthBool ?_
    rw [hn2]
    refine ifF <| rCons <| rIf <| rTestCmp <| rLocal F2 m3 <| rG F2.wdh g9 <| rEqI <| rTruthBool ?_
    rw [hn3]
    refine ifF <| rNil <| rNil <| rNil <| rNil ?_
    exact k h2 g m rs (Sub.refl _) hrs hpl m1 m2 F2
  | @num r st _ n hn =>
    obtain ⟨r0, rest, rfl⟩ : ∃ r0 rest, rs = r0 :: rest := by
      cases rs with
      | nil => cases hpl
      | cons a b => exact ⟨a, b, rfl⟩
    injection hpl with z1 z2
    subst z1 z2
    have hl0 : h2.PlainList r0.la r0.vs.toArray := F2.at (x := .lst r0.vs) (by simp [rwMu])
    refine ifF <| rCons <| rIf <| rTestCmp <| rLocal F2 m3 <| rG F2.wdh g8 <| rEqI <| rTruthBool ?_
    refine ifT <| rCons <| rExpr <| rMethod <| rSub <| rLocal F2 m1 <| rUn <| rInt fun t9 => rNegI fun t10 => rItemLast (xs := rwVals rest) (x := .ref r0.la) (by rw [← rwVals_cons]; exact hs2.isList) <| rGetM PySem.F.slot_list_append PySem.F.type_list_append hl0 <| rCallM <| rItems <| rIfExp <| rTestVal <| rLocal F2 m2 <| rTruthBool ?_
    cases b with
    | true =>
      refine ifT <| rUn <| rCall <| rB F2.wdh b_int <| rCallT <| rItems <| rLocal F2 m4 <| rItemsNil <| rIntOf hn fun t11 => rNegI fun t12 => rItemsNil ?_
      refine read_append F2 (hvs r0 (by simp)) fun h3 F3 => rCons <| rAssign <| rBool <| rStore F3 fun h4 F4 => rNil <| rNil <| rNil ?_
      exact leafy (t := .ii (-(n : Int))) rfl (Sub.refl _) (by simp only [Rep]; exact ⟨_, rfl⟩) rfl ((up_ne (by decide)).trans m1) up_same F4
    | false =>
      refine ifF <| rCall <| rB F2.wdh b_int <| rCallT <| rItems <| rLocal F2 m4 <| rItemsNil <| rIntOf hn fun t11 => rItemsNil ?_
      refine read_append F2 (hvs r0 (by simp)) fun h3 F3 => rCons <| rAssign <| rBool <| rStore F3 fun h4 F4 => rNil <| rNil <| rNil ?_
      exact leafy (t := .ii (n : Int)) rfl (Sub.refl _) (by simp only [Rep]; exact ⟨_, rfl⟩) rfl ((up_ne (by decide)).trans m1) up_same F4
  | @none r st _ =>
    obtain ⟨r0, rest, rfl⟩ : ∃ r0 rest, rs = r0 :: rest := by
      cases rs with
      | nil => cases hpl
      | cons a b => exact ⟨a, b, rfl⟩
    injection hpl with z1 z2
    subst z1 z2
    refine ifF <| rCons <| rIf <| rTestCmp <| rLocal F2 m3 <| rG F2.wdh g8 <| rEqI <| rTruthBool ?_
    refine ifF <| rCons <| rIf <| rTestCmp <| rLocal F2 m3 <| rG F2.wdh g9 <| rEqI <| rTruthBool ?_
    refine ifT ?_
    refine read_name F2 m1 m4 (v := .none) (by decide) (hvs r0 (by simp)) fun h4 F4 => rNil <| rNil <| rNil ?_
    exact leafy (t := .nn) rfl (Sub.refl _) (by simp [Rep]) rfl m1 m2 F4
  | @true r st _ =>
    obtain ⟨r0, rest, rfl⟩ : ∃ r0 rest, rs = r0 :: rest := by
      cases rs with
      | nil => cases hpl
      | cons a b => exact ⟨a, b, rfl⟩
    injection hpl with z1 z2
    subst z1 z2
    refine ifF <| rCons <| rIf <| rTestCmp <| rLocal F2 m3 <| rG F2.wdh g8 <| rEqI <| rTruthBool ?_
    refine ifF <| rCons <| rIf <| rTestCmp <| rLocal F2 m3 <| rG F2.wdh g9 <| rEqI <| rTruthBool ?_
    refine ifT ?_
    refine read_name F2 m1 m4 (v := .bool true) (by decide) (hvs r0 (by simp)) fun h4 F4 => rNil <| rNil <| rNil ?_
    exact leafy (t := .bb true) rfl (Sub.refl _) (by simp [Rep]) rfl m1 m2 F4
  | @false r st _ =>
    obtain ⟨r0, rest, rfl⟩ : ∃ r0 rest, rs = r0 :: rest := by
      cases rs with
      | nil => cases hpl
      | cons a b => exact ⟨a, b, rfl⟩
    injection hpl with z1 z2
    subst z1 z2
    refine ifF <| rCons <| rIf <| rTestCmp <| rLocal F2 m3 <| rG F2.wdh g8 <| rEqI <| rTruthBool ?_
    refine ifF <| rCons <| rIf <| rTestCmp <| rLocal F2 m3 <| rG F2.wdh g9 <| rEqI <| rTruthBool ?_
    refine ifT ?_
    refine read_name F2 m1 m4 (v := .bool false) (by decide) (hvs r0 (by simp)) fun h4 F4 => rNil <| rNil <| rNil ?_
    exact leafy (t := .bb false) rfl (Sub.refl _) (by simp [Rep]) rfl m1 m2 F4

theorem read_turn {rs : List Row} {kk : Int} {x : List Nat} {t1 t2 : Tok} {b b' : Bool} {st' : List (List T)} (hA : A.handled = none) (F : Lc w g L m ((I, .raw o) :: (stk, .lst (rwVals rs)) :: rwMu rs) h) (hrs : ∀ r ∈ rs, Reps N g r.ts r.vs) (hN : ∀ a, g.get? a = none → N a)
    (m1 : m (Str.ofString "stack") = some (.ref stk)) (m2 : m (Str.ofString "below") = some (.bool b)) (m3 : m (Str.ofString "kind") = some (.int kk t1)) (m4 : m (Str.ofString "word") = some (.str (txt x) t2))
    (hsz : rs.length ≤ 10000) (hvs : ∀ r ∈ rs, r.vs.length ≤ 10000) (hst : RStep (rwPlain rs) b kk x st' b')
    (k : ∀ h' g' m' rs', Sub g g' → (∀ r ∈ rs', Reps N g' r.ts r.vs) → rwPlain rs' = st' → m' (Str.ofString "stack") = some (.ref stk) → m' (Str.ofString "below") = some (.bool b') → Lc w g' L m' ((I, .raw o) :: (stk, .lst (rwVals rs')) :: rwMu rs') h' → Q .next h') :
    Run prog w A (execs bRf (envR L)) h Q := by
  have hz : sizeLine = 16777216 := rfl
  generalize hpl : rwPlain rs = pl at hst
  obtain ⟨q1, g1⟩ := g_lpar
  obtain ⟨q2, g2⟩ := g_lsqb
  obtain ⟨q3, g3⟩ := g_lbrace
  obtain ⟨q4, g4⟩ := g_rpar
  obtain ⟨q5, g5⟩ := g_rsqb
  obtain ⟨q6, g6⟩ := g_rbrace
  obtain ⟨q7, g7⟩ := g_minus
  obtain ⟨q8, g8⟩ := g_number
  obtain ⟨q9, g9⟩ := g_name
  refine rCons <| rIf <| rTestCmp <| rLocal F m3 <| rNewList <| rItems <| rG F.wdh g1 <| rItems <| rG F.wdh g2 <| rItems <| rG F.wdh g3 <| rItemsNil ⟨by simp [sizeLine], fun a1 h1 n1 p1 => rInInts p1.isList ints3 <| rTruthBool ?_⟩
  have F1 := F.grow n1.sub
  clear F
  cases c1 : [7, 9, 25].contains kk with
  | true =>
    have hst' : st' = [] :: pl ∧ b' = b := by
      cases hst with
      | opens _ => exact ⟨rfl, rfl⟩
      | skip hk => rcases hk with rfl | rfl <;> simp at c1
      | _ => simp at c1
    obtain ⟨rfl, rfl⟩ := hst'
    refine ifT <| rCons <| rExpr <| rMethod <| rLocal F1 m1 <| rGetM PySem.F.slot_list_append PySem.F.type_list_append (F1.at (x := .lst (rwVals rs)) (by simp)) <| rCallM <| rItems <| rNewList <| rItemsNil ⟨by simp [sizeLine], fun la h2 n2 p2 => rItemsNil ?_⟩
    have F2 := F1.extMu (x := .lst []) n2.sub n2.none p2
    have F2' : Lc w g L m ([(I, MO.raw o)] ++ (stk, .lst (rwVals rs)) :: (la, .lst []) :: rwMu rs) h2 := F2.perm (by
      refine (List.Perm.swap _ _ _).trans (List.Perm.cons _ (List.Perm.swap _ _ _)))
    refine rAppend F2' (by rw [rwVals_len]; omega) fun h3 F3 => rNil <| rNil ?_
    refine k h3 g m (⟨la, [], []⟩ :: rs) (Sub.refl _) ?_ (by rw [← hpl]; rfl) m1 m2 ?_
    · intro r hr
      rcases List.mem_cons.mp hr with rfl | hr
      · simp [Reps]
      · exact hrs r hr
    · rw [rwVals_cons]; exact F3
  | false =>
    refine ifF <| rCons <| rIf <| rTestCmp <| rLocal F1 m3 <| rNewList <| rItems <| rG F1.wdh g4 <| rItems <| rG F1.wdh g5 <| rItems <| rG F1.wdh g6 <| rItemsNil ⟨by simp [sizeLine], fun a2 h2 n2 p2 => rInInts p2.isList ints3 <| rTruthBool ?_⟩
    have F2 := F1.grow n2.sub
    clear F1
    cases c2 : [8, 10, 26].contains kk with
    | true =>
      refine ifT <| read_close hA F2 hrs hN m1 m2 m3 m4 hsz hvs c1 c2 (hpl ▸ hst) fun h' g' m' rs' x1 x2 x3 x4 x5 x6 => rNil <| rNil <| k h' g' m' rs' x1 x2 x3 x4 x5 x6
    | false =>
      refine ifF <| read_leaf hA F2 hrs hN m1 m2 m3 m4 hsz hvs c1 c2 (hpl ▸ hst) fun h' g' m' rs' x1 x2 x3 x4 x5 x6 => rNil <| rNil <| k h' g' m' rs' x1 x2 x3 x4 x5 x6
end

end Mine

set_option Elab.async false
set_option maxRecDepth 100000
set_option maxHeartbeats 1000000
set_option linter.unusedVariables false
set_option autoImplicit false
namespace Mine

def pw : List (List T) → Nat
  | [] => 0
  | r :: st => r.length + 1 + pw st
theorem pw_step {st st' : List (List T)} {b b' : Bool} {k : Int} {x : List Nat} (h : RStep st b k x st' b') : pw st' ≤ pw st + 1 := by
  cases h <;> (try simp only [pw, List.length_append, List.length_cons, List.length_nil]) <;> omega
theorem pw_len : ∀ st : List (List T), st.length ≤ pw st
  | [] => Nat.le_refl _
  | r :: st => by have := pw_len st; simp only [pw, List.length_cons]; omega
theorem pw_mem : ∀ (st : List (List T)) (r : List T), r ∈ st → r.length + 1 ≤ pw st
  | a :: st, r, h => by
    rcases List.mem_cons.mp h with rfl | h
    · simp only [pw]; omega
    · have := pw_mem st r h; simp only [pw]; omega
  | [], r, h => by simp at h

theorem paired_get {α β : Type} {R : α → β → Prop} : ∀ {xs : List α} {ys : List β}, Paired R xs ys → ∀ (i : Nat) (x : α), xs[i]? = some x → ∃ y, ys[i]? = some y ∧ R x y
  | _, _, .nil, i, x, h => by simp at h
  | _, _, .cons (b := b) hr t, 0, x, h => by simp at h; subst h; exact ⟨b, by simp, hr⟩
  | _, _, .cons hr t, i + 1, x, h => by obtain ⟨y, h1, h2⟩ := paired_get t i x (by simpa using h); exact ⟨y, by simpa using h1, h2⟩

section
variable {prog : Program} {w : World} {A : Around} {h : Heap} {P : Value → Heap → Prop}

theorem letGo_tuple {elts : List PySem.Expr} {k : Nat} {p : Pos} {I l : Addr} {i : Nat} {v : Value} (hit : h.IsListIter I l i) : Run prog w A (letOwnedTupleGo (.Tuple elts k p) (.ref I) v) h (fun _ h' => h' = h) := by
  cases v with
  | ref T => exact fun s E e => by subst e; exact wpAny_letOwnedTupleGo_listiter hit ⟨⟨_, rfl⟩, rfl⟩
  | _ => exact Run.of_pure rfl rfl

theorem read_call {l : Addr} {vs : List Value} {ps : List Pc} {ts : List T} {bf : Bool} (hA : Room A 1) (W : Wd w h) (hl : h.PlainList l vs.toArray) (hp : Pcs h vs ps) (hlen : ps.length ≤ 5000) (hst : RSteps [[]] false ps [ts] bf)
    (k : ∀ a us h', Sub h h' → Fresh h a → h'.PlainList a us.toArray → Reps (Fresh h) h' ts us → P (.ref a) h') : Run prog w A (call (.ref 56) [.ref l]) h P := by
  have hz : sizeLine = 16777216 := rfl
  have hpl := hp.length
  refine rEnter (binds := [(Str.ofString "pieces", .ref l)]) W hA.call rfl rfl (by kernel_rfl) (fun s _ => BindsTo.of_eq rfl) (by decide) (locs rfl) fun h₁ F => ?_
  show Run prog w (A.deeper (envR h.objs.size)) (execs bR (envR h.objs.size)) h₁ _
  have hA' := hA.deeper (envR h.objs.size)
  generalize hL : h.objs.size = L at F hA' ⊢
  refine rCons <| rAssignSwap (names := [Str.ofString "stack", Str.ofString "below"]) <| rNewTuple <| rItems <| rNewList <| rItems <| rNewList <| rItemsNil ⟨by simp [sizeLine], fun la h2 n2 p2 => rItemsNil ⟨by simp [sizeLine], fun stk h3 n3 p3 => rItems <| rBool <| rItemsNil ⟨by simp [sizeLine], fun a4 h4 n4 p4 => ?_⟩⟩⟩
  refine rUnpack hA'.handled p4 fun h5 s5 => ?_
  have F2 := F.extMu (x := .lst []) n2.sub n2.none p2
  have F3 := F2.extMu (x := .lst [.ref la]) n3.sub n3.none p3
  have F5 := F3.grow (n4.sub.trans s5)
  refine rOrder <| rBind <| rStore F5 fun h6 F6 => rOrder <| rBind <| rStore F6 fun h7 F7 => rOrderNil ?_
  clear F F2 F3 F5 F6
  have hfr : ∀ g', Sub h g' → ∀ a, g'.get? a = none → Fresh h a := fun g' s a e => W.fresh (none_up e s)
  refine rCons <| rFor <| rLocal F7 rfl <| rForList hA'.handled hl.isList F7 (fun i g' m' mu' => ∃ rs b, mu' = (stk, .lst (rwVals rs)) :: rwMu rs ∧ (∀ r ∈ rs, Reps (Fresh h) g' r.ts r.vs) ∧ RSteps (rwPlain rs) b (ps.drop i) [ts] bf ∧ m' (Str.ofString "stack") = some (.ref stk) ∧ m' (Str.ofString "below") = some (.bool b) ∧ pw (rwPlain rs) ≤ i + 1)
    ⟨[⟨la, [], []⟩], false, rfl, ?_, hst, rfl, rfl, Nat.le_refl _⟩ ?_ ?_ (fun _ _ _ _ _ hit => letGo_tuple hit)
  · intro r hr
    rw [List.mem_singleton.mp hr]
    simp [Reps]
  · rintro I i x g' m' mu' h' o hx hs ⟨rs, b, rfl, hrs, hsteps, e1, e2, hw⟩ F'
    obtain ⟨p, hpi, a, t1, t2, t3, rfl, htup⟩ := paired_get hp i x hx
    have hil := (List.getElem?_eq_some_iff.mp hpi).1
    have hdr : ps.drop i = p :: ps.drop (i + 1) := by
      rw [List.drop_eq_getElem_cons hil]
      congr 1
      exact (List.getElem?_eq_some_iff.mp hpi).2
    rw [hdr] at hsteps
    generalize hpl0 : rwPlain rs = pl at hsteps
    cases hsteps with
    | @cons st st1 st2 b0 b1 b2 p0 ps0 hstep hrest =>
      subst hpl0
      refine rTargets hA'.handled ((htup.keeps hs).keeps F'.sub) fun h2 s2 => ?_
      refine rOrder <| rAssignN <| rStore (F'.grow s2) fun h3 F3 => rOrder <| rAssignN <| rStore F3 fun h4 F4 => rOrder <| rAssignN <| rStore F4 fun h5 F5 => rOrderNil ?_
      refine read_turn hA'.handled F5 hrs (hfr g' hs) ((up_ne (by decide)).trans ((up_ne (by decide)).trans ((up_ne (by decide)).trans e1))) ((up_ne (by decide)).trans ((up_ne (by decide)).trans ((up_ne (by decide)).trans e2)))
        ((up_ne (by decide)).trans ((up_ne (by decide)).trans up_same)) ((up_ne (by decide)).trans up_same) ?_ ?_ hstep fun h6 g6 m6 rs6 s6 hrs6 hpl6 y1 y2 F6 => ?_
      · have := pw_len (rwPlain rs)
        rw [show (rwPlain rs).length = rs.length by simp [rwPlain]] at this
        omega
      · intro r hr
        have h1 := pw_mem (rwPlain rs) r.ts (List.mem_map.mpr ⟨r, hr, rfl⟩)
        have h2 := (hrs r hr).length
        omega
      · refine ⟨g6, m6, _, s6, F6, rs6, b1, rfl, hrs6, by rw [hpl6]; exact hrest, y1, y2, ?_⟩
        have := pw_step hstep
        rw [hpl6]
        omega
  · rintro g' m' mu' h' hs ⟨rs, b, rfl, hrs, hsteps, e1, e2, hw⟩ F'
    rw [hpl, List.drop_length] at hsteps
    have hrs1 : rwPlain rs = [ts] := by
      generalize rwPlain rs = pl at hsteps
      cases hsteps
      rfl
    obtain ⟨r, rfl⟩ : ∃ r, rs = [r] := by
      match rs, hrs1 with
      | [r], _ => exact ⟨r, rfl⟩
    have hts : r.ts = ts := by simpa [rwPlain] using hrs1
    have hst' : h'.PlainList stk (rwVals [r]).toArray := F'.at (x := .lst (rwVals [r])) (by simp)
    have hle : h'.PlainList r.la r.vs.toArray := F'.at (x := .lst r.vs) (by simp [rwMu])
    refine rCons <| rReturn <| rSub <| rLocal F' e1 <| rInt fun t3 => rItemL (x := .ref r.la) hst'.isList (by decide) (by decide) (by simp [rwVals]) ?_
    refine k r.la r.vs h' (hs.trans F'.sub) ?_ hle ?_
    · exact hfr g' hs _ (F'.mt (r.la, .lst r.vs) (by simp [rwMu])).2.2
    · rw [← hts]
      exact (hrs r (by simp)).sub F'.sub
end

end Mine

set_option Elab.async false
set_option maxRecDepth 100000
set_option maxHeartbeats 1000000
set_option linter.unusedVariables false
set_option autoImplicit false
namespace Mine

def toks : List Seg → Nat → List Pc
  | [], _ => []
  | none :: r, i => toks r (i + 1)
  | some p :: r, i => (p.1, p.2, i) :: toks r (i + p.2.length)
theorem toks_append : ∀ (a b : List Seg) (i : Nat), toks (a ++ b) i = toks a i ++ toks b (i + (flat a).length)
  | [], b, i => by simp [toks, flat]
  | none :: r, b, i => by
    have := toks_append r b (i + 1)
    simp only [List.cons_append, toks, this, flat_cons, segW, List.length_append, List.length_cons, List.length_nil]
    congr 2
    omega
  | some p :: r, b, i => by
    have := toks_append r b (i + p.2.length)
    simp only [List.cons_append, toks, this, flat_cons, segW, List.length_append]
    congr 3
    omega
theorem toks_kinds : ∀ (ss : List Seg) (i : Nat), (toks ss i).map (·.1) = kds ss
  | [], _ => rfl
  | none :: r, i => by simpa [toks, kds] using toks_kinds r (i + 1)
  | some p :: r, i => by simpa [toks, kds] using toks_kinds r (i + p.2.length)

def sgnOk (p : Int × List Nat) : Prop := ∃ q ∈ singles, p = (q.2, [q.1])
def wdOk (p : Int × List Nat) : Prop := ∃ c x, p.2 = c :: x ∧ (∀ d ∈ p.2, d ∈ letters) ∧ p.1 = if isDig c then 2 else 1
def starts : List Seg → Prop
  | some p :: _ => sgnOk p
  | _ => True
def WF : List Seg → Prop
  | [] => True
  | none :: r => WF r
  | some p :: r => (sgnOk p ∨ (wdOk p ∧ starts r)) ∧ WF r

theorem letters_plain : ∀ c ∈ letters, c ≠ 32 ∧ c ≠ 61 ∧ c ≠ 62 := by decide
theorem singles_plain : ∀ q ∈ singles, q.1 ≠ 32 ∧ q.1 ≠ 61 ∧ q.1 ≠ 62 := by decide
theorem flat_head (ss : List Seg) (h : WF ss) (c : Nat) (r : List Nat) (e : flat ss = c :: r) : c ≠ 61 ∧ c ≠ 62 := by
  match ss, h, e with
  | [], _, e => simp [flat] at e
  | none :: s, _, e =>
    simp only [flat_cons, segW, List.cons_append] at e
    injection e with e _
    subst e
    decide
  | some p :: s, h, e =>
    simp only [flat_cons, segW] at e
    rcases h.1 with ⟨q, hq, rfl⟩ | ⟨⟨c', x, hp, hl, _⟩, _⟩
    · simp only [List.cons_append] at e
      injection e with e _
      subst e
      exact (singles_plain q hq).2
    · rw [hp, List.cons_append] at e
      injection e with e _
      subst e
      exact (letters_plain _ (hl _ (by rw [hp]; simp))).2

theorem lex_nil {f : List Nat → Option Int} {i : Nat} {ts : List Pc} (h : Lex f [] i ts) : ts = [] := by cases h; rfl

/-- a text that begins as a text may begin behind a piece -/
def Next (f : List Nat → Option Int) (tl : List Nat) : Prop := ∀ d r, tl = d :: r → ((f [d]).isSome = true ∨ d = 32) ∧ d ≠ 61 ∧ d ≠ 62

theorem lex_flat {f : List Nat → Option Int} (hf : TF f) (tl : List Nat) (ts : List Pc) (hn : Next f tl) : ∀ (ss : List Seg) (i : Nat), WF ss → Lex f tl (i + (flat ss).length) ts → Lex f (flat ss ++ tl) i (toks ss i ++ ts)
  | [], i, _, hl => by simpa [flat, toks] using hl
  | none :: r, i, h, hl => by
    have ih := lex_flat hf tl ts hn r (i + 1) h (by
      simp only [flat_cons, segW, List.length_append, List.length_cons, List.length_nil] at hl
      rw [show i + 1 + (flat r).length = i + (0 + 1 + (flat r).length) by omega]; exact hl)
    simp only [flat_cons, segW, toks, List.cons_append, List.nil_append]
    exact .blank hf.blank ih
  | some p :: r, i, h, hl => by
    have ih := lex_flat hf tl ts hn r (i + p.2.length) h.2 (by
      simp only [flat_cons, segW, List.length_append] at hl
      rw [show i + p.2.length + (flat r).length = i + (p.2.length + (flat r).length) by omega]; exact hl)
    have hhead : ∀ c2 rr, flat r ++ tl = c2 :: rr → c2 ≠ 61 ∧ c2 ≠ 62 := by
      intro c2 rr e
      cases hfr : flat r with
      | nil => rw [hfr, List.nil_append] at e; exact (hn _ _ e).2
      | cons a b => rw [hfr, List.cons_append] at e; injection e with e _; subst e; exact flat_head r h.2 _ _ hfr
    rcases h.1 with ⟨q, hq, rfl⟩ | ⟨⟨c, x, hp, hlet, hk⟩, hs⟩
    · simp only [flat_cons, segW, toks, List.cons_append, List.nil_append, List.length_cons, List.length_nil] at ih ⊢
      have h1 := hf.one q hq
      cases hfr : flat r ++ tl with
      | nil =>
        rw [hfr] at ih
        have e := lex_nil ih
        rw [e]
        exact .sign (n := 3) (by rw [h1]; rfl) (by simp) (by simpa using h1) (fun j hj _ => by simp only [List.mem_cons, List.not_mem_nil, or_false] at hj; omega) (.nil _)
      | cons c2 rr =>
        obtain ⟨d1, d2⟩ := hhead c2 rr hfr
        refine .sign (n := 1) (by rw [h1]; rfl) (by simp) (by simpa using h1) (fun j hj hsome => ?_) (by rw [← hfr]; simpa using ih)
        simp only [List.mem_cons, List.not_mem_nil, or_false] at hj
        rcases hj with rfl | rfl | rfl
        · exact Nat.le_refl _
        · rw [show (q.1 :: c2 :: rr).take 2 = q.1 :: c2 :: [] from rfl, hf.two q hq c2 [] d1 d2] at hsome
          cases hsome
        · rw [show (q.1 :: c2 :: rr).take 3 = q.1 :: c2 :: rr.take 1 from rfl, hf.two q hq c2 _ d1 d2] at hsome
          cases hsome
    · obtain ⟨pk, pw⟩ := p
      simp only at hp hk hlet
      subst hp
      subst hk
      simp only [flat_cons, segW, toks, List.append_assoc]
      have hc := hlet c (by simp)
      refine Lex.word (w := x) (r := flat r ++ tl) (hf.wd c hc) (letters_plain c hc).1 (fun d hd => ⟨hf.wd d (hlet d (by simp [hd])), (letters_plain d (hlet d (by simp [hd]))).1⟩) ?_ ?_
      · intro d rr e
        cases r with
        | nil => simp only [flat_nil, List.nil_append] at e; exact (hn _ _ e).1
        | cons s r' =>
          cases s with
          | none => simp only [flat_cons, segW, List.cons_append] at e; injection e with e _; exact .inr e.symm
          | some p' =>
            obtain ⟨q, hq, rfl⟩ : sgnOk p' := hs
            simp only [flat_cons, segW, List.cons_append] at e
            injection e with e _
            subst e
            exact .inl (by rw [hf.one q hq]; rfl)
      · simp only [List.length_cons] at ih
        rw [show i + 1 + x.length = i + (x.length + 1) by omega]
        exact ih

-- the segments of a thing are fit to be cut
theorem sgn_of {k : Int} {c : Nat} (h : (c, k) ∈ singles) : sgnOk (k, [c]) := ⟨(c, k), h, rfl⟩
theorem digit_letters : ∀ c : Nat, 48 ≤ c → c ≤ 57 → c ∈ letters ∧ isDig c = true := by
  intro c h1 h2
  have : c = 48 ∨ c = 49 ∨ c = 50 ∨ c = 51 ∨ c = 52 ∨ c = 53 ∨ c = 54 ∨ c = 55 ∨ c = 56 ∨ c = 57 := by omega
  rcases this with rfl | rfl | rfl | rfl | rfl | rfl | rfl | rfl | rfl | rfl <;> exact ⟨by decide, by decide +kernel⟩
theorem dg_digits (n : Nat) : ∀ c ∈ dg n, 48 ≤ c ∧ c ≤ 57 := by
  intro c hc
  obtain ⟨ch, hch, rfl⟩ := List.mem_map.mp hc
  have := Nat.isDigit_of_mem_toDigits (b := 10) (by decide) (by decide) hch
  exact digit_range this
theorem wd_dg (n : Nat) : wdOk (2, dg n) := by
  obtain ⟨c, x, e⟩ : ∃ c x, dg n = c :: x := by
    cases e : dg n with
    | nil => have := dg_pos n; rw [e] at this; simp at this
    | cons c x => exact ⟨c, x, rfl⟩
  have hc := dg_digits n
  refine ⟨c, x, e, fun d hd => (digit_letters d (hc d hd).1 (hc d hd).2).1, ?_⟩
  have := hc c (by rw [e]; simp)
  rw [(digit_letters c this.1 this.2).2]
  rfl
theorem wf_sgI (i : Int) (r : List Seg) (h : WF r) (hs : starts r) : WF (sgI i ++ r) := by
  unfold sgI
  split
  · exact ⟨.inl (sgn_of (by decide)), .inr ⟨wd_dg _, hs⟩, h⟩
  · exact ⟨.inr ⟨wd_dg _, hs⟩, h⟩
theorem wd_none : wdOk (1, [78, 111, 110, 101]) := ⟨78, [111, 110, 101], rfl, by decide, by decide +kernel⟩
theorem wd_true : wdOk (1, [84, 114, 117, 101]) := ⟨84, [114, 117, 101], rfl, by decide, by decide +kernel⟩
theorem wd_false : wdOk (1, [70, 97, 108, 115, 101]) := ⟨70, [97, 108, 115, 101], rfl, by decide, by decide +kernel⟩
mutual
theorem wf_sgs : ∀ (t : T) (r : List Seg), WF r → starts r → WF (sgs t ++ r)
  | .nn, r, h, hs => ⟨.inr ⟨wd_none, hs⟩, h⟩
  | .bb true, r, h, hs => ⟨.inr ⟨wd_true, hs⟩, h⟩
  | .bb false, r, h, hs => ⟨.inr ⟨wd_false, hs⟩, h⟩
  | .ii i, r, h, hs => by simp only [sgs]; exact wf_sgI i r h hs
  | .ll xs, r, h, hs => by
    have hr : WF (some (10, [93]) :: r) := ⟨.inl (sgn_of (by decide)), h⟩
    have := wf_sgL2 xs (some (10, [93]) :: r) hr (sgn_of (by decide))
    simp only [sgs, List.append_assoc, List.cons_append, List.nil_append]
    exact ⟨.inl (sgn_of (by decide)), this⟩
  | .tt xs, r, h, hs => by
    have hr : WF (some (8, [41]) :: r) := ⟨.inl (sgn_of (by decide)), h⟩
    simp only [sgs, List.append_assoc, List.cons_append, List.nil_append]
    split
    · have := wf_sgL2 xs (some (12, [44]) :: some (8, [41]) :: r) ⟨.inl (sgn_of (by decide)), hr⟩ (sgn_of (by decide))
      exact ⟨.inl (sgn_of (by decide)), this⟩
    · have := wf_sgL2 xs (some (8, [41]) :: r) hr (sgn_of (by decide))
      exact ⟨.inl (sgn_of (by decide)), this⟩
  | .dd xs, r, h, hs => by
    have hr : WF (some (26, [125]) :: r) := ⟨.inl (sgn_of (by decide)), h⟩
    have := wf_sgD2 0 xs (some (26, [125]) :: r) hr (sgn_of (by decide))
    simp only [sgs, List.append_assoc, List.cons_append, List.nil_append]
    exact ⟨.inl (sgn_of (by decide)), this⟩
theorem wf_sgL : ∀ (xs : List T) (r : List Seg), WF r → starts r → WF (sgL xs ++ r) ∧ starts (sgL xs ++ r)
  | [], r, h, hs => ⟨by simpa [sgL] using h, by simpa [sgL] using hs⟩
  | x :: xs, r, h, hs => by
    obtain ⟨i1, i2⟩ := wf_sgL xs r h hs
    have := wf_sgs x (sgL xs ++ r) i1 i2
    simp only [sgL, sep, List.append_assoc, List.cons_append, List.nil_append]
    exact ⟨⟨.inl (sgn_of (by decide)), this⟩, sgn_of (by decide)⟩
theorem wf_sgL2 : ∀ (xs : List T) (r : List Seg), WF r → starts r → WF ((sgL xs).drop 2 ++ r)
  | [], r, h, hs => by simpa [sgL] using h
  | x :: xs, r, h, hs => by
    obtain ⟨i1, i2⟩ := wf_sgL xs r h hs
    have := wf_sgs x (sgL xs ++ r) i1 i2
    simpa [sgL, sep, List.append_assoc] using this
theorem wf_sgD : ∀ (k : Nat) (xs : List T) (r : List Seg), WF r → starts r → WF (sgD k xs ++ r) ∧ starts (sgD k xs ++ r)
  | _, [], r, h, hs => ⟨by simpa [sgD] using h, by simpa [sgD] using hs⟩
  | k, x :: xs, r, h, hs => by
    obtain ⟨i1, i2⟩ := wf_sgD (k + 1) xs r h hs
    have h1 := wf_sgs x (sgD (k + 1) xs ++ r) i1 i2
    have h2 : WF (some (11, [58]) :: none :: (sgs x ++ (sgD (k + 1) xs ++ r))) := ⟨.inl (sgn_of (by decide)), h1⟩
    have h3 := wf_sgI (-(k : Int)) _ h2 (sgn_of (by decide))
    simp only [sgD, sep, List.append_assoc, List.cons_append, List.nil_append]
    exact ⟨⟨.inl (sgn_of (by decide)), h3⟩, sgn_of (by decide)⟩
theorem wf_sgD2 : ∀ (k : Nat) (xs : List T) (r : List Seg), WF r → starts r → WF ((sgD k xs).drop 2 ++ r)
  | _, [], r, h, hs => by simpa [sgD] using h
  | k, x :: xs, r, h, hs => by
    obtain ⟨i1, i2⟩ := wf_sgD (k + 1) xs r h hs
    have h1 := wf_sgs x (sgD (k + 1) xs ++ r) i1 i2
    have h2 : WF (some (11, [58]) :: none :: (sgs x ++ (sgD (k + 1) xs ++ r))) := ⟨.inl (sgn_of (by decide)), h1⟩
    have h3 := wf_sgI (-(k : Int)) _ h2 (sgn_of (by decide))
    simpa [sgD, sep, List.append_assoc] using h3
end
theorem wf_thing (t : T) : WF (sgs t) := by simpa using wf_sgs t [] trivial trivial
theorem lex_thing {f : List Nat → Option Int} (hf : TF f) (t : T) : Lex f (flat (sgs t)) 0 (toks (sgs t) 0) := by
  have := lex_flat hf [] [] (fun d r e => by simp at e) (sgs t) 0 (wf_thing t) (.nil _)
  simpa using this

-- the reading
section
variable {fin : List (List T)} {bf : Bool}
theorem rd_sgI (i : Int) (hi : i.natAbs < 10000000000) (row : List T) (st : List (List T)) (j : Nat) (rest : List Pc) (h : RSteps ((row ++ [.ii i]) :: st) false rest fin bf) : RSteps (row :: st) false (toks (sgI i) j ++ rest) fin bf := by
  unfold sgI
  split
  · rename_i hneg
    have e : (.ii i : T) = .ii (if true then -((i.natAbs : Nat) : Int) else (i.natAbs : Nat)) := by rw [if_pos rfl]; congr 1; omega
    rw [e] at h
    exact .cons .minus (.cons (.num hi) h)
  · rename_i hneg
    have e : (.ii i : T) = .ii (if false then -((i.natAbs : Nat) : Int) else (i.natAbs : Nat)) := by rw [if_neg (by simp)]; congr 1; omega
    rw [e] at h
    exact .cons (.num hi) h
mutual
theorem rd_sgs : ∀ (t : T), small t → sz t ≤ 1000 → ∀ (row : List T) (st : List (List T)) (j : Nat) (rest : List Pc), RSteps ((row ++ [t]) :: st) false rest fin bf → RSteps (row :: st) false (toks (sgs t) j ++ rest) fin bf
  | .nn, _, _, row, st, j, rest, h => .cons .none h
  | .bb true, _, _, row, st, j, rest, h => .cons .true h
  | .bb false, _, _, row, st, j, rest, h => .cons .false h
  | .ii i, hs, _, row, st, j, rest, h => by
    simp only [sgs]
    exact rd_sgI i (by simp only [small] at hs; omega) row st j rest h
  | .ll xs, hs, hz, row, st, j, rest, h => by
    simp only [small] at hs
    simp only [sz] at hz
    simp only [sgs, List.append_assoc, List.cons_append, List.nil_append, toks, toks_append]
    refine .cons (.opens rfl) ?_
    refine rd_sgL2 xs hs (by omega) [] (row :: st) _ _ ?_
    exact .cons (.lst) h
  | .tt xs, hs, hz, row, st, j, rest, h => by
    simp only [small] at hs
    simp only [sz] at hz
    simp only [sgs, List.append_assoc, List.cons_append, List.nil_append, toks, toks_append]
    refine .cons (.opens rfl) ?_
    refine rd_sgL2 xs hs (by omega) [] (row :: st) _ _ ?_
    split
    · exact .cons (.skip (.inr rfl)) (.cons .tup h)
    · exact .cons .tup h
  | .dd xs, hs, hz, row, st, j, rest, h => by
    simp only [small] at hs
    simp only [sz] at hz
    simp only [sgs, List.append_assoc, List.cons_append, List.nil_append, toks, toks_append]
    refine .cons (.opens rfl) ?_
    refine rd_sgD2 0 xs hs (by omega) [] (row :: st) _ _ ?_
    exact .cons .dct h
termination_by structural t => t
theorem rd_sgL : ∀ (xs : List T), smalls xs → szs xs ≤ 1000 → ∀ (row : List T) (st : List (List T)) (j : Nat) (rest : List Pc), RSteps ((row ++ xs) :: st) false rest fin bf → RSteps (row :: st) false (toks (sgL xs) j ++ rest) fin bf
  | [], _, _, row, st, j, rest, h => by simpa [sgL, toks] using h
  | x :: xs, hs, hz, row, st, j, rest, h => by
    simp only [szs] at hz
    simp only [sgL, sep, List.append_assoc, List.cons_append, List.nil_append, toks, toks_append]
    refine .cons (.skip (.inr rfl)) ?_
    refine rd_sgs x hs.1 (by omega) row st _ _ ?_
    refine rd_sgL xs hs.2 (by omega) _ st _ _ ?_
    simpa using h
termination_by structural xs => xs
theorem rd_sgL2 : ∀ (xs : List T), smalls xs → szs xs ≤ 1000 → ∀ (row : List T) (st : List (List T)) (j : Nat) (rest : List Pc), RSteps ((row ++ xs) :: st) false rest fin bf → RSteps (row :: st) false (toks ((sgL xs).drop 2) j ++ rest) fin bf
  | [], _, _, row, st, j, rest, h => by simpa [sgL, toks] using h
  | x :: xs, hs, hz, row, st, j, rest, h => by
    simp only [szs] at hz
    have e : (sgL (x :: xs)).drop 2 = sgs x ++ sgL xs := by simp [sgL, sep]
    rw [e, toks_append, List.append_assoc]
    refine rd_sgs x hs.1 (by omega) row st _ _ ?_
    refine rd_sgL xs hs.2 (by omega) _ st _ _ ?_
    simpa using h
termination_by structural xs => xs
theorem rd_sgD : ∀ (k : Nat) (xs : List T), smalls xs → k + szs xs ≤ 1000 → ∀ (row : List T) (st : List (List T)) (j : Nat) (rest : List Pc), RSteps ((row ++ inter k xs) :: st) false rest fin bf → RSteps (row :: st) false (toks (sgD k xs) j ++ rest) fin bf
  | _, [], _, _, row, st, j, rest, h => by simpa [sgD, toks, inter] using h
  | k, x :: xs, hs, hz, row, st, j, rest, h => by
    simp only [szs] at hz
    have hp := sz_pos x
    simp only [sgD, sep, List.append_assoc, List.cons_append, List.nil_append, toks, toks_append]
    refine .cons (.skip (.inr rfl)) ?_
    refine rd_sgI (-(k : Int)) (by omega) row st _ _ ?_
    refine .cons (.skip (.inl rfl)) ?_
    refine rd_sgs x hs.1 (by omega) _ st _ _ ?_
    refine rd_sgD (k + 1) xs hs.2 (by omega) _ st _ _ ?_
    simpa [inter] using h
termination_by structural _ xs => xs
theorem rd_sgD2 : ∀ (k : Nat) (xs : List T), smalls xs → k + szs xs ≤ 1000 → ∀ (row : List T) (st : List (List T)) (j : Nat) (rest : List Pc), RSteps ((row ++ inter k xs) :: st) false rest fin bf → RSteps (row :: st) false (toks ((sgD k xs).drop 2) j ++ rest) fin bf
  | _, [], _, _, row, st, j, rest, h => by simpa [sgD, toks, inter] using h
  | k, x :: xs, hs, hz, row, st, j, rest, h => by
    simp only [szs] at hz
    have hp := sz_pos x
    have e : (sgD k (x :: xs)).drop 2 = sgI (-(k : Int)) ++ (some (11, [58]) :: none :: (sgs x ++ sgD (k + 1) xs)) := by simp [sgD, sep]
    rw [e]
    simp only [toks_append, toks, List.append_assoc, List.cons_append]
    refine rd_sgI (-(k : Int)) (by omega) row st _ _ ?_
    refine .cons (.skip (.inl rfl)) ?_
    refine rd_sgs x hs.1 (by omega) _ st _ _ ?_
    refine rd_sgD (k + 1) xs hs.2 (by omega) _ st _ _ ?_
    simpa [inter] using h
termination_by structural _ xs => xs
end
end
theorem rd_thing (t : T) (hs : small t) (hz : sz t ≤ 1000) : RSteps [[]] false (toks (sgs t) 0) [[t]] false := by
  have := rd_sgs (fin := [[t]]) (bf := false) t hs hz [] [] 0 [] .nil
  simpa using this

end Mine

set_option Elab.async false
set_option maxRecDepth 100000
set_option maxHeartbeats 1000000
set_option linter.unusedVariables false
set_option autoImplicit false
namespace Mine

/-- the first n signs of a text, in segments -/
def cutS : Nat → List Seg → List Seg
  | 0, _ => []
  | _, [] => []
  | n + 1, none :: r => none :: cutS n r
  | n + 1, some p :: r => some (p.1, p.2.take (n + 1)) :: cutS (n + 1 - p.2.length) r
theorem cutS_zero (ss : List Seg) : cutS 0 ss = [] := by cases ss <;> rfl
theorem cutS_nil (n : Nat) : cutS n [] = [] := by cases n <;> rfl
theorem flat_cut : ∀ (ss : List Seg) (n : Nat), flat (cutS n ss) = (flat ss).take n
  | [], n => by rw [cutS_nil]; simp [flat]
  | s :: r, 0 => by rw [cutS_zero]; simp [flat]
  | none :: r, n + 1 => by simp only [cutS, flat_cons, segW, flat_cut r n, List.cons_append, List.nil_append, List.take_succ_cons]
  | some p :: r, n + 1 => by
    simp only [cutS, flat_cons, segW, flat_cut r (n + 1 - p.2.length)]
    rw [List.take_append]
theorem cutS_all : ∀ (ss : List Seg) (n : Nat), (flat ss).length ≤ n → WF ss → cutS n ss = ss
  | [], n, _, _ => cutS_nil n
  | none :: r, 0, h, _ => by simp [flat_cons, segW] at h
  | some p :: r, 0, h, hw => by
    have : 0 < p.2.length := by
      rcases hw.1 with ⟨q, _, rfl⟩ | ⟨⟨c, x, hp, _⟩, _⟩
      · simp
      · rw [hp]; simp
    simp only [flat_cons, segW, List.length_append] at h
    omega
  | none :: r, n + 1, h, hw => by
    simp only [flat_cons, segW, List.length_append, List.length_cons, List.length_nil] at h
    simp only [cutS, cutS_all r n (by omega) hw]
  | some p :: r, n + 1, h, hw => by
    simp only [flat_cons, segW, List.length_append] at h
    simp only [cutS, cutS_all r (n + 1 - p.2.length) (by omega) hw.2]
    rw [List.take_of_length_le (by omega)]
theorem cut_starts : ∀ (r : List Seg) (n : Nat), starts r → starts (cutS n r)
  | [], n, _ => by rw [cutS_nil]; trivial
  | s :: r, 0, _ => by rw [cutS_zero]; trivial
  | none :: r, n + 1, _ => trivial
  | some p :: r, n + 1, h => by
    obtain ⟨q, hq, rfl⟩ := h
    exact ⟨q, hq, by simp⟩
theorem cut_wf : ∀ (ss : List Seg) (n : Nat), WF ss → WF (cutS n ss)
  | [], n, _ => by rw [cutS_nil]; trivial
  | s :: r, 0, _ => by rw [cutS_zero]; trivial
  | none :: r, n + 1, h => cut_wf r n h
  | some p :: r, n + 1, h => by
    refine ⟨?_, cut_wf r _ h.2⟩
    rcases h.1 with ⟨q, hq, rfl⟩ | ⟨⟨c, x, hp, hl, hk⟩, hs⟩
    · exact .inl ⟨q, hq, by simp⟩
    · refine .inr ⟨⟨c, x.take n, by rw [hp, List.take_succ_cons], fun d hd => hl d (List.mem_of_mem_take hd), hk⟩, cut_starts r _ hs⟩

/-- the pieces that begin among the first n signs, the last one cut off -/
def duePs (n : Nat) (ps : List Pc) : List Pc := (ps.filter fun p => decide (p.2.2 < n)).map fun p => (p.1, p.2.1.take (n - p.2.2), p.2.2)
theorem toks_ge : ∀ (ss : List Seg) (i : Nat), ∀ p ∈ toks ss i, i ≤ p.2.2
  | [], i, p, h => by simp [toks] at h
  | none :: r, i, p, h => by have := toks_ge r (i + 1) p h; omega
  | some q :: r, i, p, h => by
    rcases List.mem_cons.mp h with rfl | h
    · exact Nat.le_refl _
    · have := toks_ge r _ p h; omega
theorem toks_cut : ∀ (ss : List Seg) (i n : Nat), toks (cutS n ss) i = duePs (i + n) (toks ss i)
  | [], i, n => by rw [cutS_nil]; rfl
  | s :: r, i, 0 => by
    rw [cutS_zero]
    show [] = _
    unfold duePs
    rw [List.filter_eq_nil_iff.mpr]
    · rfl
    · intro p hp
      have := toks_ge _ _ p hp
      simp only [decide_eq_true_eq]
      omega
  | none :: r, i, n + 1 => by
    simp only [cutS, toks, toks_cut r (i + 1) n]
    congr 1
    omega
  | some p :: r, i, n + 1 => by
    have ih := toks_cut r (i + p.2.length) (n + 1 - p.2.length)
    simp only [cutS, toks]
    have hd : duePs (i + (n + 1)) ((p.1, p.2, i) :: toks r (i + p.2.length)) = (p.1, p.2.take (n + 1), i) :: duePs (i + (n + 1)) (toks r (i + p.2.length)) := by
      unfold duePs
      rw [List.filter_cons_of_pos (by simp), List.map_cons]
      congr 2
      simp only
      rw [show i + (n + 1) - i = n + 1 by omega]
    rw [hd]
    congr 1
    by_cases hle : p.2.length ≤ n + 1
    · rw [show i + (n + 1) = i + p.2.length + (n + 1 - p.2.length) by omega, ← ih, List.length_take, Nat.min_eq_right hle]
    · rw [show n + 1 - p.2.length = 0 by omega, cutS_zero]
      show [] = _
      unfold duePs
      rw [List.filter_eq_nil_iff.mpr]
      · rfl
      · intro q hq
        have := toks_ge _ _ q hq
        simp only [decide_eq_true_eq]
        omega

def tailPs : List Pc := [(9, [91], 81), (1, [116, 114, 117, 110, 99, 97, 116, 101, 100], 82), (10, [93], 91), (52, [46, 46, 46], 92)]
theorem lex_tail {f : List Nat → Option Int} (hf : TF f) : Lex f tail 80 tailPs := by
  refine .blank hf.blank ?_
  have o9 := hf.one (91, 9) (by decide)
  have o10 := hf.one (93, 10) (by decide)
  refine .sign (n := 1) (by rw [o9]; rfl) (by simp) (by simpa using o9) (fun j hj hs => ?_) ?_
  · simp only [List.mem_cons, List.not_mem_nil, or_false] at hj
    rcases hj with rfl | rfl | rfl
    · exact Nat.le_refl _
    · rw [show List.take 2 _ = 91 :: 116 :: [] from rfl, hf.two (91, 9) (by decide) 116 [] (by decide) (by decide)] at hs; cases hs
    · rw [show List.take 3 _ = 91 :: 116 :: [114] from rfl, hf.two (91, 9) (by decide) 116 [114] (by decide) (by decide)] at hs; cases hs
  · have hw : Lex f ([116, 114, 117, 110, 99, 97, 116, 101, 100] ++ [93, 46, 46, 46]) 82 ((if isDig 116 then 2 else 1, [116, 114, 117, 110, 99, 97, 116, 101, 100], 82) :: [(10, [93], 91), (52, [46, 46, 46], 92)]) := by
      refine Lex.word (w := [114, 117, 110, 99, 97, 116, 101, 100]) (r := [93, 46, 46, 46]) (hf.wd _ (by decide)) (by decide) (fun d hd => ?_) (fun d r e => ?_) ?_
      · have hl : d ∈ letters := by
          simp only [List.mem_cons, List.not_mem_nil, or_false] at hd
          rcases hd with rfl | rfl | rfl | rfl | rfl | rfl | rfl | rfl <;> decide
        exact ⟨hf.wd d hl, (letters_plain d hl).1⟩
      · injection e with e _
        subst e
        exact .inl (by rw [o10]; rfl)
      · refine .sign (n := 1) (by rw [o10]; rfl) (by simp) (by simpa using o10) (fun j hj hs => ?_) ?_
        · simp only [List.mem_cons, List.not_mem_nil, or_false] at hj
          rcases hj with rfl | rfl | rfl
          · exact Nat.le_refl _
          · rw [show List.take 2 _ = 93 :: 46 :: [] from rfl, hf.two (93, 10) (by decide) 46 [] (by decide) (by decide)] at hs; cases hs
          · rw [show List.take 3 _ = 93 :: 46 :: [46] from rfl, hf.two (93, 10) (by decide) 46 [46] (by decide) (by decide)] at hs; cases hs
        · refine .sign (n := 3) (by rw [hf.dot]; rfl) (by simp) (by simpa using hf.dots) (fun j hj hs => ?_) (.nil _)
          simp only [List.mem_cons, List.not_mem_nil, or_false] at hj
          omega
    have e : (if isDig 116 then (2 : Int) else 1) = 1 := by decide +kernel
    rw [e] at hw
    exact hw

def shortPs (t : T) : List Pc := duePs 80 (toks (sgs t) 0) ++ (if (flat (sgs t)).length < 80 then [] else tailPs)
theorem lex_short {f : List Nat → Option Int} (hf : TF f) (t : T) : Lex f (short (flat (sgs t))) 0 (shortPs t) := by
  unfold short shortPs
  have hc := toks_cut (sgs t) 0 80
  rw [Nat.zero_add] at hc
  rw [← hc]
  split
  · rename_i hlt
    rw [cutS_all _ _ (by omega) (wf_thing t), List.append_nil]
    exact lex_thing hf t
  · rename_i hge
    rw [← flat_cut]
    refine lex_flat hf tail tailPs (fun d r e => ?_) (cutS 80 (sgs t)) 0 (cut_wf _ _ (wf_thing t)) ?_
    · injection e with e _
      subst e
      exact ⟨.inr rfl, by decide, by decide⟩
    · rw [flat_cut, List.length_take, Nat.min_eq_left (by omega)]
      exact lex_tail hf

theorem toks_len : ∀ (ss : List Seg) (i : Nat), WF ss → (toks ss i).length ≤ (flat ss).length
  | [], _, _ => Nat.le_refl _
  | none :: r, i, h => by have := toks_len r (i + 1) h; simp only [toks, flat_cons, segW, List.length_append, List.length_cons, List.length_nil]; omega
  | some p :: r, i, h => by
    have := toks_len r (i + p.2.length) h.2
    have hp : 0 < p.2.length := by
      rcases h.1 with ⟨q, _, rfl⟩ | ⟨⟨c, x, hp, _⟩, _⟩
      · simp
      · rw [hp]; simp
    simp only [toks, flat_cons, segW, List.length_append, List.length_cons]; omega

end Mine

set_option Elab.async false
set_option maxRecDepth 100000
set_option maxHeartbeats 1000000
set_option linter.unusedVariables false
set_option autoImplicit false
namespace Mine

theorem all_true (n : Nat) : (List.range n).all (fun _ => true) = true := by simp

theorem hits_keyed {A : Around} {s : Shared} {us vs : List Value} (h : ∀ (j : Nat) (u v : Value), us[j]? = some u → vs[j]? = some v → SeqAt.EqAt A s u v true) (hl : us.length = vs.length) :
    KeqHits A s (keyed 0 vs) (keyed 0 us) true := by
  have key : ∀ (us' : List Value) (k : Nat), us.drop k = us' → KeqHits A s (keyed 0 vs) (keyed k us') true := by
    intro us'
    induction us' with
    | nil => intro k _; exact .nil
    | cons u r ih =>
      intro k e
      have hlt : k < us.length := by
        rcases Nat.lt_or_ge k us.length with h | h
        · exact h
        · rw [List.drop_of_length_le h] at e; cases e
      have hu : us[k]? = some u := by
        rw [List.drop_eq_getElem_cons hlt] at e
        injection e with e _
        rw [← e]; simp [hlt]
      have hr : us.drop (k + 1) = r := by
        rw [List.drop_eq_getElem_cons hlt] at e
        injection e
      have hv : vs[k]? = some vs[k] := by simp [hl ▸ hlt]
      have := valueAt_keyed 0 vs k vs[k] hv
      rw [Nat.zero_add] at this
      simp only [keyed]
      have hh := KeqHits.hit (r := keyed (k + 1) r) this (h k u vs[k] hu hv) (ih (k + 1) hr)
      simpa using hh
  exact key us 0 rfl

section
variable {N1 N2 : Addr → Prop} {s : Shared} (h1 : ∀ a, N1 a → (a == sysModules) = false) (h2 : ∀ a, N2 a → (a == sysModules) = false)
include h1 h2
mutual
theorem rep_eq : ∀ (t : T) (A : Around) (v1 v2 : Value), Rep N1 s.heap t v1 → Rep N2 s.heap t v2 → A.units + sz t < cLine → SeqAt.EqAt A s v1 v2 true
  | .nn, A, v1, v2, r1, r2, hu => by
    simp only [Rep] at r1 r2
    subst r1 r2
    exact SeqAt.EqAt.same _
  | .bb b, A, v1, v2, r1, r2, hu => by
    simp only [Rep] at r1 r2
    subst r1 r2
    exact SeqAt.EqAt.same _
  | .ii i, A, v1, v2, r1, r2, hu => by
    simp only [Rep] at r1 r2
    obtain ⟨t1, rfl⟩ := r1
    obtain ⟨t2, rfl⟩ := r2
    have := SeqAt.EqAt.int_int (A := A) (s := s) i t1 i t2
    simpa using this
  | .ll xs, A, v1, v2, r1, r2, hu => by
    simp only [Rep] at r1 r2
    obtain ⟨a, vs, rfl, _, p1, q1⟩ := r1
    obtain ⟨b, us, rfl, _, p2, q2⟩ := r2
    by_cases hab : a = b
    · subst hab; exact SeqAt.EqAt.same _
    · have hl1 := Reps.length _ _ q1
      have hl2 := Reps.length _ _ q2
      have hh := reps_eq xs A.in1 vs us q1 q2 (by show A.units + 1 + _ < _; simp only [sz] at hu; omega)
      have := SeqAt.RcAt.lists (A := A) (e := fun _ => true) p1.isList p2.isList (by simp [hl1, hl2]) (by omega) (fun j j1 j2 => hh j _ _ (by simp at j1; simp [j1]) (by simp at j2; simp [j2]))
      rw [all_true] at this
      exact SeqAt.EqAt.of_refs hab this
  | .tt xs, A, v1, v2, r1, r2, hu => by
    simp only [Rep] at r1 r2
    obtain ⟨a, vs, rfl, _, p1, q1⟩ := r1
    obtain ⟨b, us, rfl, _, p2, q2⟩ := r2
    by_cases hab : a = b
    · subst hab; exact SeqAt.EqAt.same _
    · have hl1 := Reps.length _ _ q1
      have hl2 := Reps.length _ _ q2
      have hh := reps_eq xs A.in1 vs us q1 q2 (by show A.units + 1 + _ < _; simp only [sz] at hu; omega)
      have := SeqAt.RcAt.tuples (A := A) (e := fun _ => true) p1 p2 (by omega) (fun j j1 j2 => hh j _ _ (by simp at j1; simp [j1]) (by simp at j2; simp [j2]))
      rw [all_true] at this
      simp only [List.size_toArray, hl1, hl2, beq_self_eq_true, Bool.and_self] at this
      exact SeqAt.EqAt.of_refs hab this
  | .dd xs, A, v1, v2, r1, r2, hu => by
    simp only [Rep] at r1 r2
    obtain ⟨a, vs, rfl, n1, p1, q1⟩ := r1
    obtain ⟨b, us, rfl, n2, p2, q2⟩ := r2
    by_cases hab : a = b
    · subst hab; exact SeqAt.EqAt.same _
    · have hl1 := Reps.length _ _ q1
      have hl2 := Reps.length _ _ q2
      have hh := reps_eq xs A.in1 vs us q1 q2 (by show A.units + 1 + _ < _; simp only [sz] at hu; omega)
      have : SeqAt.RcAt A s (.ref a) (.ref b) true := fun prog w E Q h => by
        refine keq_eq (knd := intKind prog w) (r := true) (h1 a n1) (h2 b n2) (p1 prog w) (p2 prog w) (by omega) (fun _ => hits_keyed hh (by omega)) ?_
        rw [keyed_length, keyed_length, hl1, hl2]
        simpa using h
      exact SeqAt.EqAt.of_refs hab this
termination_by structural t => t
theorem reps_eq : ∀ (ts : List T) (A : Around) (vs us : List Value), Reps N1 s.heap ts vs → Reps N2 s.heap ts us → A.units + szs ts < cLine → ∀ (j : Nat) (v u : Value), vs[j]? = some v → us[j]? = some u → SeqAt.EqAt A s v u true
  | [], A, vs, us, r1, r2, hu, j, v, u, hv, _ => by
    simp only [Reps] at r1
    subst r1
    simp at hv
  | x :: xs, A, vs, us, r1, r2, hu, j, v, u, hv, hu' => by
    simp only [Reps] at r1 r2
    obtain ⟨v1, ws1, rfl, p1, q1⟩ := r1
    obtain ⟨v2, ws2, rfl, p2, q2⟩ := r2
    simp only [szs] at hu
    cases j with
    | zero =>
      simp at hv hu'
      subst hv hu'
      exact rep_eq x A _ _ p1 p2 (by omega)
    | succ j => exact reps_eq xs A ws1 ws2 q1 q2 (by omega) j v u (by simpa using hv) (by simpa using hu')
termination_by structural ts => ts
end
end

theorem pc_eq {A : Around} {s : Shared} {v u : Value} {p : Pc} (x : PcAt s.heap v p) (y : PcAt s.heap u p) (hu : A.units < cLine) : SeqAt.EqAt A s v u true := by
  obtain ⟨a, t1, t2, t3, rfl, h1⟩ := x
  obtain ⟨b, u1, u2, u3, rfl, h2⟩ := y
  by_cases hab : a = b
  · subst hab; exact SeqAt.EqAt.same _
  · have := SeqAt.RcAt.tuples (A := A) (e := fun _ => true) h1 h2 hu (fun j j1 j2 => by
      have hj : j = 0 ∨ j = 1 ∨ j = 2 := by simp at j1; omega
      rcases hj with rfl | rfl | rfl
      · have := SeqAt.EqAt.int_int (A := A.in1) (s := s) p.1 t1 p.1 u1
        simpa using this
      · have := SeqAt.EqAt.str_str (A := A.in1) (s := s) (txt p.2.1) t2 (txt p.2.1) u2
        simpa using this
      · have := SeqAt.EqAt.int_int (A := A.in1) (s := s) (p.2.2 : Int) t3 (p.2.2 : Int) u3
        simpa using this)
    rw [all_true] at this
    exact SeqAt.EqAt.of_refs hab (by simpa using this)

section
variable {prog : Program} {w : World} {A : Around} {h : Heap} {P : Value → Heap → Prop}
theorem rEqPcs {a b : Addr} {vs us : List Value} {ps : List Pc} (hA : Room A 0) (ha : h.PlainList a vs.toArray) (hb : h.PlainList b us.toArray) (p1 : Pcs h vs ps) (p2 : Pcs h us ps) (q : P (.bool true) h) : Run prog w A (compareOp .Eq (.ref a) (.ref b)) h P := fun s E e => by
  subst e
  have l1 := p1.length
  have l2 := p2.length
  have hun := hA.units
  have := SeqAt.RcAt.lists (A := A) (s := s) (e := fun _ => true) ha.isList hb.isList (by simp [l1, l2]) (by omega) (fun j j1 j2 => by
    obtain ⟨p, e1, x1⟩ := paired_get p1 j vs.toArray[j] (by simp at j1; simp [j1])
    obtain ⟨p', e2, x2⟩ := paired_get p2 j us.toArray[j] (by simp at j2; simp [j2])
    rw [e1] at e2
    cases e2
    exact pc_eq x1 x2 (by show A.units + 1 < _; omega))
  rw [all_true] at this
  exact this prog w E _ ⟨⟨_, rfl⟩, q⟩
theorem rNeReps {N1 N2 : Addr → Prop} {a b : Addr} {vs us : List Value} {ts : List T} (hA : Room A 0) (n1 : ∀ a, N1 a → (a == sysModules) = false) (n2 : ∀ a, N2 a → (a == sysModules) = false) (ha : h.PlainList a vs.toArray) (hb : h.PlainList b us.toArray) (p1 : Reps N1 h ts vs) (p2 : Reps N2 h ts us) (hz : szs ts ≤ 100)
    (q : P (.bool false) h) : Run prog w A (compareOp .NotEq (.ref a) (.ref b)) h P := fun s E e => by
  subst e
  have l1 := p1.length
  have l2 := p2.length
  have hun := hA.units
  have hh := reps_eq n1 n2 ts A.in1 vs us p1 p2 (by show A.units + 1 + _ < _; omega)
  have := SeqAt.RcNeAt.lists (A := A) (s := s) (e := fun _ => true) ha.isList hb.isList (by simp [l1, l2]) (by omega) (fun j j1 j2 => hh j _ _ (by simp at j1; simp [j1]) (by simp at j2; simp [j2]))
  rw [all_true] at this
  exact this prog w E _ ⟨⟨_, rfl⟩, q⟩
theorem rNeInts {a b : Addr} {vs us : List Value} {ns : List Int} (hA : Room A 0) (ha : h.PlainList a vs.toArray) (hb : h.PlainList b us.toArray) (p1 : IntsAre vs ns) (p2 : IntsAre us ns) (q : P (.bool false) h) : Run prog w A (compareOp .NotEq (.ref a) (.ref b)) h P := fun s E e => by
  subst e
  have l1 := p1.length
  have l2 := p2.length
  have hun := hA.units
  have := SeqAt.RcNeAt.lists (A := A) (s := s) (e := fun _ => true) ha.isList hb.isList (by simp [l1, l2]) (by omega) (fun j j1 j2 => by
    obtain ⟨n, t, e1, x1⟩ := ints_get p1 j vs.toArray[j] (by simp at j1; simp [j1])
    obtain ⟨n', t', e2, x2⟩ := ints_get p2 j us.toArray[j] (by simp at j2; simp [j2])
    rw [x1] at x2
    cases x2
    rw [e1, e2]
    have := SeqAt.EqAt.int_int (A := A.in1) (s := s) n t n t'
    simpa using this)
  rw [all_true] at this
  exact this prog w E _ ⟨⟨_, rfl⟩, q⟩
end

end Mine

set_option Elab.async false
set_option maxRecDepth 100000
set_option maxHeartbeats 1000000
set_option linter.unusedVariables false
set_option autoImplicit false
namespace Mine

section
variable {prog : Program} {w : World} {A : Around} {h : Heap} {env : Env} {P : Value → Heap → Prop}

abbrev testsOf (ifs : List PySem.Expr) (env : Env) : Sem Bool :=
  forIn ifs true fun c r => if r = true then do let ok ← isTrue c env (eval c env); pure (ForInStep.yield ok) else pure (ForInStep.yield r)

theorem cLoop {elt target iter : PySem.Expr} {ifs : List PySem.Expr} {scope : Scope} {pos : Pos} {it acc : Value} {Rq : Heap → Prop} (I : Nat → Heap → Prop)
    (turn : ∀ n h, I n h → Run prog w A (pyNext it) h (fun r h₁ => match r with
      | none => Rq h₁
      | some v => Run prog w A (letOwnedTupleGo target it v) h₁ (fun _ h₁' => Run prog w A (assign target env v) h₁' (fun _ h₂ => Run prog w A (testsOf ifs env) h₂ (fun ok h₃ =>
          if ok = true then Run prog w A (eval elt env) h₃ (fun x h₄ => Run prog w A (call (.builtin "list.append") [acc, x]) h₄ (fun _ h₅ => ∃ m, m < n ∧ I m h₅)) else ∃ m, m < n ∧ I m h₃)))))
    (n : Nat) (h0 : I n h) : RunC prog w A (.compLoop (.ListComp elt [⟨target, iter, ifs, 0⟩] scope pos) 0 it acc env) h (fun f h' => f = .next ∧ Rq h') := by
  intro s eh
  refine codeAny_loop rfl (fun n s' => (∃ tk, s' = { s with heap := s'.heap, toks := tk }) ∧ I n s'.heap) (fun n s₁ hI => ?_) n ⟨⟨s.toks, rfl⟩, eh ▸ h0⟩
  show wpAny _ A ((compTurn (.ListComp elt [⟨target, iter, ifs, 0⟩] scope pos) 0 it acc env).onRaise (fun x => do noteFrame x env; theTreesLotGoes x)) _ _ s₁
  refine wpAny_noted ?_
  rw [compTurn_list]
  refine wpAny_bind (wpAny_standAt (wpAny_bind (wpAny_mono (turn n s₁.heap hI.2 s₁ _ rfl) (fun r s₂ q => ?_) fun _ _ h' => h')))
  obtain ⟨q1, q2⟩ := q
  cases r with
  | none => exact wpAny_pure ⟨glue hI.1 q1, _, rfl, rfl, q2⟩
  | some v =>
    refine wpAny_bind (wpAny_mono (q2 s₂ _ rfl) (fun _ s₃ z => ?_) fun _ _ h' => h')
    refine wpAny_bind (wpAny_mono (z.2 s₃ _ rfl) (fun _ s₄ y => ?_) fun _ _ h' => h')
    refine wpAny_bind (wpAny_mono (y.2 s₄ _ rfl) (fun ok s₅ x => ?_) fun _ _ h' => h')
    have x2 := x.2
    have g1 := glue hI.1 (glue q1 (glue z.1 (glue y.1 x.1)))
    cases ok with
    | false =>
      simp only [Bool.false_eq_true, if_false] at x2 ⊢
      obtain ⟨m, hm, hI'⟩ := x2
      exact wpAny_pure ⟨rfl, m, hm, g1, hI'⟩
    | true =>
      simp only [if_true] at x2 ⊢
      refine wpAny_bind (wpAny_bind (wpAny_mono (x2 s₅ _ rfl) (fun u s₆ t => wpAny_bind (wpAny_mono (t.2 s₆ _ rfl) (fun _ s₇ r => ?_) fun _ _ h' => h')) fun _ _ h' => h'))
      obtain ⟨m, hm, hI'⟩ := r.2
      exact wpAny_pure (wpAny_pure ⟨rfl, m, hm, glue g1 (glue t.1 r.1), hI'⟩)

/-- what a turn of a comprehension over a list does -/
def CTurn (prog : Program) (w : World) (A : Around) (cenv : Addr → Env) (target elt : PySem.Expr) (ifs : List PySem.Expr) (h₁ : Heap) (xs : List Value) (J : Nat → List Value → Heap → Prop) : Prop :=
  ∀ I C D i v g' m' ys h' o, xs[i]? = some v → Sub h₁ g' → J i ys g' → Lc w g' C m' [(I, .raw o), (D, .lst ys)] h' →
    Run prog w A (assign target (cenv C) v) h' (fun _ h₂ => Run prog w A (testsOf ifs (cenv C)) h₂ (fun ok h₃ =>
      if ok = true then Run prog w A (eval elt (cenv C)) h₃ (fun x h₄ => ∃ g'' m'', Sub g' g'' ∧ Lc w g'' C m'' [(I, .raw o), (D, .lst ys)] h₄ ∧ J (i + 1) (ys ++ [x]) g'')
      else ∃ g'' m'', Sub g' g'' ∧ Lc w g'' C m'' [(I, .raw o), (D, .lst ys)] h₃ ∧ J (i + 1) ys g''))

theorem comp_core {elt iter : PySem.Expr} {elts : List PySem.Expr} {tk : Nat} {tp : Pos} {ifs : List PySem.Expr} {scope : Scope} {pos : Pos} {l : Addr} {xs : List Value} {s₁ : Shared} {E : Value → Shared → Prop} {RR : Value → Addr → Result → Shared → Prop} (hh : A.handled = none)
    (W : Wd w s₁.heap) (hl : s₁.heap.IsList l xs.toArray) (hsz : xs.length ≤ sizeLine) (hcell : ∀ y ∈ scope.names, y.2 ≠ .cell) (hkind : scope.kind = .function) (J : Nat → List Value → Heap → Prop) (j0 : J 0 [] s₁.heap)
    (turn : CTurn prog w A (fun C => compEnvC scope [] C env) (.Tuple elts tk tp) elt ifs s₁.heap xs J)
    (hRR : ∀ D C h' tk' m' ys g', s₁.heap.get? D = none → s₁.heap.get? C = none → D ≠ C → h'.Ns C m' → h'.PlainList D ys.toArray → J xs.length ys g' → Sub s₁.heap g' → Sub g' h' → g'.get? C = none → RR (.ref D) C (.ok .next) { s₁ with heap := h', toks := tk' }) :
    wpAny (model prog w) A (pyIter (.ref l)) (fun it s₂ => wpAny (model prog w) A (newList []) (fun acc s₃ => wpAny (model prog w) A (newFunctionEnv scope env.globals [] [] env.qual none .none (some env)) (fun cenv s₄ =>
      codeAny (model prog w) A (.compStart (.ListComp elt [⟨.Tuple elts tk tp, iter, ifs, 0⟩] scope pos) 0 it acc { cenv with scope := relabel scope env }) (RR acc cenv.locals) s₄) E s₃) E s₂) E s₁ := by
  refine wpAny_pyIter_list hl ?_
  obtain ⟨ol, hol, _⟩ := id hl
  have hne : l ≠ s₁.heap.objs.size := Nat.ne_of_lt (Heap.lt_size hol)
  have WK := Walks.list (prog := prog) (w := w) hh s₁.heap.objs.size l hne xs.toArray
  have hst0 : (s₁.heap.push { cls := .type "list_iterator", data := .fields #[.ref l, .int 0 0] }).IsListIter s₁.heap.objs.size l 0 := ⟨_, Heap.get?_push_size _ rfl, rfl, rfl⟩
  have hoI : (s₁.heap.push { cls := .type "list_iterator", data := .fields #[.ref l, .int 0 0] }).get? s₁.heap.objs.size = some { cls := .type "list_iterator", data := .fields #[.ref l, .int 0 0] } := Heap.get?_push_size _ rfl
  have k2 := Sub.push s₁.heap { cls := .type "list_iterator", data := .fields #[.ref l, .int 0 0] }
  have z2 : (s₁.heap.push { cls := .type "list_iterator", data := .fields #[.ref l, .int 0 0] }).objs.size = s₁.heap.objs.size + 1 := Heap.size_push ..
  generalize s₁.heap.push { cls := .type "list_iterator", data := .fields #[.ref l, .int 0 0] } = H2 at hst0 hoI k2 z2 ⊢
  refine wpAny_newObj_type (wpAny_newFunctionEnv hcell (by intro y hy; simp at hy) (fun h₁ hns₁ hsb₁ => ?_) hkind)
  dsimp only at hns₁ hsb₁ ⊢
  have hD0 : (H2.push { cls := .type "list", dict := none, data := .seq ([] : List Value).toArray }).PlainList H2.objs.size ([] : List Value).toArray := ⟨0, Heap.get?_push_size _ rfl⟩
  have k3 := Sub.push H2 { cls := .type "list", dict := none, data := .seq ([] : List Value).toArray }
  have z3 : (H2.push { cls := .type "list", dict := none, data := .seq ([] : List Value).toArray }).objs.size = H2.objs.size + 1 := Heap.size_push ..
  generalize H2.push { cls := .type "list", dict := none, data := .seq ([] : List Value).toArray } = H3 at hns₁ hsb₁ hD0 k3 z3 ⊢
  have k4 : Sub H3 h₁ := fun b o e => hsb₁.extBut b o (Nat.ne_of_lt (Heap.lt_size e)) (Heap.get?_push_of_some _ e)
  have nI : s₁.heap.get? s₁.heap.objs.size = none := none_of_size _ (Nat.le_refl _)
  have nD : s₁.heap.get? H2.objs.size = none := none_of_size _ (by rw [z2]; exact Nat.le_succ _)
  have nC : s₁.heap.get? H3.objs.size = none := none_of_size _ (by rw [z3, z2]; exact Nat.le_trans (Nat.le_succ _) (Nat.le_succ _))
  have hDC : H2.objs.size ≠ H3.objs.size := by rw [z3]; exact Nat.ne_of_lt (Nat.lt_succ_self _)
  have hIC : s₁.heap.objs.size ≠ H3.objs.size := by rw [z3, z2]; exact Nat.ne_of_lt (by omega)
  have hID : s₁.heap.objs.size ≠ H2.objs.size := by rw [z2]; exact Nat.ne_of_lt (Nat.lt_succ_self _)
  have F0 : Lc w s₁.heap H3.objs.size (fun x => ([] : List (Str × Value)).reverse.lookup x) [(s₁.heap.objs.size, .raw { cls := .type "list_iterator", data := .fields #[.ref l, .int 0 0] }), (H2.objs.size, .lst [])] h₁ := by
    refine ⟨hns₁, k2.trans (k3.trans k4), nC, fun p hp => ?_, ?_, W⟩
    · simp only [List.mem_cons, List.not_mem_nil, or_false] at hp
      rcases hp with rfl | rfl
      · exact ⟨k4 _ _ (k3 _ _ hoI), hIC, nI⟩
      · exact ⟨Heap.PlainList.at hD0 fun o e => k4 _ _ e, hDC, nD⟩
    · simp [hID]
  have hit0 : h₁.IsListIter s₁.heap.objs.size l 0 := hst0.at fun o e => k4 _ _ (k3 _ _ e)
  have hl0 : h₁.IsList l xs.toArray := hl.at fun o e => k4 _ _ (k3 _ _ (k2 _ _ e))
  have hl₁ := hl
  have loop : ∀ s₃ : Shared, s₃ = { s₁ with heap := h₁, toks := s₁.toks + ([] : List (Str × Value)).length } →
      codeAny (model prog w) A (.compLoop (.ListComp elt [⟨.Tuple elts tk tp, iter, ifs, 0⟩] scope pos) 0 (.ref s₁.heap.objs.size) (.ref H2.objs.size) (compEnvC scope [] H3.objs.size env)) (RR (.ref H2.objs.size) H3.objs.size) s₃ := by
    rintro s₃ rfl
    generalize hIa : s₁.heap.objs.size = I at *
    generalize hDa : H2.objs.size = D at *
    generalize hCa : H3.objs.size = C at *
    have main := cLoop (prog := prog) (w := w) (A := A) (h := h₁) (env := compEnvC scope [] C env) (elt := elt) (target := .Tuple elts tk tp) (iter := iter) (ifs := ifs) (scope := scope) (pos := pos) (it := .ref I) (acc := .ref D)
      (Rq := fun h' => ∃ m' ys g', h'.Ns C m' ∧ h'.PlainList D ys.toArray ∧ J xs.length ys g' ∧ Sub s₁.heap g' ∧ Sub g' h' ∧ g'.get? C = none)
      (fun k h => ∃ i g' m' ys o, k = xs.length - i ∧ i ≤ xs.length ∧ ys.length ≤ i ∧ Sub s₁.heap g' ∧ J i ys g' ∧ Lc w g' C m' [(I, .raw o), (D, .lst ys)] h ∧ h.IsListIter I l i ∧ h.IsList l xs.toArray) ?_ xs.length
      ⟨0, s₁.heap, _, [], _, rfl, Nat.zero_le _, Nat.le_refl _, Sub.refl _, j0, F0, hit0, hl0⟩
    · refine RunC.lift (main) fun f h' tk' q => ?_
      obtain ⟨rfl, m', ys, g', q1, q2, q3, q4, q5, q6⟩ := q
      exact hRR D C h' tk' m' ys g' nD nC hDC q1 q2 q3 q4 q5 q6
    · rintro k h ⟨i, g', m', ys, o, rfl, hi, hys, hsub, hJ, F', hit, hlx⟩
      by_cases hlt : i < xs.length
      · intro s E' e
        subst e
        refine WK.item i s _ _ (by simpa using hlt) ⟨hit, hlx⟩ fun v h₂ tk₂ hPv st₂ hk₂ => ⟨⟨_, rfl⟩, ?_⟩
        have hv : xs[i]? = some v := by simpa using hPv
        obtain ⟨o₂, ho₂, hc₂⟩ := id st₂.1
        have hk₂' : ∀ b o, b ≠ I → s.heap.get? b = some o → h₂.get? b = some o := fun b ob hb e => hk₂ b ob (by simpa using hb) e
        have F₂ : Lc w g' C m' [(I, .raw o₂), (D, .lst ys)] h₂ := F'.extBut hk₂' ho₂
        refine (letGo_tuple st₂.1).mono fun _ h₂' e2 => ?_
        subst e2
        refine (turn I C D i v g' m' ys _ o₂ hv hsub hJ F₂).mono fun _ h₃ r => r.mono fun ok h₄ q => ?_
        have fin : ∀ {g'' m'' ys'' h₅}, Sub g' g'' → Lc w g'' C m'' [(I, .raw o₂), (D, .lst ys'')] h₅ → J (i + 1) ys'' g'' → ys''.length ≤ i + 1 →
            ∃ k', k' < xs.length - i ∧ ∃ i' g' m' ys o, k' = xs.length - i' ∧ i' ≤ xs.length ∧ ys.length ≤ i' ∧ Sub s₁.heap g' ∧ J i' ys g' ∧ Lc w g' C m' [(I, .raw o), (D, .lst ys)] h₅ ∧ h₅.IsListIter I l i' ∧ h₅.IsList l xs.toArray := by
          intro g'' m'' ys'' h₅ sg F5 hJ5 hys5
          have hI5 : h₅.get? I = some o₂ := F5.at (x := .raw o₂) (by simp)
          exact ⟨xs.length - (i + 1), by omega, i + 1, g'', m'', ys'', o₂, rfl, hlt, hys5, hsub.trans sg, hJ5, F5, ⟨o₂, hI5, hc₂⟩, hl₁.at fun o e => F5.sub _ _ (sg _ _ (hsub _ _ e))⟩
        cases ok with
        | false =>
          simp only [Bool.false_eq_true, if_false] at q ⊢
          obtain ⟨g'', m'', sg, F5, hJ5⟩ := q
          exact fin sg F5 hJ5 (by omega)
        | true =>
          simp only [if_true] at q ⊢
          refine q.mono fun x h₅ z => ?_
          obtain ⟨g'', m'', sg, F5, hJ5⟩ := z
          exact rAppend (l1 := [(I, .raw o₂)]) (l2 := []) F5 (by omega) fun h₆ F6 => fin sg F6 hJ5 (by simp; omega)
      · have hin : i = xs.length := by omega
        subst hin
        intro s E' e
        subst e
        refine WK.done s _ _ (by simpa using (⟨hit, hlx⟩ : _ ∧ _)) fun h₂ tk₂ hk₂ => ⟨⟨_, rfl⟩, ?_⟩
        have hk₂' : ∀ b o, b ≠ I → s.heap.get? b = some o → h₂.get? b = some o := fun b ob hb e => hk₂ b ob (by simpa using hb) e
        have hII := F'.mt (I, .raw o) (by simp)
        have hDD := F'.mt (D, .lst ys) (by simp)
        refine ⟨m', ys, g', ?_, ?_, hJ, hsub, fun b ob e => ?_, F'.off⟩
        · obtain ⟨oL, es, ep, hL, r⟩ := F'.ns
          exact ⟨oL, es, ep, hk₂' C oL (Ne.symm hII.2.1) hL, r⟩
        · exact Heap.PlainList.at hDD.1 fun o e => hk₂' D o (Ne.symm hID) e
        · exact hk₂' b ob (fun q => by rw [q, hII.2.2] at e; cases e) (F'.sub b ob e)
  exact codeAny_compStart_list (loop _ rfl) (WK.self 0 _ _ _ ⟨hit0, hl0⟩ (loop _ rfl))
end

end Mine

set_option Elab.async false
set_option maxRecDepth 100000
set_option maxHeartbeats 1000000
set_option linter.unusedVariables false
set_option autoImplicit false
namespace Mine

section
variable {prog : Program} {w : World} {A : Around} {g h : Heap} {L : Addr} {m : Str → Option Value} {env : Env} {P : Value → Heap → Prop} {Q : Flow → Heap → Prop}

theorem Lc.all (F : Lc w g L m [] h) : ∃ g', Lc w g' L m [] h ∧ Sub g g' ∧ ∀ b o, b ≠ L → h.get? b = some o → g'.get? b = some o := by
  obtain ⟨F1, s1⟩ := F.refreeze
  refine ⟨_, F1, s1, fun b o hb e => hideAll_get _ e ?_⟩
  simpa using hb

theorem rCompEval {elt iter : PySem.Expr} {elts : List PySem.Expr} {tk : Nat} {tp : Pos} {ifs : List PySem.Expr} {scope : Scope} {pos : Pos} (hh : A.handled = none)
    (hclos : closureFor scope env = Pure.pure []) (hcell : ∀ y ∈ scope.names, y.2 ≠ .cell) (hkind : scope.kind = .function) (hnames : ∀ y ∈ scope.names, y.2 = .local → scope.names.lookup y.1 = some .local)
    (k : Run prog w A (eval iter env) h (fun xv h₁ => ∃ (l : Addr) (xs : List Value), xv = .ref l ∧ h₁.IsList l xs.toArray ∧ xs.length ≤ sizeLine ∧ Wd w h₁ ∧ ∃ J : Nat → List Value → Heap → Prop, J 0 [] h₁ ∧
      CTurn prog w A (fun C => compEnvC scope [] C env) (.Tuple elts tk tp) elt ifs h₁ xs J ∧
      ∀ (D : Addr) (h' : Heap) (ys : List Value) (g' : Heap), h₁.get? D = none → h'.PlainList D ys.toArray → J xs.length ys g' → Sub h₁ g' → Sub g' h' → P (.ref D) h'))
    (hs : ∀ x, foldedSetIterable iter env x = Pure.pure x := by intro _; rfl) :
    Run prog w A (eval (.ListComp elt [⟨.Tuple elts tk tp, iter, ifs, 0⟩] scope pos) env) h P := fun s E e => by
  rw [eval_ListComp]
  refine wpAny_comprehension_free (use := none) rfl hs hclos hkind hnames (wpAny_mono (k s E e) (fun xv s₁ q => ?_) fun _ _ e => e)
  obtain ⟨q1, l, xs, rfl, hl, hsz, W, J, j0, turn, done⟩ := q
  refine comp_core (RR := fun acc C => compPost (model prog w) A E none _ acc C) hh W hl hsz hcell hkind J j0 turn ?_
  intro D C h' tk' m' ys g' nD nC hDC hns hpl hJ s1 s2 gC
  refine ⟨m', hns, fun h'' hs'' => ⟨glue q1 ⟨_, rfl⟩, done D h'' ys g' nD (Heap.PlainList.at hpl fun o e => hs''.extBut _ _ hDC e) hJ s1 fun b o e => hs''.extBut b o (fun x => by rw [x, gC] at e; cases e) (s2 _ _ e)⟩⟩

theorem rCompAssign {elt iter : PySem.Expr} {elts : List PySem.Expr} {tk : Nat} {tp py : Pos} {y : Str} {ifs : List PySem.Expr} {scope : Scope} {pos spos : Pos} (hh : A.handled = none)
    (hclos : closureFor scope env = Pure.pure []) (hcell : ∀ y ∈ scope.names, y.2 ≠ .cell) (hkind : scope.kind = .function) (hnames : ∀ y ∈ scope.names, y.2 = .local → scope.names.lookup y.1 = some .local)
    (k : Run prog w A (eval iter env) h (fun xv h₁ => ∃ (l : Addr) (xs : List Value), xv = .ref l ∧ h₁.IsList l xs.toArray ∧ xs.length ≤ sizeLine ∧ Lc w g L m [] h₁ ∧ ∃ J : Nat → List Value → Heap → Prop, J 0 [] h₁ ∧
      CTurn prog w A (fun C => compEnvC scope [] C env) (.Tuple elts tk tp) elt ifs h₁ xs J ∧
      ∀ (D : Addr) (h' : Heap) (ys : List Value) (g' g3 : Heap), Lc w g3 L (up m y (.ref D)) [] h' → Sub g g3 → g3.PlainList D ys.toArray → J xs.length ys g' → (∀ b o, h₁.get? b = none → g'.get? b = some o → g3.get? b = some o) → Q .next h'))
    (hsw : swapsWith (.ListComp elt [⟨.Tuple elts tk tp, iter, ifs, 0⟩] scope pos) (some (.Name y py)) spos.line env = Pure.pure true := by rfl)
    (hs : ∀ x, foldedSetIterable iter env x = Pure.pure x := by intro _; rfl)
    (hL : env.locals = L := by rfl) (hke : env.scope.kind = .function := by rfl) (hy : env.kindOf y = some .local := by rfl) :
    Run prog w A (exec (.Assign [.Name y py] (.ListComp elt [⟨.Tuple elts tk tp, iter, ifs, 0⟩] scope pos) spos) env) h Q := fun s E e => by
  rw [exec_Assign_Name_used _ _ _ _ hsw]
  refine wpAny_bind (wpAny_standAt (wpAny_bind ?_))
  show wpAny _ A (do let _ ← comprehension (.ListComp elt [⟨.Tuple elts tk tp, iter, ifs, 0⟩] scope pos) scope env _ (newList []) false (eval iter env) (some (assign (.Name y py) env))) _ _ s
  refine wpAny_bind (wpAny_mono (wpAny_comprehension_free (use := some (assign (.Name y py) env)) (Q := fun _ s' => (∃ tk, s' = { s with heap := s'.heap, toks := tk }) ∧ Q .next s'.heap) rfl hs hclos hkind hnames
    (wpAny_mono (k s E e) (fun xv s₁ q => ?_) fun _ _ e => e)) (fun _ s' hq => wpAny_pure (wpAny_pure hq)) fun _ _ e => e)
  obtain ⟨q1, l, xs, rfl, hl, hsz, F, J, j0, turn, done⟩ := q
  refine comp_core (RR := fun acc C => compPost (model prog w) A E (some (assign (.Name y py) env)) _ acc C) hh F.wdh hl hsz hcell hkind J j0 turn ?_
  intro D C h' tk' m' ys g' nD nC hDC hns hpl hJ s1 s2 gC
  obtain ⟨oL, _, _, hoL, _⟩ := id F.ns
  have hLC : C ≠ L := fun x => by rw [x, hoL] at nC; cases nC
  have hLD : D ≠ L := fun x => by rw [x, hoL] at nD; cases nD
  have F1 := F.grow (s1.trans s2)
  show wpAny _ A (assign (.Name y py) env (.ref D)) _ _ _
  refine wpAny_mono ((rAssignN (x := y) (p := py) (v := .ref D) (env := env) (U := fun _ h₂ => Lc w g L (up m y (.ref D)) [] h₂ ∧ Heap.SameBut L h' h₂) (fun s' E' e' => wpAny_storeName_local hy (by rw [hL, e']; exact F1.ns) (fun h₂ hn₂ hs₂ => ⟨⟨_, rfl⟩, F1.store (by rw [hL] at hn₂; exact hn₂) (by rw [hL, e'] at hs₂; exact hs₂), by rw [hL, e'] at hs₂; exact hs₂⟩) (by rw [hke]; rfl))) { s₁ with heap := h', toks := tk' } E rfl) (fun _ s₂ z => ?_) fun _ _ x => x
  obtain ⟨z1, F2, hs₂⟩ := z
  refine ⟨m', hns.sameBut hs₂ hLC, fun h₃ hs₃ => ⟨glue q1 (glue ⟨_, rfl⟩ (glue z1 ⟨_, rfl⟩)), ?_⟩⟩
  have F3 : Lc w g L (up m y (.ref D)) [] h₃ := ⟨F2.ns.sameBut hs₃ (Ne.symm hLC), fun b o e => hs₃.extBut b o (fun x => by rw [x] at e; rw [s1 _ _ (F.sub _ _ e)] at gC; cases gC) (F2.sub _ _ e), F2.off, (fun _ hp => nomatch hp), List.nodup_nil, F2.wd⟩
  obtain ⟨g3, F4, sg, hg⟩ := F3.all
  refine done D h₃ ys g' g3 F4 sg ?_ hJ fun b o e1 e2 => ?_
  · obtain ⟨n, en⟩ := hpl
    exact ⟨n, hg _ _ hLD (hs₃.extBut _ _ hDC (hs₂.extBut _ _ hLD en))⟩
  · have hbL : b ≠ L := fun x => by rw [x, hoL] at e1; cases e1
    have hbC : b ≠ C := fun x => by rw [x, gC] at e2; cases e2
    exact hg _ _ hbL (hs₃.extBut _ _ hbC (hs₂.extBut _ _ hbL (s2 _ _ e2)))
end

end Mine

set_option Elab.async false
set_option maxRecDepth 100000
set_option maxHeartbeats 1000000
set_option linter.unusedVariables false
set_option autoImplicit false
namespace Mine

mutual
theorem Rep.move {N : Addr → Prop} {h h' : Heap} (k : ∀ a o, N a → h.get? a = some o → h'.get? a = some o) : ∀ (t : T) (v : Value), Rep N h t v → Rep N h' t v
  | .nn, v, r => by simpa [Rep] using r
  | .bb b, v, r => by simpa [Rep] using r
  | .ii i, v, r => by simpa [Rep] using r
  | .ll xs, v, r => by
    simp only [Rep] at r ⊢
    obtain ⟨a, vs, e, hn, hp, hr⟩ := r
    exact ⟨a, vs, e, hn, hp.at fun o e => k _ _ hn e, Reps.move k xs vs hr⟩
  | .tt xs, v, r => by
    simp only [Rep] at r ⊢
    obtain ⟨a, vs, e, hn, ⟨o, ho, hc⟩, hr⟩ := r
    exact ⟨a, vs, e, hn, ⟨o, k _ _ hn ho, hc⟩, Reps.move k xs vs hr⟩
  | .dd xs, v, r => by
    simp only [Rep] at r ⊢
    obtain ⟨a, vs, e, hn, hp, hr⟩ := r
    refine ⟨a, vs, e, hn, fun prog w => ?_, Reps.move k xs vs hr⟩
    obtain ⟨o, es, ep, ho, r⟩ := hp prog w
    exact ⟨o, es, ep, k _ _ hn ho, r⟩
termination_by structural t => t
theorem Reps.move {N : Addr → Prop} {h h' : Heap} (k : ∀ a o, N a → h.get? a = some o → h'.get? a = some o) : ∀ (ts : List T) (vs : List Value), Reps N h ts vs → Reps N h' ts vs
  | [], vs, r => by simpa [Reps] using r
  | x :: xs, vs, r => by
    simp only [Reps] at r ⊢
    obtain ⟨v, ws, e, h1, h2⟩ := r
    exact ⟨v, ws, e, Rep.move k x v h1, Reps.move k xs ws h2⟩
termination_by structural ts => ts
end

section
variable {w : World} {g h : Heap} {L : Addr} {m : Str → Option Value}
theorem Lc.notTup (F : Lc w g L m [] h) {a : Addr} {o : Obj} {its : Array Value} {n : Nat} (e : h.get? a = some o) (hd : o.data = .seq its n) : a ≠ L := by
  rintro rfl
  obtain ⟨oL, es, ep, hoL, hdL, _⟩ := F.ns
  rw [hoL] at e
  cases e
  rw [hdL] at hd
  cases hd
/-- all but the frame is kept; lists and pieces may be read there -/
theorem Lc.keep (F : Lc w g L m [] h) : ∃ g', Lc w g' L m [] h ∧ Sub g g' ∧ (∀ b o, b ≠ L → h.get? b = some o → g'.get? b = some o) ∧ (∀ a xs, h.PlainList a xs → g'.PlainList a xs) ∧ (∀ v p, PcAt h v p → PcAt g' v p) := by
  obtain ⟨g', F', s, k⟩ := F.all
  refine ⟨g', F', s, k, fun a xs hp => ?_, fun v p hp => ?_⟩
  · obtain ⟨n, e⟩ := hp
    exact ⟨n, k _ _ (F.notTup e rfl) e⟩
  · obtain ⟨a, t1, t2, t3, e, o, ho, hc, n, hd⟩ := hp
    exact ⟨a, t1, t2, t3, e, o, k _ _ (F.notTup ho hd) ho, hc, n, hd⟩
theorem Pcs.via {g g' : Heap} {vs : List Value} {ps : List Pc} (x : Pcs g vs ps) (k : ∀ v p, PcAt g v p → PcAt g' v p) : Pcs g' vs ps := by
  induction x with
  | nil => exact .nil
  | cons a _ ih => exact .cons (k _ _ a) ih
end

noncomputable abbrev bL : List Stmt := fnBody (stmtAt 60)
noncomputable abbrev envL (fa ca L : Addr) : Env := envAt 60 "law" fa ca L

def more : List Int := [2, 15, 14, 3, 1, 4, 3, 0, 12, 20, 1, 3, 3]

section
variable {prog : Program} {w : World} {A : Around} {g h : Heap} {fa ca L : Addr} {m : Str → Option Value} {P : Value → Heap → Prop} {Q : Flow → Heap → Prop}

theorem rSliceLI {value slice : PySem.Expr} {l sl : Addr} {xs : List Value} {vl vu vs : Value} {lo hi st : Option Int} {ops : List Value} (hl : h.IsList l xs.toArray) (hs : h.IsSliceOf sl vl vu vs)
    (pl : IsPart vl lo) (pu : IsPart vu hi) (ps : IsPart vs st) (h0 : st ≠ some 0) (hsz : xs.length ≤ sizeLine)
    (k : ∀ a h', NewAt h a h' → h'.PlainList a (slicePick xs.toArray lo hi st) → P (.ref a) h')
    (ho : subscripted slice false (.ref l) (.ref sl) = operate ops (getItem (.ref l) (.ref sl)) := by with_unfolding_all rfl) : Run prog w A (subscriptTail value slice (.ref l) (.ref sl)) h P := fun s E e => by
  subst e
  exact tail_any hl.typeIs slot_list_getitem.lookup (wpAny_getItem_list_slice hl hs pl pu ps h0 ⟨⟨_, rfl⟩, k _ _ (newAt_push ..) ⟨0, Heap.get?_push_size _ rfl⟩⟩ (by simpa using hsz)) ho

theorem law_one {c : Addr} {vs : List Value} {ns : List Int} (hA : Room A 2) (F : Lc w g L m [] h) (m1 : m (Str.ofString "script") = some (.ref c)) (hl : g.IsList c vs.toArray) (hi : IntsAre vs ns) (hn : ns.length ≤ 63)
    (k : ∀ h' g' a, Lc w g' L (up m (Str.ofString "thing") (.ref a)) [] h' → Sub g g' → Rep (fun a => (a == sysModules) = false) g' (.ll (build (ns.take 10 ++ more))) (.ref a) → Run prog w A (execs (bL.drop 1) (envL fa ca L)) h' Q) :
    Run prog w A (execs bL (envL fa ca L)) h Q := by
  have hz : sizeLine = 16777216 := rfl
  have hvl := hi.length
  refine rCons ?_
  refine rAssign ?_
  refine rCall ?_
  refine rG F.wdh g_thing ?_
  refine rCallDef rfl ?_
  refine rItems ?_
  refine rBin ?_
  refine rSub ?_
  refine rLocal F m1 ?_
  refine rSliceE <| rPartN <| rPartS <| rInt fun t1 => rPartN ?_
  refine rSliceLI ((hl.at fun o e => F.sub _ _ e).at fun o e => Heap.get?_push_of_some _ e) ⟨_, Heap.get?_push_size _ rfl, rfl, rfl⟩ .none (.int 10 t1) .none (by simp) (by omega) fun a1 h1 n1 p1 => ?_
  have e10 := slicePick_upto' vs.toArray 10
  rw [show ((10 : Nat) : Int) = 10 from rfl] at e10
  rw [e10] at p1
  have p1' : h1.PlainList a1 (vs.take 10).toArray := by simpa using p1
  have s1 : Sub h h1 := (Sub.push _ _).trans n1.sub
  refine rNewList ?_
  refine rItems ?_
  refine rInt fun u1 => ?_
  refine rItems ?_
  refine rInt fun u2 => ?_
  refine rItems ?_
  refine rInt fun u3 => ?_
  refine rItems ?_
  refine rInt fun u4 => ?_
  refine rItems ?_
  refine rInt fun u5 => ?_
  refine rItems ?_
  refine rInt fun u6 => ?_
  refine rItems ?_
  refine rInt fun u7 => ?_
  refine rItems ?_
  refine rInt fun u8 => ?_
  refine rItems ?_
  refine rInt fun u9 => ?_
  refine rItems ?_
  refine rInt fun u10 => ?_
  refine rItems ?_
  refine rInt fun u11 => ?_
  refine rItems ?_
  refine rInt fun u12 => ?_
  refine rItems ?_
  refine rInt fun u13 => ?_
  refine rItemsNil ⟨by simp [sizeLine], fun a2 h2 n2 p2 => ?_⟩
  refine rAddL (p1'.at fun o e => n2.sub _ _ e) p2 (by simp; omega) fun a3 h3 n3 p3 => ?_
  have F3 := F.grow (s1.trans (n2.sub.trans n3.sub))
  have hints : IntsAre (vs.take 10 ++ [.int 2 u1, .int 15 u2, .int 14 u3, .int 3 u4, .int 1 u5, .int 4 u6, .int 3 u7, .int 0 u8, .int 12 u9, .int 20 u10, .int 1 u11, .int 3 u12, .int 3 u13]) (ns.take 10 ++ more) :=
    IntsAre.append (hi.take 10) (.cons _ _ (.cons _ _ (.cons _ _ (.cons _ _ (.cons _ _ (.cons _ _ (.cons _ _ (.cons _ _ (.cons _ _ (.cons _ _ (.cons _ _ (.cons _ _ (.cons _ _ .nil)))))))))))))
  refine rItemsNil ⟨F3.wdh, thing_call hA F3.wdh p3 hints (by simp [more]; omega) fun a us h4 s4 fr pl rp => ?_⟩
  have F4 := F3.grow s4
  obtain ⟨g5, F5, sg, hk5⟩ := F4.all
  obtain ⟨oL, _, _, hoL, _⟩ := id F3.ns
  have hrep : Rep (Fresh h3) g5 (.ll (build (ns.take 10 ++ more))) (.ref a) := by
    refine Rep.move (h := h4) (fun b o hb e => hk5 b o (fun x => ?_) e) _ _ ?_
    · rw [x] at hb; rw [hb.1] at hoL; cases hoL
    · simp only [Rep]; exact ⟨a, us, rfl, fr, pl, rp⟩
  refine rStore F5 fun h6 F6 => ?_
  exact k h6 g5 a F6 sg (hrep.less fun a x => x.2)
end

end Mine

set_option Elab.async false
set_option maxRecDepth 100000
set_option maxHeartbeats 1000000
set_option linter.unusedVariables false
set_option autoImplicit false
namespace Mine

abbrev NM (a : Addr) : Prop := (a == sysModules) = false

section
variable {prog : Program} {w : World} {A : Around} {g h : Heap} {fa ca L a b : Addr} {m : Str → Option Value} {P : Value → Heap → Prop} {Q : Flow → Heap → Prop} {t : T} {u : Tok} {vs : List Value}

theorem law_two (hA : Room A 1) (F : Lc w g L m [] h) (m1 : m (Str.ofString "thing") = some (.ref a)) (hr : Rep NM g t (.ref a)) (ht : small t) (hz : sz t ≤ 47)
    (k : ∀ h' g' m' b vs u, Lc w g' L m' [] h' → Sub g g' → m' (Str.ofString "thing") = some (.ref a) → m' (Str.ofString "text") = some (.str (txt (flat (sgs t))) u) → m' (Str.ofString "whole") = some (.ref b) →
      g'.PlainList b vs.toArray → Pcs g' vs (toks (sgs t) 0) → Run prog w A (execs (bL.drop 3) (envL fa ca L)) h' Q) :
    Run prog w A (execs (bL.drop 1) (envL fa ca L)) h Q := by
  have hl := flat_len t ht (by omega)
  refine rCons ?_
  refine rAssign ?_
  refine rCall ?_
  refine rG F.wdh g_safe ?_
  refine rCallDef rfl ?_
  refine rItems ?_
  refine rLocal F m1 ?_
  refine rItemsNil ⟨F.wdh, safe_call0 hA F.wdh (hr.sub F.sub) (fun _ x => x) ht hz fun u h1 s1 => ?_⟩
  refine rStore (F.grow s1) fun h2 F2 => ?_
  refine rCons ?_
  refine rAssign ?_
  refine rCall ?_
  refine rG F2.wdh g_pieces ?_
  refine rCallDef rfl ?_
  refine rItems ?_
  refine rLocal F2 up_same ?_
  refine rItemsNil ⟨F2.wdh, pieces_call hA F2.wdh (by omega) (lex_thing (tab_TF w) t) fun b vs h3 s3 nb pb pc => ?_⟩
  obtain ⟨g', F3, sg, hk, hkl, hkp⟩ := (F2.grow s3).keep
  refine rStore F3 fun h4 F4 => ?_
  exact k h4 g' _ b vs u F4 sg ((up_ne (by decide)).trans ((up_ne (by decide)).trans m1)) ((up_ne (by decide)).trans up_same) up_same (hkl _ _ pb) (pc.via hkp)

theorem law_three {ps : List Pc} (hA : Room A 50) (F : Lc w g L m [] h) (m1 : m (Str.ofString "thing") = some (.ref a)) (m3 : m (Str.ofString "whole") = some (.ref b)) (hr : Rep NM g t (.ref a)) (ht : small t) (hz : sz t ≤ 47)
    (hb : g.PlainList b vs.toArray) (hp : Pcs g vs ps) (hps : ps.map (·.1) = kd t) (hrd : RSteps [[]] false ps [[t]] false) (hlen : ps.length ≤ 5000)
    (k : ∀ h', Lc w g L m [] h' → Run prog w A (execs (bL.drop 4) (envL fa ca L)) h' Q) :
    Run prog w A (execs (bL.drop 3) (envL fa ca L)) h Q := by
  have hsl : sizeLine = 16777216 := rfl
  have hvl := hp.length
  refine rCons ?_
  refine rIf ?_
  refine rTestBool ?_
  refine rOrCons ?_
  refine rTestCmp ?_
  refine rCompEval hA.handled rfl (by decide) rfl (by decide) ?_
  refine rLocal F m3 ?_
  refine ⟨b, vs, rfl, hb.isList.at fun o e => F.sub _ _ e, by omega, F.wdh, fun i ys g' => IntsAre ys ((ps.take i).map (·.1)), by simpa using IntsAre.nil, ?_, ?_⟩
  · intro I C D i v g' m' ys h' o hv hs hJ F'
    obtain ⟨p, hpi, c, t1, t2, t3, rfl, htup⟩ := paired_get hp i v hv
    refine rTargets hA.handled (((htup.keeps F.sub).keeps hs).keeps F'.sub) fun h2 s2 => ?_
    refine rOrder <| rAssignN <| rStore (F'.grow s2) fun h3 F3 => rOrder <| rAssignN <| rStore F3 fun h4 F4 => rOrder <| rAssignN <| rStore F4 fun h5 F5 => rOrderNil ?_
    refine Run.of_pure (a := true) rfl ?_
    refine ifT ?_
    refine rLocal F5 ((up_ne (by decide)).trans ((up_ne (by decide)).trans up_same)) ?_
    refine ⟨g', _, Sub.refl _, F5, ?_⟩
    show IntsAre (ys ++ [Value.int p.1 t1]) ((ps.take (i + 1)).map (·.1))
    rw [List.take_add_one, hpi]
    simpa using IntsAre.append hJ (.cons p.1 t1 .nil)
  · intro D h' ys g' nD hpl hJ s1 s2
    have F1 := F.grow (s1.trans s2)
    replace hJ : IntsAre ys ((ps.take vs.length).map (·.1)) := hJ
    rw [hvl, List.take_length, hps] at hJ
    refine rCall ?_
    refine rG F1.wdh g_kinds ?_
    refine rCallDef rfl ?_
    refine rItems ?_
    refine rLocal F1 m1 ?_
    refine rItemsNil ⟨F1.wdh, kinds_call 47 t hz (by omega) (hA.less (by omega)) F1.wdh (fun _ x => x) (hr.sub F1.sub) fun a2 vs2 h2 n2 p2 i2 => ?_⟩
    refine rNeInts (hA.less (by omega)) (Heap.PlainList.at hpl fun o e => n2.sub _ _ e) p2 hJ i2 ?_
    refine rTruthBool ?_
    refine ifF ?_
    have F2 := F1.grow n2.sub
    refine rOrCons ?_
    refine rTestCmp ?_
    refine rCall ?_
    refine rG F2.wdh g_read ?_
    refine rCallDef rfl ?_
    refine rItems ?_
    refine rLocal F2 m3 ?_
    refine rItemsNil ⟨F2.wdh, read_call (hA.less (by omega)) F2.wdh (Heap.PlainList.at hb fun o e => F2.sub _ _ e) (hp.sub F2.sub) hlen hrd fun a3 us h3 s3 f3 p3 r3 => ?_⟩
    have F3 := F2.grow s3
    refine rNewList ?_
    refine rItems ?_
    refine rLocal F3 m1 ?_
    refine rItemsNil ⟨by simp [sizeLine], fun a4 h4 n4 p4 => ?_⟩
    have F4 := F3.grow n4.sub
    refine rNeReps (N2 := NM) (ts := [t]) (hA.less (by omega)) (fun _ x => x.2) (fun _ x => x) (Heap.PlainList.at p3 fun o e => n4.sub _ _ e) p4 (r3.sub n4.sub) (by simp only [Reps]; exact ⟨_, _, rfl, hr.sub F4.sub, rfl⟩) (by simp only [szs]; omega) ?_
    refine rTruthBool ?_
    refine ifF ?_
    refine rOrNil ?_
    refine ifF ?_
    exact rNil <| k h4 F4

/-- a piece in an object that is not in h₁ -/
def PcNew (h₁ g' : Heap) (v : Value) (p : Pc) : Prop := ∃ a t1 t2 t3, v = .ref a ∧ h₁.get? a = none ∧ IsTup g' a [.int p.1 t1, .str (txt p.2.1) t2, .int (p.2.2 : Int) t3].toArray
theorem pcNew_sub {h₁ g g' : Heap} {vs : List Value} {ps : List Pc} (x : Paired (PcNew h₁ g) vs ps) (k : Sub g g') : Paired (PcNew h₁ g') vs ps := by
  induction x with
  | nil => exact .nil
  | cons a _ ih => obtain ⟨b, t1, t2, t3, e, hn, ht⟩ := a; exact .cons ⟨b, t1, t2, t3, e, hn, ht.keeps k⟩ ih
theorem duePs_snoc (ps : List Pc) (p : Pc) : duePs 80 (ps ++ [p]) = duePs 80 ps ++ (if p.2.2 < 80 then [(p.1, p.2.1.take (80 - p.2.2), p.2.2)] else []) := by
  unfold duePs
  rw [List.filter_append, List.map_append]
  congr 1
  by_cases h : p.2.2 < 80 <;> simp [h]

theorem law_four {ps : List Pc} (hA : Room A 1) (F : Lc w g L m [] h) (m3 : m (Str.ofString "whole") = some (.ref b)) (hb : g.PlainList b vs.toArray) (hp : Pcs g vs ps) (hlen : ps.length ≤ 5000) (hwl : ∀ p ∈ ps, p.2.1.length ≤ 10000)
    (k : ∀ h' g' D ys, Lc w g' L (up m (Str.ofString "due") (.ref D)) [] h' → Sub g g' → g'.PlainList D ys.toArray → Pcs g' ys (duePs 80 ps) → Run prog w A (execs (bL.drop 5) (envL fa ca L)) h' Q) :
    Run prog w A (execs (bL.drop 4) (envL fa ca L)) h Q := by
  have hsl : sizeLine = 16777216 := rfl
  have hvl := hp.length
  refine rCons ?_
  refine rCompAssign (g := g) (L := L) (m := m) hA.handled rfl (by decide) rfl (by decide) ?_
  refine rLocal F m3 ?_
  refine ⟨b, vs, rfl, hb.isList.at fun o e => F.sub _ _ e, by omega, F, fun i ys g' => Paired (PcNew h g') ys (duePs 80 (ps.take i)), .nil, ?_, ?_⟩
  · intro I C D i v g' m' ys h' o hv hs hJ F'
    obtain ⟨p, hpi, c, t1, t2, t3, rfl, htup⟩ := paired_get hp i v hv
    have hpw := hwl p (List.mem_of_getElem? hpi)
    refine rTargets hA.handled (((htup.keeps F.sub).keeps hs).keeps F'.sub) fun h2 s2 => ?_
    refine rOrder <| rAssignN <| rStore (F'.grow s2) fun h3 F3 => rOrder <| rAssignN <| rStore F3 fun h4 F4 => rOrder <| rAssignN <| rStore F4 fun h5 F5 => rOrderNil ?_
    have e1 : up (up (up m' (Str.ofString "kind") (Value.int p.fst t1)) (Str.ofString "word") (Value.str (txt p.snd.fst) t2)) (Str.ofString "at") (Value.int (↑p.snd.snd) t3) (Str.ofString "kind") = some (Value.int p.fst t1) := (up_ne (by decide)).trans ((up_ne (by decide)).trans up_same)
    have e2 : up (up (up m' (Str.ofString "kind") (Value.int p.fst t1)) (Str.ofString "word") (Value.str (txt p.snd.fst) t2)) (Str.ofString "at") (Value.int (↑p.snd.snd) t3) (Str.ofString "word") = some (Value.str (txt p.snd.fst) t2) := (up_ne (by decide)).trans up_same
    have e3 : up (up (up m' (Str.ofString "kind") (Value.int p.fst t1)) (Str.ofString "word") (Value.str (txt p.snd.fst) t2)) (Str.ofString "at") (Value.int (↑p.snd.snd) t3) (Str.ofString "at") = some (Value.int (↑p.snd.snd) t3) := up_same
    generalize up (up (up m' (Str.ofString "kind") (Value.int p.fst t1)) (Str.ofString "word") (Value.str (txt p.snd.fst) t2)) (Str.ofString "at") (Value.int (↑p.snd.snd) t3) = m5 at F5 e1 e2 e3
    refine (show Run prog w A (isTrue _ _ (eval _ _)) h5 _ → Run prog w A (testsOf [_] _) h5 _ from fun r s E e => wpAny_tests_one (r s E e)) ?_
    refine rTestCmp ?_
    refine rLocal F5 e3 ?_
    refine rInt fun t4 => ?_
    refine rLtI ?_
    refine rTruthBool ?_
    have hstep : duePs 80 (ps.take (i + 1)) = duePs 80 (ps.take i) ++ (if p.2.2 < 80 then [(p.1, p.2.1.take (80 - p.2.2), p.2.2)] else []) := by
      rw [List.take_add_one, hpi]
      exact duePs_snoc _ _
    by_cases h80 : p.2.2 < 80
    · rw [decide_eq_true (by omega)]
      refine ifT ?_
      refine rNewTuple ?_
      refine rItems ?_
      refine rLocal F5 e1 ?_
      refine rItems ?_
      refine rSub ?_
      refine rLocal F5 e2 ?_
      refine rSliceE ?_
      refine rPartN ?_
      refine rPartS ?_
      refine rBin ?_
      refine rInt fun t5 => ?_
      refine rLocal F5 e3 ?_
      refine rSubI fun t6 => ?_
      refine rPartN ?_
      refine rSliceS0 (b := 80 - p.2.2) (by omega) (by rw [txt_len]; omega) fun t7 h7 s7 => ?_
      have F7 := F5.grow s7
      refine rItems ?_
      refine rLocal F7 e3 ?_
      refine rItemsNil ⟨by simp [sizeLine], fun a8 h8 n8 p8 => ?_⟩
      obtain ⟨g'', F8, sg, hg⟩ := F7.ext n8.sub
      refine ⟨g'', _, sg, F8, ?_⟩
      show Paired (PcNew h g'') (ys ++ [.ref a8]) (duePs 80 (ps.take (i + 1)))
      rw [hstep, if_pos h80]
      refine Paired.snoc (pcNew_sub hJ sg) ⟨a8, t1, t7, t3, rfl, ?_, ?_⟩
      · exact none_up n8.none (hs.trans F7.sub)
      · obtain ⟨o8, ho8, rr⟩ := p8
        refine ⟨o8, hg _ _ n8.none ho8, ?_⟩
        have ec : cut (txt p.2.1) 0 (80 - p.2.2) = txt (p.2.1.take (80 - p.2.2)) := by simp [cut, txt]
        rw [ec] at rr
        exact rr
    · rw [decide_eq_false (by omega)]
      refine ifF ?_
      refine ⟨g', _, Sub.refl _, F5, ?_⟩
      show Paired (PcNew h g') ys (duePs 80 (ps.take (i + 1)))
      rw [hstep, if_neg h80, List.append_nil]
      exact hJ
  · intro D h' ys g' g3 F3 sg hpl hJ hnew
    replace hJ : Paired (PcNew h g') ys (duePs 80 (ps.take vs.length)) := hJ
    rw [hvl, List.take_length] at hJ
    refine k h' g3 D ys F3 sg hpl ?_
    clear hpl F3
    generalize duePs 80 ps = qs at hJ
    induction hJ with
    | nil => exact .nil
    | cons a _ ih =>
      obtain ⟨b, t1, t2, t3, e, hn, o, ho, rr⟩ := a
      exact .cons ⟨b, t1, t2, t3, e, o, hnew _ _ hn ho, rr⟩ ih

theorem law_five {D : Addr} {ys : List Value} (hA : Room A 1) (F : Lc w g L m [] h) (m2 : m (Str.ofString "text") = some (.str (txt (flat (sgs t))) u)) (m4 : m (Str.ofString "due") = some (.ref D)) (hz : (flat (sgs t)).length ≤ 10000)
    (hD : g.PlainList D ys.toArray) (hp : Pcs g ys (duePs 80 (toks (sgs t) 0))) (hyl : ys.length ≤ 10000)
    (k : ∀ h' g' m' D ys, Lc w g' L m' [] h' → Sub g g' → m' (Str.ofString "thing") = m (Str.ofString "thing") → m' (Str.ofString "due") = some (.ref D) → g'.PlainList D ys.toArray → Pcs g' ys (shortPs t) → Run prog w A (execs (bL.drop 6) (envL fa ca L)) h' Q) :
    Run prog w A (execs (bL.drop 5) (envL fa ca L)) h Q := by
  have hsl : sizeLine = 16777216 := rfl
  refine rCons ?_
  refine rIf ?_
  refine rTestCmp ?_
  refine rCall ?_
  refine rB F.wdh b_len ?_
  refine rCallB ?_
  refine rItems ?_
  refine rLocal F m2 ?_
  refine rItemsNil ?_
  refine rLenS (by rw [txt_len]; omega) fun t1 => ?_
  refine rInt fun t2 => ?_
  refine rGeI ?_
  refine rTruthBool ?_
  rw [txt_len]
  by_cases hlt : (flat (sgs t)).length < 80
  · rw [decide_eq_false (by omega)]
    refine ifF ?_
    refine rNil ?_
    refine k h g m D ys F (Sub.refl _) rfl m4 hD ?_
    unfold shortPs
    rw [if_pos hlt, List.append_nil]
    exact hp
  · rw [decide_eq_true (by omega)]
    refine ifT ?_
    refine rCons ?_
    refine rAssign ?_
    refine rBin ?_
    refine rLocal F m4 ?_
    refine rNewList ?_
    refine rItems ?_
    refine rNewTuple ?_
    refine rItems ?_
    refine rInt fun a1 => ?_
    refine rItems ?_
    refine rStr fun a2 => ?_
    refine rItems ?_
    refine rInt fun a3 => ?_
    refine rItemsNil ⟨by simp [sizeLine], fun b1 h1 n1 p1 => ?_⟩
    refine rItems ?_
    refine rNewTuple ?_
    refine rItems ?_
    refine rInt fun a4 => ?_
    refine rItems ?_
    refine rStr fun a5 => ?_
    refine rItems ?_
    refine rInt fun a6 => ?_
    refine rItemsNil ⟨by simp [sizeLine], fun b2 h2 n2 p2 => ?_⟩
    refine rItems ?_
    refine rNewTuple ?_
    refine rItems ?_
    refine rInt fun a7 => ?_
    refine rItems ?_
    refine rStr fun a8 => ?_
    refine rItems ?_
    refine rInt fun a9 => ?_
    refine rItemsNil ⟨by simp [sizeLine], fun b3 h3 n3 p3 => ?_⟩
    refine rItems ?_
    refine rNewTuple ?_
    refine rItems ?_
    refine rInt fun a10 => ?_
    refine rItems ?_
    refine rStr fun a11 => ?_
    refine rItems ?_
    refine rInt fun a12 => ?_
    refine rItemsNil ⟨by simp [sizeLine], fun b4 h4 n4 p4 => ?_⟩
    refine rItemsNil ⟨by simp [sizeLine], fun b5 h5 n5 p5 => ?_⟩
    have s12 : Sub h1 h5 := n2.sub.trans (n3.sub.trans (n4.sub.trans n5.sub))
    have s05 : Sub h h5 := n1.sub.trans s12
    refine rAddL (Heap.PlainList.at hD fun o e => s05 _ _ (F.sub _ _ e)) p5 (by simp; omega) fun b6 h6 n6 p6 => ?_
    have F6 := F.grow (s05.trans n6.sub)
    obtain ⟨g', F7, sg, hk, hkl, hkp⟩ := F6.keep
    refine rStore F7 fun h8 F8 => ?_
    refine thenNil ?_
    have e1 : Str.ofString "[" = txt [91] := by decide
    have e2 : Str.ofString "truncated" = txt [116, 114, 117, 110, 99, 97, 116, 101, 100] := by decide
    have e3 : Str.ofString "]" = txt [93] := by decide
    have e4 : Str.ofString "..." = txt [46, 46, 46] := by decide
    rw [e1] at p1
    rw [e2] at p2
    rw [e3] at p3
    rw [e4] at p4
    refine k h8 g' _ b6 _ F8 sg (up_ne (by decide)) up_same (hkl _ _ p6) ?_
    unfold shortPs
    rw [if_neg hlt]
    have happ : ∀ {xs zs : List Value} {ps qs : List Pc}, Pcs g' xs ps → Pcs g' zs qs → Pcs g' (xs ++ zs) (ps ++ qs) := by
      intro xs zs ps qs h1 h2
      induction h1 with
      | nil => exact h2
      | cons a _ ih => exact .cons a ih
    refine happ (hp.sub sg) ?_
    refine .cons (hkp _ _ ⟨b1, a1, a2, a3, rfl, p1.keeps (s12.trans n6.sub)⟩) ?_
    refine .cons (hkp _ _ ⟨b2, a4, a5, a6, rfl, p2.keeps ((n3.sub.trans (n4.sub.trans n5.sub)).trans n6.sub)⟩) ?_
    refine .cons (hkp _ _ ⟨b3, a7, a8, a9, rfl, p3.keeps ((n4.sub.trans n5.sub).trans n6.sub)⟩) ?_
    refine .cons (hkp _ _ ⟨b4, a10, a11, a12, rfl, p4.keeps (n5.sub.trans n6.sub)⟩) ?_
    exact .nil

theorem short_len (l : List Nat) : (short l).length ≤ l.length + 15 := by
  unfold short
  split
  · omega
  · rw [List.length_append, List.length_take]
    show _ + 15 ≤ _
    omega
theorem law_six {D : Addr} {ys : List Value} (hA : Room A 1) (F : Lc w g L m [] h) (m1 : m (Str.ofString "thing") = some (.ref a)) (m4 : m (Str.ofString "due") = some (.ref D)) (hr : Rep NM g t (.ref a)) (ht : small t) (hz : sz t ≤ 47)
    (hD : g.PlainList D ys.toArray) (hp : Pcs g ys (shortPs t)) (k : ∀ h', Sub g h' → Q (.ret (.bool true)) h') : Run prog w A (execs (bL.drop 6) (envL fa ca L)) h Q := by
  have hl := flat_len t ht (by omega)
  refine rCons ?_
  refine rReturn ?_
  refine rCmp ?_
  refine rCall ?_
  refine rG F.wdh g_pieces ?_
  refine rCallDef rfl ?_
  refine rItems ?_
  refine rCall ?_
  refine rG F.wdh g_safe ?_
  refine rCallDef rfl ?_
  refine rItems ?_
  refine rLocal F m1 ?_
  refine rItems ?_
  refine rBool ?_
  refine rItemsNil ⟨F.wdh, safe_call1 hA F.wdh (hr.sub F.sub) (fun _ x => x) ht hz fun u h1 s1 => ?_⟩
  have F1 := F.grow s1
  refine rItemsNil ⟨F1.wdh, pieces_call hA F1.wdh (by have := short_len (flat (sgs t)); omega) (lex_short (tab_TF w) t) fun b vs h2 s2 nb pb pc => ?_⟩
  have F2 := F1.grow s2
  refine rLocal F2 m4 ?_
  refine rEqPcs (hA.less (by omega)) pb (Heap.PlainList.at hD fun o e => F2.sub _ _ e) pc (hp.sub F2.sub) ?_
  exact k h2 F2.sub
end

theorem toks_words : ∀ (ss : List Seg) (i : Nat), ∀ p ∈ toks ss i, p.2.1.length ≤ (flat ss).length
  | [], i, p, h => by simp [toks] at h
  | none :: r, i, p, h => by have := toks_words r (i + 1) p h; simp only [flat_cons, segW, List.length_append, List.length_cons, List.length_nil]; omega
  | some q :: r, i, p, h => by
    simp only [flat_cons, segW, List.length_append]
    rcases List.mem_cons.mp h with rfl | h
    · simp only; omega
    · have := toks_words r _ p h; omega
theorem duePs_len (n : Nat) (ps : List Pc) : (duePs n ps).length ≤ ps.length := by
  unfold duePs
  rw [List.length_map]
  exact List.length_filter_le ..

section
variable {prog : Program} {w : World} {A : Around} {g h : Heap} {fa ca L : Addr} {m : Str → Option Value}

theorem law_body {c : Addr} {vs : List Value} {ns : List Int} (hA : Room A 50) (F : Lc w g L m [] h) (m1 : m (Str.ofString "script") = some (.ref c)) (hl : g.IsList c vs.toArray) (hi : IntsAre vs ns) (hn : ns.length ≤ 63) :
    Run prog w A (execs bL (envL fa ca L)) h (fun f h' => f = .ret (.bool true) ∧ Sub g h') := by
  refine law_one (hA.less (by omega)) F m1 hl hi hn fun h1 g1 a F1 s1 hr => ?_
  have hn' : (ns.take 10 ++ more).length ≤ 23 := by simp [more]; omega
  have hsz := build_sz (ns.take 10 ++ more) hn'
  have hsm := build_small (ns.take 10 ++ more)
  have ht : small (.ll (build (ns.take 10 ++ more))) := by simpa [small] using hsm
  have hz : sz (.ll (build (ns.take 10 ++ more))) ≤ 47 := by simp only [sz]; omega
  generalize (T.ll (build (ns.take 10 ++ more))) = t at hr ht hz
  have hfl := flat_len t ht (by omega)
  have htl := toks_len (sgs t) 0 (wf_thing t)
  refine law_two (hA.less (by omega)) F1 up_same hr ht hz fun h2 g2 m2 b ws u F2 s2 e1 e2 e3 hb hp => ?_
  refine law_three hA F2 e1 e3 (hr.sub s2) ht hz hb hp (by rw [toks_kinds, kds_sgs]) (rd_thing t ht (by omega)) (by omega) fun h3 F3 => ?_
  refine law_four (hA.less (by omega)) F3 e3 hb hp (by omega) (fun p hp => by have := toks_words _ _ p hp; omega) fun h4 g4 D ys F4 s4 hD hpd => ?_
  refine law_five (u := u) (hA.less (by omega)) F4 ((up_ne (by decide)).trans e2) up_same (by omega) hD hpd (by rw [hpd.length]; have := duePs_len 80 (toks (sgs t) 0); omega) fun h5 g5 m5 D5 ys5 F5 s5 f1 f2 hD5 hp5 => ?_
  refine law_six (hA.less (by omega)) F5 (f1.trans ((up_ne (by decide)).trans e1)) f2 (hr.sub (s2.trans (s4.trans s5))) ht hz hD5 hp5 fun h6 s6 => ⟨rfl, ?_⟩
  exact s1.trans (s2.trans (s4.trans (s5.trans s6)))
end

end Mine

set_option Elab.async false
set_option maxRecDepth 100000
set_option maxHeartbeats 8000000
set_option linter.unusedVariables false
set_option autoImplicit false
namespace Mine
theorem top_room (env : Env) : Room (callerA.deeper env) 50 := ⟨rfl, show 1 + claimMargin + 1 + 50 < recursionLimit by decide, rfl, show 4 + 3 + 4 * 50 + 200 < cLine by decide⟩
theorem top : PySem.Challenge.rw_mr0162_01.Holds := hd (by
  k_go0
  rename Fr _ _ _ _ => F0
  rename IntsAre _ _ => hI0
  rename Heap.IsList _ _ _ => hL0
  rename Frag.In _ _ => K0
  rename Top _ _ _ _ _ _ => T0
  rename ¬ _ < _ => hn0
  rename _ = #[] => hg0
  have W : Wd _ _ := ⟨K0, ⟨_, _, _, _, topRead_of T0⟩, (let ⟨_, ⟨o, _, _, ho, _⟩, _⟩ := (T0.seer (by kernel_rfl)).mods; ⟨o, ho⟩)⟩
  have Fl : Lc _ _ _ _ [] _ := ⟨F0.ns, F0.keep, none_of_size _ (Nat.le_refl _), (fun _ hp => nomatch hp), List.nodup_nil, W⟩
  refine wpAny_mono ((law_body (top_room _) Fl rfl hL0 hI0 (by omega)) _ _ rfl) (fun f s' q => ?_) fun _ _ x => x
  obtain ⟨⟨tk, e⟩, rfl, hsub⟩ := q
  have hos : s'.os = _ := congrArg Shared.os e
  have hgs : s'.gens = _ := congrArg Shared.gens e
  refine ⟨.inl ⟨.bool true, .bool true, [], rfl, raisesW_false ?_, .bool true, ?_, fun _ => ⟨List.nodup_nil, fun _ hm => nomatch hm⟩⟩, hsub, hos, hgs.trans hg0⟩
  · wrow_none_raised
  · first | wrow_post | kc_post)
end Mine

set_option maxHeartbeats 8000000 in
theorem PySem.Challenge.cw_mr0162_01_holds : PySem.Challenge.rw_mr0162_01.Holds :=
  Mine.top
