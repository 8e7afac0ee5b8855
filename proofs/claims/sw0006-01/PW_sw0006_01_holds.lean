import PyProof.Rows.All
import Wide.All
import OpenK.AllK
import Wide.FinOn
import Lean
import PySem.Challenge.RW_sw0006_01
set_option Elab.async false
set_option compiler.extract_closed false

section
open PySem PySem.W PyProof.Rows
namespace Mine
set_option maxRecDepth 100000 in
set_option maxHeartbeats 8000000 in
open_top hd for PySem.Challenge.rw_sw0006_01
end Mine
end

namespace Mine

-- PART-END Top06

section
section
theorem rm0 {a k c : Nat} (h : a + k < c) : a < c := Nat.lt_of_le_of_lt (Nat.le_add_right ..) h
theorem rm1 {a b k c : Nat} (h : a + k < c) (hn : b ≤ k) : a + b < c := Nat.lt_of_le_of_lt (Nat.add_le_add_left hn a) h
theorem rm2 {a b d k c : Nat} (h : a + k < c) (hn : b + d ≤ k) : a + b + d < c := Nat.add_assoc a b d ▸ rm1 h hn
theorem in1 {a b c : Prop} (h : a ∧ b ∧ c) : b := h.2.1
theorem three {d : Int} (h : 0 ≤ d ∧ d < 3) : d = 0 ∨ d = 1 ∨ d = 2 := by lia
theorem four {d : Int} (h : 0 ≤ d ∧ d < 4) : d = 0 ∨ d = 1 ∨ d = 2 ∨ d = 3 := by lia
theorem eight {d : Int} (h : 0 ≤ d ∧ d < 8) : d = 0 ∨ d = 1 ∨ d = 2 ∨ d = 3 ∨ d = 4 ∨ d = 5 ∨ d = 6 ∨ d = 7 := by lia
end
end
local macro_rules | `(tactic| walk_at "conj") => `(tactic| (first | (with_reducible assumption) | exact And.left (by (first | (with_reducible assumption) | exact And.right (by (first | (with_reducible assumption) | exact And.right (by (first | (with_reducible assumption) | exact And.right (by (first | (with_reducible assumption) | exact And.right (by (first | (with_reducible assumption) | exact And.right (by (first | (with_reducible assumption) | exact And.right (by (first | (with_reducible assumption) | exact And.right (by (first | (with_reducible assumption) | exact And.right (by (first | (with_reducible assumption) | exact And.right (by (with_reducible assumption))))))))))))))))))))))
local macro_rules | `(tactic| omega) => `(tactic| (first | walk_at "conj" | exact Nat.ne_of_lt (by walk_at "conj") | exact Nat.ne_of_gt (by walk_at "conj") | exact rm0 (by walk_at "conj") | exact rm1 (by walk_at "conj") (by decide) | exact rm2 (by walk_at "conj") (by decide) | exact Nat.le_trans (by walk_at "conj") (by decide) | decide | lia))
-- PART-END Om

section
open PySem PySem.W PyProof.Rows PySem.Spec
section
theorem hide {G : Prop} (h : ∀ P : Prop, (G → P) → P) : G := h G id

def ForAt (prog : Program) (w : World) (A : Around) (env : Env) (target : Expr) (body : List Stmt) (Q : Flow → Shared → Prop) (it : Value) (s₂ : Shared) : Prop :=
  codeAny (model prog w) A (.forLoop target it body [] env) (fun r s' => match r with | .ok f => Q f s' | .error _ => False) s₂

section
variable {prog : Program} {w : World} {A : Around} {s : Shared} {env : Env} {h₀ : Heap} {target : Expr} {body : List Stmt} {Q : Flow → Shared → Prop} {E : Value → Shared → Prop} {L : Addr}

theorem exec_for {iter : Expr} {pos : Pos}
    (h : wpAny (model prog w) A (eval iter env) (fun xv s₁ => wpAny (model prog w) A (pyIter xv) (fun it s₂ => ForAt prog w A env target body Q it s₂) E s₁) E s)
    (hs : ∀ x, foldedSetIterable iter env x = pure x := by intro _; rfl) :
    wpAny (model prog w) A (exec (.For target iter body [] pos) env) Q E s := by
  refine wpAny_For (wpAny_mono h (fun xv s₁ h₁ => wpAny_mono h₁ (fun it s₂ h₂ => ?_) fun _ _ e => e) fun _ _ e => e) hs
  refine codeAny_mono h₂ fun r s' hr => ?_
  cases r with
  | ok f => exact hr
  | error e => exact hr.elim

/-- what a turn of a loop hands on -/
def TurnEnd (h₀ : Heap) (L I : Addr) (oI : Obj) (J : (Str → Option Value) → List (Addr × Obj) → Prop) (s s₂ : Shared) : Prop :=
  ∃ h' tk m' nx, s₂ = { s with heap := h', toks := tk } ∧ Fr h₀ L h' m' ∧ News h₀ L h' ((I, oI) :: nx) ∧ (∀ p ∈ nx, p.1 ≠ I) ∧ J m' nx
def TurnPost (h₀ : Heap) (L I : Addr) (oI : Obj) (J : (Str → Option Value) → List (Addr × Obj) → Prop) (s : Shared) (Q : Flow → Shared → Prop) (f : Flow) (s₂ : Shared) : Prop :=
  match f with
  | .ret v => Q (.ret v) s₂
  | .brk => Q .next s₂
  | _ => TurnEnd h₀ L I oI J s s₂

/-- the loop, over any walk of an iterator of the call's own -/
theorem for_walk {I : Addr} {n : Nat} {P : Nat → Value → Prop} {St : Nat → Heap → Prop} {m : Str → Option Value} {nx : List (Addr × Obj)} (J : Nat → (Str → Option Value) → List (Addr × Obj) → Prop)
    (hst : St 0 s.heap) (F : Fr h₀ env.locals s.heap m) (N : News h₀ env.locals s.heap nx) (hI : ∀ p ∈ nx, p.1 ≠ I) (hIL : I ≠ env.locals) (hI0 : h₀.get? I = none)
    (live : ∀ i h, St i h → ∃ o, h.get? I = some o)
    (frame : ∀ i h h' m nx, J i m nx → St i h → (∀ o, h.get? I = some o → h'.get? I = some o) → News h₀ env.locals h' nx → St i h')
    (item : ∀ i (s : Shared) (Q : Option Value → Shared → Prop) (E : Value → Shared → Prop), i < n → St i s.heap →
      (∀ v h' tk, P i v → St (i + 1) h' → (∀ b o, b ≠ I → s.heap.get? b = some o → h'.get? b = some o) → Q (some v) { s with heap := h', toks := tk }) → wpAny (model prog w) A (pyNext (.ref I)) Q E s)
    (fin : ∀ (s : Shared) (Q : Option Value → Shared → Prop) (E : Value → Shared → Prop), St n s.heap →
      (∀ h' tk, (∀ b o, b ≠ I → s.heap.get? b = some o → h'.get? b = some o) → Q none { s with heap := h', toks := tk }) → wpAny (model prog w) A (pyNext (.ref I)) Q E s)
    (hgo : ∀ i (s' : Shared) v (Q' : Unit → Shared → Prop) (E : Value → Shared → Prop), P i v → St (i + 1) s'.heap → Q' () s' → wpAny (model prog w) A (letOwnedTupleGo target (.ref I) v) Q' E s')
    (hj : J 0 m nx)
    (turn : ∀ i v m₁ nx h tk oI, i < n → P i v → J i m₁ nx → (∀ p ∈ nx, p.1 ≠ I) → St (i + 1) h → Fr h₀ env.locals h m₁ → News h₀ env.locals h ((I, oI) :: nx) →
      wpAny (model prog w) A (assign target env v) (fun _ s₁ => wpAny (model prog w) A (execs body env) (TurnPost h₀ env.locals I oI (J (i + 1)) s Q) (fun _ _ => False) s₁) (fun _ _ => False) { s with heap := h, toks := tk })
    (done : ∀ m₁ nx h tk, J n m₁ nx → Fr h₀ env.locals h m₁ → News h₀ env.locals h nx → Q .next { s with heap := h, toks := tk }) :
    ForAt prog w A env target body Q (.ref I) s := by
  unfold ForAt
  refine codeAny_forLoop_any
    (fun k s' => ∃ h' tk m' nx' i, s' = { s with heap := h', toks := tk } ∧ St i h' ∧ Fr h₀ env.locals h' m' ∧ News h₀ env.locals h' nx' ∧ (∀ p ∈ nx', p.1 ≠ I) ∧ J i m' nx' ∧ i ≤ n ∧ k = n + 1 - i) ?_ (n + 1)
    ⟨s.heap, s.toks, m, nx, 0, rfl, hst, F, N, hI, hj, Nat.zero_le _, rfl⟩
  rintro k s' ⟨h', tk, m', nx', i, rfl, hst', F', N', hI', hJ, hi, rfl⟩
  have next : ∀ h₁ : Heap, (∀ b o, b ≠ I → h'.get? b = some o → h₁.get? b = some o) → Fr h₀ env.locals h₁ m' ∧ News h₀ env.locals h₁ nx' := fun h₁ hk₁ =>
    ⟨⟨F'.ns.at' fun o e => hk₁ _ o (Ne.symm hIL) e, fun b o e => hk₁ b o (fun q => by rw [q, hI0] at e; cases e) (F'.keep b o e), F'.above⟩, fun p hp => ⟨hk₁ _ _ (hI' p hp) (N' p hp).1, (N' p hp).2⟩⟩
  by_cases hlt : i < n
  · refine item i _ _ _ hlt hst' fun v h₁ tk₁ hP hst₁ hk₁ => ?_
    obtain ⟨F₁, N₁⟩ := next h₁ hk₁
    refine hgo i _ v _ _ hP hst₁ ?_
    obtain ⟨oI, hoI⟩ := live _ _ hst₁
    have NI : News h₀ env.locals h₁ ((I, oI) :: nx') := fun p hp => by
      rcases List.mem_cons.mp hp with rfl | hp
      · exact ⟨hoI, hIL, hI0⟩
      · exact N₁ p hp
    refine wpAny_mono (turn i v m' nx' h₁ tk₁ oI hlt hP hJ hI' hst₁ F₁ NI) (fun _ s₂ h₂ => wpAny_mono h₂ (fun f s₃ h₃ => ?_) fun _ _ e => e.elim) fun _ _ e => e.elim
    have key : TurnEnd h₀ env.locals I oI (J (i + 1)) s s₃ → ∃ m, m < n + 1 - i ∧ ∃ h' tk m' nx' i, s₃ = { s with heap := h', toks := tk } ∧ St i h' ∧ Fr h₀ env.locals h' m' ∧ News h₀ env.locals h' nx' ∧ (∀ p ∈ nx', p.1 ≠ I) ∧ J i m' nx' ∧ i ≤ n ∧ m = n + 1 - i := by
      rintro ⟨h₃', tk₃, m₂, nx₂, rfl, F₃, N₃, ha₃, hJ₃⟩
      have N₃' : News h₀ env.locals h₃' nx₂ := fun p hp => N₃ p (.tail _ hp)
      refine ⟨n + 1 - (i + 1), by omega, h₃', tk₃, m₂, nx₂, i + 1, rfl, frame _ _ _ _ _ hJ₃ hst₁ (fun o e => ?_) N₃', F₃, N₃', ha₃, hJ₃, hlt, rfl⟩
      have := (N₃ _ (.head _)).1
      rw [hoI] at e; cases e
      exact this
    cases f with
    | ret v => exact h₃
    | brk => exact h₃
    | next => exact key h₃
    | cont => exact key h₃
  · have hin : i = n := by omega
    subst hin
    refine fin _ _ _ hst' fun h₁ tk₁ hk₁ => wpAny_execs_nil ?_
    obtain ⟨F₁, N₁⟩ := next h₁ hk₁
    exact done m' nx' h₁ tk₁ hJ F₁ N₁

def nameOrTuple : Expr → Bool
  | .Name .. => true
  | .Tuple .. => true
  | _ => false

theorem for_list {l : Addr} {vs : List Value} {nn : Nat} {m₀ : Str → Option Value} {news : List (Addr × Obj)} (J : Nat → (Str → Option Value) → List (Addr × Obj) → Prop)
    (ht : (∃ x px, target = .Name x px) ∨ ((∃ es k pos, target = .Tuple es k pos) ∧ ∀ (i : Nat) (v : Value), vs[i]? = some v → ∃ T, v = Value.ref T))
    (hh : A.handled = none) (F : Fr h₀ env.locals s.heap m₀) (N : News h₀ env.locals s.heap news) (hl : (l, listOf vs.toArray nn) ∈ news) (hj : J 0 m₀ news)
    (hJl : ∀ i m nx, J i m nx → (l, listOf vs.toArray nn) ∈ nx)
    (turn : ∀ (i : Nat) (v : Value) m₁ nx h tk I oI, vs[i]? = some v → J i m₁ nx → (∀ p ∈ nx, p.1 ≠ I) → (∀ p ∈ news, p.1 < I) → Fr h₀ env.locals h m₁ → News h₀ env.locals h ((I, oI) :: nx) →
      wpAny (model prog w) A (assign target env v) (fun _ s₁ => wpAny (model prog w) A (execs body env) (TurnPost h₀ env.locals I oI (J (i + 1)) s Q) (fun _ _ => False) s₁) (fun _ _ => False) { s with heap := h, toks := tk })
    (done : ∀ m₁ nx h tk, J vs.length m₁ nx → Fr h₀ env.locals h m₁ → News h₀ env.locals h nx → Q .next { s with heap := h, toks := tk }) :
    wpAny (model prog w) A (pyIter (.ref l)) (fun it s₂ => ForAt prog w A env target body Q it s₂) E s := by
  have hol : s.heap.get? l = some (listOf vs.toArray nn) := (N _ hl).1
  have hls : s.heap.IsList l vs.toArray := ⟨_, hol, rfl, nn, rfl⟩
  have hne : l ≠ s.heap.objs.size := Nat.ne_of_lt (Heap.lt_size hol)
  have hlt : ∀ p ∈ news, p.1 < s.heap.objs.size := fun p hp => Heap.lt_size (N p hp).1
  refine wpAny_pyIter_list hls ?_
  refine for_walk (s := { s with heap := s.heap.push _ }) (n := vs.length) (P := fun i v => vs[i]? = some v) (St := fun i h => h.IsListIter s.heap.objs.size l i ∧ h.IsList l vs.toArray) J
    ⟨⟨_, Heap.get?_push_size _ rfl, rfl, rfl⟩, hls.at fun o e => Heap.get?_push_of_some _ e⟩ (F.push _) (fun p hp => ⟨Heap.get?_push_of_some _ (N p hp).1, (N p hp).2⟩)
    (fun p hp => Nat.ne_of_lt (hlt p hp)) (Ne.symm (Nat.ne_of_lt F.ns.lt)) (next_is_new F) (fun i h st => ?_) (fun i h h' m nx hJ st hk N' => ?_) (fun i s Q E hi st hQ => ?_) (fun s Q E st hQ => ?_) (fun i s' v Q' E hv st hQ => ?_) hj
    (fun i v m₁ nx h tk oI hi hv hJ hnI st F' N' => turn i v m₁ nx h tk _ oI hv hJ hnI hlt F' N') (fun m₁ nx h tk hJ F' N' => done m₁ nx h tk hJ F' N')
  · obtain ⟨⟨o, ho, _⟩, _⟩ := st; exact ⟨o, ho⟩
  · obtain ⟨⟨o, ho, r⟩, _⟩ := st
    exact ⟨⟨o, hk o ho, r⟩, ⟨_, (N' _ (hJl _ _ _ hJ)).1, rfl, nn, rfl⟩⟩
  · refine wpAny_pyNext_list_item st.1 st.2 (x := vs[i]) (by simp [hi]) fun h' hit' hs' => ?_
    exact hQ _ h' s.toks (by simp [hi]) ⟨hit', st.2.extBut hs'.extBut hne⟩ fun b o hb e => hs'.extBut b o hb e
  · exact wpAny_pyNext_list_end hh st.1 st.2 (by simp) fun h' he' => hQ h' s.toks fun b o hb e => he' b o hb e
  · rcases ht with ⟨x, px, rfl⟩ | ⟨⟨es, k, pos, rfl⟩, hv'⟩
    · exact wpAny_pure hQ
    · obtain ⟨T, rfl⟩ := hv' i v hv
      exact wpAny_letOwnedTupleGo_listiter st.1 hQ

theorem for_listT {l : Addr} {vs : List Value} {nn : Nat} {m₀ : Str → Option Value} {news : List (Addr × Obj)} (J : Nat → (Str → Option Value) → List (Addr × Obj) → Prop)
    (ht : (∃ x px, target = .Name x px) ∨ ((∃ es k pos, target = .Tuple es k pos) ∧ ∀ (i : Nat) (v : Value), vs[i]? = some v → ∃ T, v = Value.ref T))
    (hh : A.handled = none) (F : Fr h₀ env.locals s.heap m₀) (N : News h₀ env.locals s.heap news) (hl : (l, listOf vs.toArray nn) ∈ news) (hj : J 0 m₀ news)
    (hJl : ∀ i m nx, J i m nx → (l, listOf vs.toArray nn) ∈ nx)
    (turn : ∀ (i : Nat) (v : Value) m₁ nx h tk I oI, vs[i]? = some v → J i m₁ nx → (∀ p ∈ nx, p.1 ≠ I) → (∀ p ∈ news, p.1 < I) → Fr h₀ env.locals h m₁ → News h₀ env.locals h ((I, oI) :: nx) →
      ∀ TP : Flow → Shared → Prop, (∀ f s', TurnPost h₀ env.locals I oI (J (i + 1)) s Q f s' → TP f s') → wpAny (model prog w) A (assign target env v) (fun _ s₁ => wpAny (model prog w) A (execs body env) TP (fun _ _ => False) s₁) (fun _ _ => False) { s with heap := h, toks := tk })
    (done : ∀ m₁ nx h tk, J vs.length m₁ nx → Fr h₀ env.locals h m₁ → News h₀ env.locals h nx → Q .next { s with heap := h, toks := tk }) :
    wpAny (model prog w) A (pyIter (.ref l)) (fun it s₂ => ForAt prog w A env target body Q it s₂) E s :=
  for_list J ht hh F N hl hj hJl (fun i v m₁ nx h tk I oI a b c d e f => turn i v m₁ nx h tk I oI a b c d e f _ fun _ _ x => x) done
theorem for_range {r : Addr} {a b : Int} {t u v : Tok} {n : Nat} {x : Str} {px : Pos} {m₀ : Str → Option Value} {news : List (Addr × Obj)} (J : Nat → (Str → Option Value) → List (Addr × Obj) → Prop)
    (hh : A.handled = none) (F : Fr h₀ env.locals s.heap m₀) (N : News h₀ env.locals s.heap news) (hr : IsRange s.heap r a b 1 t u v) (hsmall : Builtin.Range.small a b 1 = true) (hsz : Builtin.Range.rangeSize a b 1 = (n : Int)) (hj : J 0 m₀ news)
    (turn : ∀ i m₁ nx h tk tv I oI, i < n → J i m₁ nx → (∀ p ∈ nx, p.1 ≠ I) → (∀ p ∈ news, p.1 < I) → Fr h₀ env.locals h m₁ → News h₀ env.locals h ((I, oI) :: nx) →
      wpAny (model prog w) A (assign (.Name x px) env (.int (a + (i : Nat)) tv)) (fun _ s₁ => wpAny (model prog w) A (execs body env) (TurnPost h₀ env.locals I oI (J (i + 1)) s Q) (fun _ _ => False) s₁) (fun _ _ => False) { s with heap := h, toks := tk })
    (done : ∀ m₁ nx h tk, J n m₁ nx → Fr h₀ env.locals h m₁ → News h₀ env.locals h nx → Q .next { s with heap := h, toks := tk }) :
    wpAny (model prog w) A (pyIter (.ref r)) (fun it s₂ => ForAt prog w A env (.Name x px) body Q it s₂) E s := by
  have hlt : ∀ p ∈ news, p.1 < s.heap.objs.size := fun p hp => Heap.lt_size (N p hp).1
  refine wpAny_pyIter_range hr hsmall ?_
  rw [hsz]
  refine for_walk (s := { s with heap := s.heap.push _ }) (n := n) (P := fun i v => ∃ t, v = .int (a + (i : Nat)) t) (St := fun i h => IsRangeIter h s.heap.objs.size (a + (i : Nat)) ((n : Int) - (i : Nat)) 1) J
    (by simpa using Heap.get?_push_size _ rfl) (F.push _) (fun p hp => ⟨Heap.get?_push_of_some _ (N p hp).1, (N p hp).2⟩)
    (fun p hp => Nat.ne_of_lt (hlt p hp)) (Ne.symm (Nat.ne_of_lt F.ns.lt)) (next_is_new F) (fun i h st => ⟨_, st⟩) (fun i h h' m nx hJ st hk N' => hk _ st) (fun i s Q E hi st hQ => ?_) (fun s Q E st hQ => ?_) (fun i s' v Q' E hv st hQ => wpAny_pure hQ) hj
    (fun i v m₁ nx h tk oI hi hv hJ hnI st F' N' => ?_) (fun m₁ nx h tk hJ F' N' => done m₁ nx h tk hJ F' N')
  · refine wpAny_pyNext_range_item st (by omega) fun h' hit' hs' => ?_
    refine hQ _ h' _ ⟨_, rfl⟩ ?_ fun b o hb e => hs'.extBut b o hb e
    have e1 : a + ((i + 1 : Nat) : Int) = a + (i : Int) + 1 := by push_cast; omega
    have e2 : (n : Int) - ((i + 1 : Nat) : Int) = (n : Int) - (i : Int) - 1 := by push_cast; omega
    rw [e1, e2]; exact hit'
  · exact wpAny_pyNext_range_end hh st (by omega) fun h' he' => hQ h' s.toks fun b o hb e => he' b o hb e
  · obtain ⟨tv, rfl⟩ := hv
    exact turn i m₁ nx h tk tv _ oI hi hJ hnI hlt F' N'
theorem for_rangeT {r : Addr} {a b : Int} {t u v : Tok} {n : Nat} {x : Str} {px : Pos} {m₀ : Str → Option Value} {news : List (Addr × Obj)} (J : Nat → (Str → Option Value) → List (Addr × Obj) → Prop)
    (hh : A.handled = none) (F : Fr h₀ env.locals s.heap m₀) (N : News h₀ env.locals s.heap news) (hr : IsRange s.heap r a b 1 t u v) (hsmall : Builtin.Range.small a b 1 = true) (hsz : Builtin.Range.rangeSize a b 1 = (n : Int)) (hj : J 0 m₀ news)
    (turn : ∀ i m₁ nx h tk tv I oI, i < n → J i m₁ nx → (∀ p ∈ nx, p.1 ≠ I) → (∀ p ∈ news, p.1 < I) → Fr h₀ env.locals h m₁ → News h₀ env.locals h ((I, oI) :: nx) →
      ∀ TP : Flow → Shared → Prop, (∀ f s', TurnPost h₀ env.locals I oI (J (i + 1)) s Q f s' → TP f s') → wpAny (model prog w) A (assign (.Name x px) env (.int (a + (i : Nat)) tv)) (fun _ s₁ => wpAny (model prog w) A (execs body env) TP (fun _ _ => False) s₁) (fun _ _ => False) { s with heap := h, toks := tk })
    (done : ∀ m₁ nx h tk, J n m₁ nx → Fr h₀ env.locals h m₁ → News h₀ env.locals h nx → Q .next { s with heap := h, toks := tk }) :
    wpAny (model prog w) A (pyIter (.ref r)) (fun it s₂ => ForAt prog w A env (.Name x px) body Q it s₂) E s :=
  for_range J hh F N hr hsmall hsz hj (fun i m₁ nx h tk tv I oI a b c d e f => turn i m₁ nx h tk tv I oI a b c d e f _ fun _ _ x => x) done
end
end

section
open PySem PySem.W PyProof.Rows
theorem fr_put {h₀ h : Heap} {L : Addr} {m : Str → Option Value} {x : Str} {v : Value} (F : Fr h₀ L h m) (hm : m x = some v) : Fr h₀ L h (fun y => if y = x then some v else m y) := by
  have : (fun y => if y = x then some v else m y) = m := funext fun y => by
    by_cases h : y = x
    · subst h; simp [hm]
    · simp [h]
  rw [this]; exact F
end

section
open PySem PySem.W PyProof.Rows
section
variable {h₀ h' : Heap} {L I : Addr} {oI : Obj} {J : (Str → Option Value) → List (Addr × Obj) → Prop} {s : Shared} {Q : Flow → Shared → Prop} {m' : Str → Option Value} {tk : Nat} {news' : List (Addr × Obj)}
/-- the end of a turn: the ledger that the loop's word is to hold of -/
theorem turn_post (nx : List (Addr × Obj)) (F : Fr h₀ L h' m') (N : News h₀ L h' news') (sub : ∀ p ∈ (I, oI) :: nx, p ∈ news') (hI : ∀ p ∈ nx, p.1 ≠ I) (hJ : J m' nx) :
    TurnPost h₀ L I oI J s Q .next { s with heap := h', toks := tk } :=
  ⟨h', tk, m', nx, rfl, F, fun p hp => N p (sub p hp), hI, hJ⟩
theorem turn_post0 {nx : List (Addr × Obj)} (F : Fr h₀ L h' m') (N : News h₀ L h' ((I, oI) :: nx)) (hI : ∀ p ∈ nx, p.1 ≠ I) (hJ : J m' nx) :
    TurnPost h₀ L I oI J s Q .next { s with heap := h', toks := tk } :=
  ⟨h', tk, m', nx, rfl, F, N, hI, hJ⟩
theorem turn_post1 {x y : Addr × Obj} {nx : List (Addr × Obj)} (F : Fr h₀ L h' m') (N : News h₀ L h' (x :: (I, oI) :: y :: nx)) (hx : x.1 ≠ I) (hI : ∀ p ∈ y :: nx, p.1 ≠ I) (hJ : J m' (y :: x :: nx)) :
    TurnPost h₀ L I oI J s Q .next { s with heap := h', toks := tk } :=
  turn_post (y :: x :: nx) F N (fun p hp => by simp only [List.mem_cons] at hp ⊢; grind) (fun p hp => by
    rcases List.mem_cons.mp hp with rfl | hp
    · exact hI _ (.head _)
    · rcases List.mem_cons.mp hp with rfl | hp
      · exact hx
      · exact hI _ (.tail _ hp)) hJ
end
end

section
theorem take_snoc {α : Type} (l : List α) (i : Nat) (h : i < l.length) : l.take (i + 1) = l.take i ++ [l[i]] := by
  rw [List.take_add_one, List.getElem?_eq_getElem h]; rfl
end

section
open PySem PySem.W PyProof.Rows
theorem allLt_up {d e : Addr} (h : @LE.le Nat _ d e) : ∀ {l : List (Addr × Obj)}, AllLt d l → AllLt e l
  | [], _ => trivial
  | _ :: _, ⟨a, r⟩ => ⟨Nat.lt_of_lt_of_le a h, allLt_up h r⟩
end

section
open PySem PySem.W PyProof.Rows PySem.Spec
section
variable {prog : Program} {w : World} {A : Around} {s : Shared} {env : Env} {target : Expr} {body : List Stmt} {Q : Flow → Shared → Prop}
/-- one turn -/
theorem for_turn {it : Value} {x : Str} {px : Pos}
    (h : wpAny (model prog w) A (pyNext it) (fun r s₁ => match r with
      | none => Q .next s₁
      | some v => wpAny (model prog w) A (assign (.Name x px) env v) (fun _ s₂ => wpAny (model prog w) A (execs body env) (fun f s₃ => match f with
          | .ret v => Q (.ret v) s₃
          | .brk => Q .next s₃
          | _ => ForAt prog w A env (.Name x px) body Q it s₃) (fun _ _ => False) s₂) (fun _ _ => False) s₁) (fun _ _ => False) s) :
    ForAt prog w A env (.Name x px) body Q it s := by
  unfold ForAt
  refine codeAny_of_tree ?_
  rw [Around.under_of_weight (c := .forLoop (.Name x px) it body [] env) rfl]
  show wpAny _ A ((forTurn (.Name x px) it body [] env).onRaise (fun x => do noteFrame x env; theTreesLotGoes x)) _ _ s
  refine wpAny_noted ?_
  simp only [forTurn]
  refine wpAny_bind (wpAny_standAt (wpAny_bind (wpAny_onRaise (wpAny_mono h (fun r s₁ h₁ => ?_) fun _ _ h' => h'.elim))))
  cases r with
  | none =>
    refine wpAny_pure ⟨rfl, codeAny_block ?_⟩
    exact wpAny_execs_nil h₁
  | some v =>
    refine wpAny_bind (wpAny_pure ?_)
    refine wpAny_bind (wpAny_mono h₁ (fun _ s₂ h₂ => wpAny_bind (wpAny_mono h₂ (fun f s₃ h₃ => ?_) fun _ _ h' => h'.elim)) fun _ _ h' => h'.elim)
    cases f with
    | next => exact wpAny_pure ⟨rfl, h₃⟩
    | cont => exact wpAny_pure ⟨rfl, h₃⟩
    | brk => exact wpAny_pure h₃
    | ret v => exact wpAny_pure h₃

/-- there is a next state -/
def Goes {σ : Type} (μ : σ → Nat) (St : σ → Shared → Prop) (c : σ) (s : Shared) : Prop := ∃ c', μ c' < μ c ∧ St c' s

/-- a loop over an iterator, by a measure -/
theorem for_rec {σ : Type} {it : Value} {x : Str} {px : Pos} (St : σ → Shared → Prop) (μ : σ → Nat)
    (turn : ∀ c s, St c s → (∀ c' s', μ c' < μ c → St c' s' → ForAt prog w A env (.Name x px) body Q it s') →
      wpAny (model prog w) A (pyNext it) (fun r s₁ => match r with
        | none => Q .next s₁
        | some v => wpAny (model prog w) A (assign (.Name x px) env v) (fun _ s₂ => wpAny (model prog w) A (execs body env) (fun f s₃ => match f with
            | .ret v => Q (.ret v) s₃
            | .brk => Q .next s₃
            | _ => Goes μ St c s₃) (fun _ _ => False) s₂) (fun _ _ => False) s₁) (fun _ _ => False) s) :
    ∀ c s, St c s → ForAt prog w A env (.Name x px) body Q it s := by
  have key : ∀ n c s, μ c < n → St c s → ForAt prog w A env (.Name x px) body Q it s := by
    intro n
    induction n with
    | zero => intro c s h; exact absurd h (Nat.not_lt_zero _)
    | succ n ih =>
      intro c s hn hs
      have ih' : ∀ c' s', μ c' < μ c → St c' s' → ForAt prog w A env (.Name x px) body Q it s' := fun c' s' h hs' => ih c' s' (by omega) hs'
      refine for_turn (wpAny_mono (turn c s hs ih') (fun r s₁ h₁ => ?_) fun _ _ h => h)
      cases r with
      | none => exact h₁
      | some v =>
        refine wpAny_mono h₁ (fun _ s₂ h₂ => wpAny_mono h₂ (fun f s₃ h₃ => ?_) fun _ _ h => h) fun _ _ h => h
        cases f with
        | ret v => exact h₃
        | brk => exact h₃
        | next => obtain ⟨c', hc, hs'⟩ := h₃; exact ih' c' s₃ hc hs'
        | cont => obtain ⟨c', hc, hs'⟩ := h₃; exact ih' c' s₃ hc hs'
  exact fun c s hs => key _ c s (Nat.lt_succ_self _) hs
/-- the same, with the ends of a turn held under letters -/
theorem for_recT {σ : Type} {it : Value} {x : Str} {px : Pos} (St : σ → Shared → Prop) (μ : σ → Nat)
    (turn : ∀ c s, St c s → ∀ TP : Flow → Shared → Prop, (∀ v s', Q (.ret v) s' → TP (.ret v) s') → (∀ f c' s', f = .next ∨ f = .cont → μ c' < μ c → St c' s' → TP f s') → ∀ NP : Shared → Prop, (∀ s', Q .next s' → NP s') → (∀ s', NP s' → TP .brk s') →
      wpAny (model prog w) A (pyNext it) (fun r s₁ => match r with
        | none => NP s₁
        | some v => wpAny (model prog w) A (assign (.Name x px) env v) (fun _ s₂ => wpAny (model prog w) A (execs body env) TP (fun _ _ => False) s₂) (fun _ _ => False) s₁) (fun _ _ => False) s) :
    ∀ c s, St c s → ForAt prog w A env (.Name x px) body Q it s :=
  for_rec St μ fun c s h _ => by
    refine turn c s h _ ?_ ?_ _ ?_ ?_
    · exact fun _ _ h => h
    · intro f c' s' hf hc hs
      rcases hf with rfl | rfl <;> exact ⟨c', hc, hs⟩
    · exact fun _ h => h
    · exact fun _ h => h
theorem pick {σ : Type} (B : σ → Shared → Prop) {G : Prop} (h : ∀ St : σ → Shared → Prop, (∀ c s, St c s → B c s) → (∀ c s, B c s → St c s) → G) : G := h B (fun _ _ h => h) (fun _ _ h => h)
end
end

section
open PySem PySem.W PyProof.Rows
theorem fr_put3 {h₀ h : Heap} {L : Addr} {m : Str → Option Value} {x1 x2 x3 : Str} {v1 v2 v3 : Value} (F : Fr h₀ L h m) (e1 : m x1 = some v1) (e2 : m x2 = some v2) (e3 : m x3 = some v3) :
    Fr h₀ L h (fun y => if y = x1 then some v1 else if y = x2 then some v2 else if y = x3 then some v3 else m y) := by
  have : (fun y => if y = x1 then some v1 else if y = x2 then some v2 else if y = x3 then some v3 else m y) = m := funext fun y => by
    by_cases h1 : y = x1
    · subst h1; simp [e1]
    · by_cases h2 : y = x2
      · subst h2; simp [h1, e2]
      · by_cases h3 : y = x3
        · subst h3; simp [h1, h2, e3]
        · simp [h1, h2, h3]
  rw [this]; exact F
end

section
open PySem PySem.W PyProof.Rows
section
variable {h₀ h' : Heap} {L I : Addr} {oI : Obj} {J : (Str → Option Value) → List (Addr × Obj) → Prop} {s : Shared} {Q : Flow → Shared → Prop} {m' : Str → Option Value} {tk : Nat}
theorem turn_postX (nxf : Addr × Obj → List (Addr × Obj)) {x : Addr × Obj} {l : List (Addr × Obj)} (F : Fr h₀ L h' m') (N : News h₀ L h' (x :: l)) (sub : ∀ p ∈ (I, oI) :: nxf x, p ∈ x :: l) (hI : ∀ p ∈ nxf x, p.1 ≠ I) (hJ : J m' (nxf x)) :
    TurnPost h₀ L I oI J s Q .next { s with heap := h', toks := tk } := turn_post (nxf x) F N sub hI hJ
end
theorem fr_put2 {h₀ h : Heap} {L : Addr} {m : Str → Option Value} {x1 x2 : Str} {v1 v2 : Value} (F : Fr h₀ L h m) (e1 : m x1 = some v1) (e2 : m x2 = some v2) :
    Fr h₀ L h (fun y => if y = x1 then some v1 else if y = x2 then some v2 else m y) := by
  have : (fun y => if y = x1 then some v1 else if y = x2 then some v2 else m y) = m := funext fun y => by
    by_cases h1 : y = x1
    · subst h1; simp [e1]
    · by_cases h2 : y = x2
      · subst h2; simp [h1, e2]
      · simp [h1, h2]
  rw [this]; exact F
end

section
open PySem PySem.W PyProof.Rows
theorem fr_put4 {h₀ h : Heap} {L : Addr} {m : Str → Option Value} {x1 x2 x3 x4 : Str} {v1 v2 v3 v4 : Value} (F : Fr h₀ L h m) (e1 : m x1 = some v1) (e2 : m x2 = some v2) (e3 : m x3 = some v3) (e4 : m x4 = some v4) :
    Fr h₀ L h (fun y => if y = x1 then some v1 else if y = x2 then some v2 else if y = x3 then some v3 else if y = x4 then some v4 else m y) := by
  have : (fun y => if y = x1 then some v1 else if y = x2 then some v2 else if y = x3 then some v3 else if y = x4 then some v4 else m y) = m := funext fun y => by
    by_cases h1 : y = x1
    · subst h1; simp [e1]
    · by_cases h2 : y = x2
      · subst h2; simp [h1, e2]
      · by_cases h3 : y = x3
        · subst h3; simp [h1, h2, e3]
        · by_cases h4 : y = x4
          · subst h4; simp [h1, h2, h3, e4]
          · simp [h1, h2, h3, h4]
  rw [this]; exact F
end
end
-- PART-END Loops

section
open PySem PySem.W PyProof.Rows
section
noncomputable abbrev PRG : Program := PySem.Challenge.rw_sw0006_01.row.prog
noncomputable abbrev KK (w : World) : Frag := hd.heap_39 w.params

/-- what a call is made in, and what it hands back -/
abbrev Spec (w : World) (f : Addr) (args : List Value) (pre : Heap → Prop) (news : List (Addr × Obj)) (news' : List (Addr × Obj) → List (Addr × Obj)) (post : List (Addr × Obj) → Value → Prop) : Prop :=
  ∀ (p : Program) (loose : List Str) (mean : ExcName → Option Value) (mg mb : Str → Option Value) (dp un : Nat) (gd : Option (List Code)) (cn : Str) (cs : Scope) (a : Addr) (ccd : Value) (cl : List (Str × Addr)) (outer : List Env) (A₀ : Around) (base h₀ : Heap) (L : Addr) (m : Str → Option Value) (s : Shared)
    (Q : Value → Shared → Prop) (E : Value → Shared → Prop),
    Below A₀ base outer h₀ → Fr h₀ L s.heap m → (KK w).In h₀ → News h₀ L s.heap news → Top p loose mean mg mb h₀ → cs.kind = .function → pre h₀ → dp + 20 < recursionLimit → un + 100 < cLine →
    (∀ r tl h' tk', Fr h₀ L h' m → News h₀ L h' (news' tl) → (∀ q ∈ news, ∀ p ∈ tl, q.1 < p.1) → post tl r → Q r { s with heap := h', toks := tk' }) →
    wpAny (model PRG w) (ktrTop dp un gd cn cs L a ccd cl outer) (call (.ref f) args) Q E s

/-- the same, with the whole ledger told -/
abbrev Spec2 (w : World) (f : Addr) (args : List Value) (pre : Heap → Prop) (news : List (Addr × Obj)) (post : Value → List (Addr × Obj) → Prop) : Prop :=
  ∀ (p : Program) (loose : List Str) (mean : ExcName → Option Value) (mg mb : Str → Option Value) (dp un : Nat) (gd : Option (List Code)) (cn : Str) (cs : Scope) (a : Addr) (ccd : Value) (cl : List (Str × Addr)) (outer : List Env) (A₀ : Around) (base h₀ : Heap) (L : Addr) (m : Str → Option Value) (s : Shared)
    (Q : Value → Shared → Prop) (E : Value → Shared → Prop),
    Below A₀ base outer h₀ → Fr h₀ L s.heap m → (KK w).In h₀ → News h₀ L s.heap news → Top p loose mean mg mb h₀ → cs.kind = .function → pre h₀ → dp + 20 < recursionLimit → un + 100 < cLine →
    (∀ r nx h' tk', Fr h₀ L h' m → News h₀ L h' nx → post r nx → Q r { s with heap := h', toks := tk' }) →
    wpAny (model PRG w) (ktrTop dp un gd cn cs L a ccd cl outer) (call (.ref f) args) Q E s

/-- the same, of the code -/
abbrev Spec2c (w : World) (rm um : Nat) (f : Addr) (args : List Value) (pre : Heap → Prop) (news : List (Addr × Obj)) (post : Value → List (Addr × Obj) → Prop) : Prop :=
  ∀ (p : Program) (loose : List Str) (mean : ExcName → Option Value) (mg mb : Str → Option Value) (dp un : Nat) (gd : Option (List Code)) (cn : Str) (cs : Scope) (a : Addr) (ccd : Value) (cl : List (Str × Addr)) (outer : List Env) (A₀ : Around) (base h₀ : Heap) (L : Addr) (m : Str → Option Value) (s : Shared)
    (Q : Value → Shared → Prop) (E : Value → Shared → Prop),
    Below A₀ base outer h₀ → Fr h₀ L s.heap m → (KK w).In h₀ → News h₀ L s.heap news → Top p loose mean mg mb h₀ → cs.kind = .function → pre h₀ → dp + rm < recursionLimit → un + um < cLine →
    (∀ r nx h' tk', Fr h₀ L h' m → News h₀ L h' nx → post r nx → Q r { s with heap := h', toks := tk' }) →
    codeAny (model PRG w) (ktrTop dp un gd cn cs L a ccd cl outer) (.call (.ref f) ⟨args, []⟩) (fun r s' => match r with | .ok (.ret v) => Q v s' | .ok _ => False | .error e => E e s') s

/-- the walk stops here -/
def Held (P : Prop) : Prop := P
theorem held {P : Prop} (h : Held P) : P := h

theorem fmodE (a b : Int) (h : 0 ≤ b) : a.fmod b = a % b := Int.fmod_eq_emod_of_nonneg a h
theorem fdivE (a b : Int) (h : 0 ≤ b) : a.fdiv b = a / b := Int.fdiv_eq_ediv_of_nonneg a h

/-- a ledger in another order: the places of its head, and what stands behind the first n + 1 -/
theorem mem_resh {x : Addr × Obj} {t : List (Addr × Obj)} (B : List Nat) (n : Nat) : ∀ p ∈ B.map (fun i => (x :: t).getD i x) ++ t.drop n, p ∈ x :: t := by
  intro p hp
  rcases List.mem_append.mp hp with hp | hp
  · obtain ⟨i, _, rfl⟩ := List.mem_map.mp hp
    rw [List.getD_eq_getElem?_getD]
    cases e : (x :: t)[i]? with
    | none => exact .head _
    | some y => exact List.mem_of_getElem? e
  · exact .tail _ (List.mem_of_mem_drop hp)
theorem news_resh {h₀ h : Heap} {L : Addr} {x : Addr × Obj} {t : List (Addr × Obj)} (B : List Nat) (n : Nat) (N : News h₀ L h (x :: t)) : News h₀ L h (B.map (fun i => (x :: t).getD i x) ++ t.drop n) :=
  fun p hp => N p (mem_resh B n p hp)
theorem mem_resh2 {x : Addr × Obj} {t A : List (Addr × Obj)} (B : List Nat) (n : Nat) (hA : A = B.map (fun i => (x :: t).getD i x) ++ t.drop n) : ∀ p ∈ A, p ∈ x :: t := hA ▸ mem_resh B n
end
end
local macro_rules | `(tactic| k_units) => `(tactic| ktr_units)
local macro_rules | `(tactic| k_room) => `(tactic| ktr_room)
local macro_rules | `(tactic| walk_at "my For") => `(tactic| (k_here; (with_reducible show PySem.wpAny _ _ (PySem.execs (PySem.Stmt.For _ _ _ _ _ :: _) _) _ _ _); (with_reducible refine PySem.wpAny_execs_cons ?_); (refine exec_for ?_ (by intro _; rfl))))
local macro_rules | `(tactic| walk_at "my held") => `(tactic| (k_here; (with_reducible show PySem.wpAny _ _ (PySem.call (PySem.Value.ref _) _) _ _ _); refine held ?_))
local macro_rules | `(tactic| walk_at "my comp") => `(tactic| (k_here; k_dflt (refine PyProof.Rows.LCg.ListComp_U (F₀ := by k_asm) (by with_unfolding_all rfl) (by decide) (by rfl) (by decide) (by rfl) ?_)))
-- PART-END Base

section
open PySem PySem.W PyProof.Rows PySem.Spec
section
open Builtin Builtin.Str
theorem idx_one (i n : Nat) : strSliceIndices (some (i : Int)) (some ((i : Int) + 1)) 1 n = if i < n then [i] else [] := by
  unfold strSliceIndices sliceRange
  have h1 : ¬ ((i : Int) < 0) := by omega
  have h2 : ¬ ((i : Int) + 1 < 0) := by omega
  simp only [h1, h2, if_false, show (1 : Int) > 0 by decide, if_true]
  by_cases h : i < n
  · rw [if_pos h]
    have e1 : max (0 : Int) (min (i : Int) (n : Int)) = i := by omega
    have e2 : max (0 : Int) (min ((i : Int) + 1) (n : Int)) = i + 1 := by omega
    rw [e1, e2, if_pos (by omega)]
    have e3 : (((i : Int) + 1 - i + 1 - 1) / 1).toNat = 1 := by omega
    rw [e3]
    simp
  · rw [if_neg h]
    have e1 : max (0 : Int) (min (i : Int) (n : Int)) = n := by omega
    have e2 : max (0 : Int) (min ((i : Int) + 1) (n : Int)) = n := by omega
    rw [e1, e2, if_neg (by omega)]
    simp
theorem slice_one (x : Str) (i : Nat) : Txt.slice x (some (i : Int)) (some ((i : Int) + 1)) = ⟨x.cps.extract i (i + 1)⟩ := by
  unfold Txt.slice
  rw [idx_one]
  obtain ⟨⟨l⟩⟩ := x
  have hl : ({ cps := { toList := l } } : Str).length = l.length := rfl
  rw [hl]
  by_cases h : i < l.length
  · rw [if_pos h]
    by_cases h1 : l.length = 1
    · rw [if_pos (by simp [h1])]
      have h0 : i = 0 := by omega
      subst h0
      obtain ⟨a, rfl⟩ := List.length_eq_one_iff.mp h1
      rfl
    · rw [if_neg (by simp; omega)]
      congr 1
      apply Array.ext'
      simp [h, List.take_one, List.head?_drop]
  · rw [if_neg h]
    by_cases h0 : l.length = 0
    · rw [if_pos (by simp [h0])]
      have : l = [] := List.length_eq_zero_iff.mp h0
      subst this
      simp
    · rw [if_neg (by simp; omega)]
      congr 1
      apply Array.ext'
      simp
      omega

/-- one sign of a text, as a text -/
theorem sign_at (a : Array Nat) (i : Nat) : a.extract i (i + 1) = match a[i]? with | some c => #[c] | none => #[] := by
  obtain ⟨l⟩ := a
  apply Array.ext'
  by_cases h : i < l.length
  · simp [h, List.take_one, List.head?_drop]
  · have : l[i]? = none := List.getElem?_eq_none (by omega)
    simp [this]; omega
theorem sign_eq (a : Array Nat) (i d : Nat) : ((⟨a.extract i (i + 1)⟩ : Str) == ⟨#[d]⟩) = (a[i]? == some d) := by
  rw [sign_at]
  cases h : a[i]? with
  | none => 
    have : (⟨#[]⟩ : Str) ≠ ⟨#[d]⟩ := by simp
    simp [this]
  | some c =>
    by_cases hc : c = d
    · subst hc; simp
    · have h1 : (⟨#[c]⟩ : Str) ≠ ⟨#[d]⟩ := by simp [hc]
      have h2 : some c ≠ some d := by simp [hc]
      exact (beq_eq_false_iff_ne.mpr h1).trans (beq_eq_false_iff_ne.mpr h2).symm
end
end
-- PART-END StrFacts

section
open PySem
section
open PySem.Sre

/-- n steps of the matcher -/
def itM : Nat → M → M
  | 0, m => m
  | n + 1, m => itM n m.step
theorem step_done {m : M} (h : m.outcome.isSome = true) : m.step = m := by
  unfold M.step; rw [if_pos h]
theorem itM_done {m : M} (h : m.outcome.isSome = true) : ∀ n, itM n m = m
  | 0 => rfl
  | n + 1 => by show itM n m.step = m; rw [step_done h]; exact itM_done h n
theorem runFor_it : ∀ (n : Nat) (m : M), M.runFor n m = itM n m
  | 0, _ => rfl
  | n + 1, m => by
    unfold M.runFor
    by_cases h : m.outcome.isSome = true
    · rw [if_pos h, itM_done h]
    · rw [if_neg h, runFor_it n]; rfl
theorem itM_add (a b : Nat) (m : M) : itM (a + b) m = itM b (itM a m) := by
  induction a generalizing m with
  | zero => rw [Nat.zero_add]; rfl
  | succ a ih => rw [Nat.succ_add]; exact ih m.step

section
variable {M' : Model} {A : Around} {s : Shared} {E : Value → Shared → Prop}
theorem wp_drive {Q : M → Shared → Prop} : ∀ (turns : Nat) (m r : M) (k : Nat), k ≤ 4 * turns → 0 < turns → itM k m = r → r.outcome.isSome = true → Q r s → wpAny M' A (PySem.Builtin.Re.reDrive turns m) Q E s
  | 0, _, _, _, _, h, _, _, _ => absurd h (Nat.lt_irrefl _)
  | turns + 1, m, r, k, hk, _, hr, ho, hq => by
    unfold PySem.Builtin.Re.reDrive
    show wpAny M' A (if (m.runFor PySem.Builtin.Re.reTurnSteps).outcome.isSome = true then _ else _) Q E s
    rw [runFor_it]
    by_cases h : (itM PySem.Builtin.Re.reTurnSteps m).outcome.isSome = true
    · rw [if_pos h]
      have : itM PySem.Builtin.Re.reTurnSteps m = r := by
        by_cases hle : k ≤ 4
        · have e : PySem.Builtin.Re.reTurnSteps = k + (4 - k) := by show 4 = _; omega
          rw [e, itM_add, hr, itM_done ho]
        · have e : k = PySem.Builtin.Re.reTurnSteps + (k - 4) := by show k = 4 + _; omega
          rw [e, itM_add, itM_done h] at hr
          exact hr
      rw [this]; exact wpAny_pure hq
    · rw [if_neg h]
      refine wpAny_bind (wpAny_rule ?_)
      have hk4 : 4 < k := by
        apply Nat.lt_of_not_le
        intro hle
        apply h
        have e : PySem.Builtin.Re.reTurnSteps = k + (4 - k) := by show 4 = _; omega
        rw [e, itM_add, hr, itM_done ho]; exact ho
      have e : k = PySem.Builtin.Re.reTurnSteps + (k - 4) := by show k = 4 + _; omega
      have ht : 0 < turns := by omega
      rw [e, itM_add] at hr
      exact wp_drive turns _ r (k - 4) (by omega) ht hr ho hq
end

def c1 : Array Nat := #[14, 4, 0, 1, 1, 6, 1, 16, 46, 1]
def c2 : Array Nat := #[14, 9, 4, 1, 2, 16, 10, 16, 13, 0, 7, 7, 16, 13, 16, 10, 15, 18, 5, 16, 10, 15, 13, 11, 16, 13, 5, 5, 0, 16, 10, 1, 15, 2, 0, 1]

def fr1 (s : Nat) (om : Bool) : Sre.Frame := { wait := .nextStart, pc := 5, pos := s, outermost := om }
def st1 (text : Array Nat) (s : Nat) (om : Bool) (seen : Seen) : M :=
  { code := c1, text, lim := text.size, start := s, lastStart := text.size, pc := 5, pos := s, handed := s, outermost := om, marks := #[], frames := [fr1 s om], weight := 1, seen }

theorem st1_start (text : Array Nat) (s : Nat) (h : s + 1 ≤ text.size) : ∃ seen, forSearch c1 text 0 s text.size false = st1 text s true seen := by
  refine ⟨({} : Seen).add 14, ?_⟩
  have e : (decide (s > text.size) || decide (text.size - s < 1)) = false := by
    rw [decide_eq_false (by omega), decide_eq_false (by omega)]; rfl
  show (if (decide (s > text.size) || decide (text.size - s < 1)) = true then _ else _) = _
  rw [e]
  rfl

theorem st1_none (text : Array Nat) (s : Nat) (h : text.size < s + 1) : (itM 1 (forSearch c1 text 0 s text.size false)).outcome = some .failed := by
  have e : (decide (s > text.size) || decide (text.size - s < 1)) = true := by
    rw [decide_eq_true (p := text.size - s < 1) (by omega), Bool.or_true]
  have : ∃ m : M, forSearch c1 text 0 s text.size false = M.say m false ∧ m.outcome = none ∧ m.frames = [] := by
    refine ⟨_, (if_pos e : (if (decide (s > text.size) || decide (text.size - s < 1)) = true then _ else _) = _), rfl, rfl⟩
  obtain ⟨m, e, h1, h2⟩ := this
  rw [e]
  simp [itM, M.step, M.say, h1, h2]

/-- a start of a line -/
def bol (text : Array Nat) (s : Nat) : Prop := s = 0 ∨ text[s - 1]?.getD 0 = 10

theorem op6 : ops[6]? = some .AT := rfl
theorem op16 : ops[16]? = some .LITERAL := rfl
theorem op1 : ops[1]? = some .SUCCESS := rfl
theorem op14 : ops[14]? = some .INFO := rfl

theorem lit_go (m : M) (ho : m.outcome = none) (ha : m.answer = none) (hpc : m.pc < m.code.size) : m.step = m.exec := by
  unfold M.step
  rw [if_neg (by rw [ho]; decide), ha]
  exact if_pos hpc
theorem lit_word (m : M) (hw : m.code.getD m.pc 0 = 16) : m.exec = if m.pos ≥ m.lim then { m with seen := m.seen.add 16, answer := some false } else
    match accepts m.code m.pc (m.text.getD m.pos 0) (m.seen.add 16) with
    | .error why => M.stick { m with seen := m.seen.add 16 } why
    | .ok (false, seen) => { m with seen, answer := some false }
    | .ok (true, seen) => { m with seen, pc := m.pc + itemWidth m.code m.pc, pos := m.pos + 1 } := by
  have hw' : m.word 0 = 16 := hw
  unfold M.exec
  rw [hw']
  rfl
theorem lit_acc {code : Array Nat} {i c w : Nat} {seen : Seen} (hw : code.getD i 0 = 16) (hc : code.getD (i + 1) 0 = w) : accepts code i c seen = .ok (c == w, seen) := by
  unfold accepts
  rw [hw, hc]
  rfl
theorem lit_on {m : M} (c : Nat) (ho : m.outcome = none) (ha : m.answer = none) (hpc : m.pc < m.code.size) (hw : m.code.getD m.pc 0 = 16) (hc : m.code.getD (m.pc + 1) 0 = c) (hl : m.pos < m.lim) (ht : m.text.getD m.pos 0 = c) :
    m.step = { m with seen := m.seen.add 16, pc := m.pc + 2, pos := m.pos + 1 } := by
  have hi : itemWidth m.code m.pc = 2 := by unfold itemWidth; rw [hw]; rfl
  rw [lit_go m ho ha hpc, lit_word m hw, if_neg (Nat.not_le.mpr hl), lit_acc hw hc, ht, beq_self_eq_true, hi]
theorem lit_off {m : M} (c : Nat) (ho : m.outcome = none) (ha : m.answer = none) (hpc : m.pc < m.code.size) (hw : m.code.getD m.pc 0 = 16) (hc : m.code.getD (m.pc + 1) 0 = c) (h : m.lim ≤ m.pos ∨ ¬ m.text.getD m.pos 0 = c) :
    m.step = { m with seen := m.seen.add 16, answer := some false } := by
  rw [lit_go m ho ha hpc, lit_word m hw]
  by_cases hl : m.pos ≥ m.lim
  · rw [if_pos hl]
  · rw [if_neg hl, lit_acc hw hc, beq_false_of_ne (h.resolve_left hl)]
section
variable (text : Array Nat) (s : Nat) (om : Bool) (seen : Seen)
theorem st1_at_off (h0 : ¬ s = 0) (h1 : ¬ text[s - 1]?.getD 0 = 10) : M.step (st1 text s om seen) = { st1 text s om ((seen.add 6).add 44) with answer := some false } := by
  simp [M.step, M.exec, M.word, M.isAt, M.say, st1, fr1, c1, op6, h0, h1]
theorem st1_at_on (hb : bol text s) : M.step (st1 text s om seen) = { st1 text s om ((seen.add 6).add 44) with pc := 7 } := by
  have hb' : (s == 0 || text[s - 1]?.getD 0 == 10) = true := by
    rcases hb with h | h <;> simp [h]
  have hb'' : s = 0 ∨ text[s - 1]?.getD 0 = 10 := hb
  simp [M.step, M.exec, M.word, M.isAt, M.say, st1, fr1, c1, op6, hb'']
theorem st1_back (hs : s < text.size) : M.step { st1 text s om seen with answer := some false } = st1 text (s + 1) false seen := by
  simp [M.step, M.resume, M.putBack, M.say, M.attemptFrom, M.hasFirstSet, M.attemptAt, M.attempt, st1, fr1, c1, op14, hs]
theorem st1_back7 (hs : s < text.size) : M.step { st1 text s om seen with pc := 7, answer := some false } = st1 text (s + 1) false seen := by
  simp [M.step, M.resume, M.putBack, M.say, M.attemptFrom, M.hasFirstSet, M.attemptAt, M.attempt, st1, fr1, c1, op14, hs]
theorem st1_lit_off (hs : s < text.size) (hc : ¬ text[s]?.getD 0 = 46) : M.step { st1 text s om seen with pc := 7 } = { st1 text s om (seen.add 16) with pc := 7, answer := some false } :=
  lit_off 46 rfl rfl (by decide : 7 < 10) rfl rfl (.inr fun e => hc ((show text[s]?.getD 0 = text.getD s 0 by simp).trans e))
theorem st1_lit_end (hs : text.size ≤ s) : M.step { st1 text s om seen with pc := 7 } = { st1 text s om (seen.add 16) with pc := 7, answer := some false } :=
  lit_off 46 rfl rfl (by decide : 7 < 10) rfl rfl (.inl hs)
theorem st1_lit_on (hs : s < text.size) (hc : text[s]?.getD 0 = 46) : M.step { st1 text s om seen with pc := 7 } = { st1 text s om (seen.add 16) with pc := 9, pos := s + 1 } :=
  lit_on 46 rfl rfl (by decide : 7 < 10) rfl rfl hs ((show text[s]?.getD 0 = text.getD s 0 by simp).symm.trans hc)
theorem st1_hit3 : ∃ r, itM 3 { st1 text s om seen with pc := 9, pos := s + 1 } = r ∧ r.outcome = some .matched ∧ r.start = s ∧ r.handed = s + 1 := by
  refine ⟨_, rfl, ?_⟩
  have t1 : M.step { st1 text s om seen with pc := 9, pos := s + 1 } = { st1 text s om (seen.add 1) with pc := 9, pos := s + 1, handed := s + 1, answer := some true } := by cases om <;> rfl
  have t2 : M.step { st1 text s om (seen.add 1) with pc := 9, pos := s + 1, handed := s + 1, answer := some true } = { st1 text s om (seen.add 1) with pc := 5, handed := s + 1, answer := some true, frames := [], weight := 0 } := rfl
  have t3 : M.step { st1 text s om (seen.add 1) with pc := 5, handed := s + 1, answer := some true, frames := [], weight := 0 } = { st1 text s om (seen.add 1) with pc := 5, handed := s + 1, answer := some true, frames := [], weight := 0, outcome := some .matched } := rfl
  have e : itM 3 { st1 text s om seen with pc := 9, pos := s + 1 } = _ := (congrArg (fun m => M.step (M.step m)) t1).trans ((congrArg M.step t2).trans t3)
  rw [e]
  exact ⟨rfl, rfl, rfl⟩
theorem st1_fail2 (hs : ¬ s < text.size) (pc : Nat) : ∃ r, itM 2 { st1 text s om seen with pc, answer := some false } = r ∧ r.outcome = some .failed := by
  refine ⟨_, rfl, ?_⟩
  simp [itM, M.step, M.exec, M.word, M.say, M.resume, M.putBack, st1, fr1, c1, hs]
end

/-- the first place from s on where a line starts with a dot -/
def dotAt (text : Array Nat) (p : Nat) : Prop := bol text p ∧ text[p]?.getD 0 = 46

theorem st1_skip (text : Array Nat) (s : Nat) (om : Bool) (seen : Seen) (hs : s < text.size) (hn : ¬ dotAt text s) : ∃ k seen', k ≤ 3 ∧ itM k (st1 text s om seen) = st1 text (s + 1) false seen' := by
  by_cases hb : bol text s
  · refine ⟨3, (((seen.add 6).add 44).add 16), Nat.le_refl _, ?_⟩
    show M.step (M.step (M.step _)) = _
    rw [st1_at_on _ _ _ _ hb, st1_lit_off _ _ _ _ hs (fun h => hn ⟨hb, h⟩), st1_back7 _ _ _ _ hs]
  · refine ⟨2, (seen.add 6).add 44, by omega, ?_⟩
    show M.step (M.step _) = _
    rw [st1_at_off _ _ _ _ (fun h => hb (.inl h)) (fun h => hb (.inr h)), st1_back _ _ _ _ hs]

theorem st1_found (text : Array Nat) (p : Nat) (om : Bool) (seen : Seen) (hs : p < text.size) (hd : dotAt text p) : ∃ r, itM 5 (st1 text p om seen) = r ∧ r.outcome = some .matched ∧ r.start = p ∧ r.handed = p + 1 := by
  show ∃ r, itM 3 (M.step (M.step _)) = r ∧ _
  rw [st1_at_on _ _ _ _ hd.1, st1_lit_on _ _ _ _ hs hd.2]
  exact st1_hit3 ..

theorem st1_over (text : Array Nat) (om : Bool) (seen : Seen) : ∃ k r, k ≤ 4 ∧ itM k (st1 text text.size om seen) = r ∧ r.outcome = some .failed := by
  by_cases hb : bol text text.size
  · refine ⟨4, _, by omega, rfl, ?_⟩
    show (itM 2 (M.step (M.step _))).outcome = _
    rw [st1_at_on _ _ _ _ hb, st1_lit_end _ _ _ _ (Nat.le_refl _)]
    obtain ⟨r, e, h⟩ := st1_fail2 text text.size om (((seen.add 6).add 44).add 16) (Nat.lt_irrefl _) 7
    rw [e]; exact h
  · refine ⟨3, _, by omega, rfl, ?_⟩
    show (itM 2 (M.step _)).outcome = _
    rw [st1_at_off _ _ _ _ (fun h => hb (.inl h)) (fun h => hb (.inr h))]
    obtain ⟨r, e, h⟩ := st1_fail2 text text.size om ((seen.add 6).add 44) (Nat.lt_irrefl _) 5
    rw [← h, ← e]; rfl

theorem st1_search (text : Array Nat) : ∀ (n s : Nat) (om : Bool) (seen : Seen), text.size - s = n → s ≤ text.size →
    ∃ k r, k ≤ 3 * n + 5 ∧ itM k (st1 text s om seen) = r ∧
      ((∃ p, s ≤ p ∧ p < text.size ∧ dotAt text p ∧ (∀ q, s ≤ q → q < p → ¬ dotAt text q) ∧ r.outcome = some .matched ∧ r.start = p ∧ r.handed = p + 1) ∨
       ((∀ q, s ≤ q → q < text.size → ¬ dotAt text q) ∧ r.outcome = some .failed)) := by
  intro n
  induction n with
  | zero =>
    intro s om seen hn hs
    have : s = text.size := by omega
    subst this
    obtain ⟨k, r, hk, e, h⟩ := st1_over text om seen
    exact ⟨k, r, by omega, e, .inr ⟨fun q h1 h2 => by omega, h⟩⟩
  | succ n ih =>
    intro s om seen hn hs
    have hlt : s < text.size := by omega
    by_cases hd : dotAt text s
    · obtain ⟨r, e, h⟩ := st1_found text s om seen hlt hd
      exact ⟨5, r, by omega, e, .inl ⟨s, Nat.le_refl _, hlt, hd, fun q h1 h2 => by omega, h⟩⟩
    · obtain ⟨k₁, seen', hk₁, e₁⟩ := st1_skip text s om seen hlt hd
      obtain ⟨k, r, hk, e, h⟩ := ih (s + 1) false seen' (by omega) (by omega)
      refine ⟨k₁ + k, r, by omega, by rw [itM_add, e₁, e], ?_⟩
      rcases h with ⟨p, h1, h2, h3, h4, h5⟩ | ⟨h1, h2⟩
      · refine .inl ⟨p, by omega, h2, h3, fun q q1 q2 => ?_, h5⟩
        by_cases hq : q = s
        · subst hq; exact hd
        · exact h4 q (by omega) q2
      · refine .inr ⟨fun q q1 q2 => ?_, h2⟩
        by_cases hq : q = s
        · subst hq; exact hd
        · exact h1 q (by omega) q2
end
end
-- PART-END Sre1

section
open PySem
section
open PySem.Sre

theorem search1 (text : Array Nat) (s : Nat) (hs : s ≤ text.size) :
    ∃ k r, k ≤ 3 * text.size + 6 ∧ itM k (forSearch c1 text 0 s text.size false) = r ∧
      ((∃ p, s ≤ p ∧ p < text.size ∧ dotAt text p ∧ (∀ q, s ≤ q → q < p → ¬ dotAt text q) ∧ r.outcome = some .matched ∧ r.start = p ∧ r.handed = p + 1) ∨
       ((∀ q, s ≤ q → q < text.size → ¬ dotAt text q) ∧ r.outcome = some .failed)) := by
  by_cases h : s + 1 ≤ text.size
  · obtain ⟨seen, e⟩ := st1_start text s h
    obtain ⟨k, r, hk, hr, hh⟩ := st1_search text _ s true seen rfl hs
    exact ⟨k, r, by omega, by rw [e]; exact hr, hh⟩
  · exact ⟨1, _, by omega, rfl, .inr ⟨fun q q1 q2 => by omega, st1_none text s (by omega)⟩⟩

def fr2 (p : Nat) (om : Bool) : Sre.Frame := { wait := .nextStart, pc := 10, pos := p, outermost := om }
def st2 (text : Array Nat) (p : Nat) (om : Bool) (seen : Seen) : M :=
  { code := c2, text, lim := text.size, start := p, lastStart := text.size, pc := 10, pos := p, handed := p, outermost := om, marks := #[], frames := [fr2 p om], weight := 1, seen }
/-- a sign that ends a line -/
def isEnd (c : Nat) : Bool := c == 10 || c == 13

theorem op0 : ops[0]? = some .FAILURE := rfl
theorem op7 : ops[7]? = some .BRANCH := rfl
theorem op15 : ops[15]? = some .JUMP := rfl
theorem op5 : ops[5]? = some .ASSERT_NOT := rfl

theorem inSet2 (c : Nat) (seen : Seen) : ∃ seen', inSet c2 c c2.size 5 true seen = .ok (isEnd c, seen') := by
  by_cases h1 : c = 10
  · subst h1; exact ⟨_, rfl⟩
  · by_cases h2 : c = 13
    · subst h2; exact ⟨_, rfl⟩
    · have h3 : (c == 10) = false := by simp [h1]
      have h4 : (c == 13) = false := by simp [h2]
      refine ⟨((seen.add 16).add 16).add 0, ?_⟩
      simp [inSet, c2, op16, op0, isEnd, h3, h4]

theorem admitted2 (m : M) (hc : m.code = c2) : ∀ (n s : Nat) (seen : Seen), m.lim < n + s → ∃ seen',
    (∃ p, s ≤ p ∧ p < m.lim ∧ isEnd (m.text.getD p 0) = true ∧ (∀ q, s ≤ q → q < p → isEnd (m.text.getD q 0) = false) ∧ M.admitted m n s seen = .ok (some p, seen')) ∨
    ((∀ q, s ≤ q → q < m.lim → isEnd (m.text.getD q 0) = false) ∧ M.admitted m n s seen = .ok (none, seen')) := by
  intro n
  induction n with
  | zero => intro s seen h; exact ⟨seen, .inr ⟨fun q q1 q2 => by omega, rfl⟩⟩
  | succ n ih =>
    intro s seen h
    by_cases hl : s ≥ m.lim
    · refine ⟨seen, .inr ⟨fun q q1 q2 => by omega, ?_⟩⟩
      unfold M.admitted; rw [if_pos hl]
    · obtain ⟨seen₁, e⟩ := inSet2 (m.text.getD s 0) seen
      have u : M.admitted m (n + 1) s seen = match inSet m.code (m.text.getD s 0) m.code.size 5 true seen with
          | .ok (true, seen) => .ok (some s, seen)
          | .ok (false, seen) => M.admitted m n (s + 1) seen
          | .error why => .error why := by
        rw [M.admitted, if_neg hl]; rfl
      rw [hc, e] at u
      cases hq : isEnd (m.text.getD s 0) with
      | true =>
        rw [hq] at u
        exact ⟨seen₁, .inl ⟨s, Nat.le_refl _, by omega, hq, fun q q1 q2 => by omega, u⟩⟩
      | false =>
        rw [hq] at u
        obtain ⟨seen', h'⟩ := ih (s + 1) seen₁ (by omega)
        refine ⟨seen', ?_⟩
        rcases h' with ⟨p, h1, h2, h3, h4, h5⟩ | ⟨h1, h2⟩
        · refine .inl ⟨p, by omega, h2, h3, fun q q1 q2 => ?_, u.trans h5⟩
          by_cases hqs : q = s
          · subst hqs; exact hq
          · exact h4 q (by omega) q2
        · refine .inr ⟨fun q q1 q2 => ?_, u.trans h2⟩
          by_cases hqs : q = s
          · subst hqs; exact hq
          · exact h1 q (by omega) q2

/-- the second pattern's machine, standing somewhere -/
def x2 (text : Array Nat) (p : Nat) (seen : Seen) (pc pos handed : Nat) (om : Bool) (fs : List Sre.Frame) (wt : Nat) (an : Option Bool) : M :=
  { code := c2, text, lim := text.size, start := p, lastStart := text.size, pc, pos, handed, outermost := om, marks := #[], frames := fs, weight := wt, answer := an, seen }
def br (p : Nat) (om : Bool) (k : Nat) : Sre.Frame := { wait := .nextBranch, pc := k, pos := p, outermost := om }
def Hit (r : M) (p e : Nat) : Prop := r.outcome = some .matched ∧ r.start = p ∧ r.handed = e
section
variable (text : Array Nat) (p : Nat) (om : Bool) (seen : Seen)
/-- how far a line's end reaches -/
def endLen : Nat := if text[p]?.getD 0 = 13 ∧ text[p + 1]?.getD 0 = 10 then 2 else 1

theorem x2_end (s : Seen) (e d k : Nat) : Hit (itM 4 (x2 text p s 35 e d om [br p om k, fr2 p om] 2 none)) p e := by
  have t1 : M.step (x2 text p s 35 e d om [br p om k, fr2 p om] 2 none) = x2 text p (s.add 1) 35 e e om [br p om k, fr2 p om] 2 (some true) := by cases om <;> rfl
  generalize s.add 1 = s1 at t1
  have t2 : M.step (x2 text p s1 35 e e om [br p om k, fr2 p om] 2 (some true)) = x2 text p s1 k p e om [fr2 p om] 1 (some true) := rfl
  have t3 : M.step (x2 text p s1 k p e om [fr2 p om] 1 (some true)) = x2 text p s1 10 p e om [] 0 (some true) := rfl
  have t4 : M.step (x2 text p s1 10 p e om [] 0 (some true)) = { x2 text p s1 10 p e om [] 0 (some true) with outcome := some .matched } := rfl
  show Hit (M.step (M.step (M.step (M.step (x2 text p s 35 e d om [br p om k, fr2 p om] 2 none))))) p e
  rw [t1, t2, t3, t4]
  exact ⟨rfl, rfl, rfl⟩
theorem st2_ten (hp : p < text.size) (h : text.getD p 0 = 10) : ∃ k r, k ≤ 20 ∧ itM k (st2 text p om seen) = r ∧ Hit r p (p + 1) := by
  refine ⟨9, _, by decide, rfl, ?_⟩
  have t1 : M.step (st2 text p om seen) = x2 text p (seen.add 7) 12 p p om [br p om 11, fr2 p om] 2 none := rfl
  have t2 : M.step (x2 text p (seen.add 7) 12 p p om [br p om 11, fr2 p om] 2 none) = x2 text p ((seen.add 7).add 16) 12 p p om [br p om 11, fr2 p om] 2 (some false) :=
    lit_off 13 rfl rfl (by decide : 12 < 36) rfl rfl (.inr fun (e : text.getD p 0 = 13) => by rw [h] at e; cases e)
  have t3 : M.step (x2 text p ((seen.add 7).add 16) 12 p p om [br p om 11, fr2 p om] 2 (some false)) = x2 text p ((seen.add 7).add 16) 19 p p om [br p om 18, fr2 p om] 2 none := rfl
  have t4 : M.step (x2 text p ((seen.add 7).add 16) 19 p p om [br p om 18, fr2 p om] 2 none) = x2 text p (((seen.add 7).add 16).add 16) 21 (p + 1) p om [br p om 18, fr2 p om] 2 none :=
    lit_on 10 rfl rfl (by decide : 19 < 36) rfl rfl hp h
  have t5 : M.step (x2 text p (((seen.add 7).add 16).add 16) 21 (p + 1) p om [br p om 18, fr2 p om] 2 none) = x2 text p ((((seen.add 7).add 16).add 16).add 15) 35 (p + 1) p om [br p om 18, fr2 p om] 2 none := rfl
  show Hit (itM 4 (M.step (M.step (M.step (M.step (M.step (st2 text p om seen))))))) _ _
  rw [t1, t2, t3, t4, t5]
  exact x2_end ..
theorem st2_both (hp : p + 1 < text.size) (h : text.getD p 0 = 13) (h' : text.getD (p + 1) 0 = 10) : ∃ k r, k ≤ 20 ∧ itM k (st2 text p om seen) = r ∧ Hit r p (p + 2) := by
  refine ⟨8, _, by decide, rfl, ?_⟩
  have t1 : M.step (st2 text p om seen) = x2 text p (seen.add 7) 12 p p om [br p om 11, fr2 p om] 2 none := rfl
  have t2 : M.step (x2 text p (seen.add 7) 12 p p om [br p om 11, fr2 p om] 2 none) = x2 text p ((seen.add 7).add 16) 14 (p + 1) p om [br p om 11, fr2 p om] 2 none :=
    lit_on 13 rfl rfl (by decide : 12 < 36) rfl rfl (Nat.lt_of_succ_lt hp) h
  have t3 : M.step (x2 text p ((seen.add 7).add 16) 14 (p + 1) p om [br p om 11, fr2 p om] 2 none) = x2 text p (((seen.add 7).add 16).add 16) 16 (p + 2) p om [br p om 11, fr2 p om] 2 none :=
    lit_on 10 rfl rfl (by decide : 14 < 36) rfl rfl hp h'
  have t4 : M.step (x2 text p (((seen.add 7).add 16).add 16) 16 (p + 2) p om [br p om 11, fr2 p om] 2 none) = x2 text p ((((seen.add 7).add 16).add 16).add 15) 35 (p + 2) p om [br p om 11, fr2 p om] 2 none := rfl
  show Hit (itM 4 (M.step (M.step (M.step (M.step (st2 text p om seen)))))) _ _
  rw [t1, t2, t3, t4]
  exact x2_end ..
theorem st2_lone (hp : p < text.size) (h : text.getD p 0 = 13) (h' : text.getD (p + 1) 0 ≠ 10) : ∃ k r, k ≤ 20 ∧ itM k (st2 text p om seen) = r ∧ Hit r p (p + 1) := by
  refine ⟨15, _, by decide, rfl, ?_⟩
  have t1 : M.step (st2 text p om seen) = x2 text p (seen.add 7) 12 p p om [br p om 11, fr2 p om] 2 none := rfl
  generalize seen.add 7 = s1 at t1
  have t2 : M.step (x2 text p s1 12 p p om [br p om 11, fr2 p om] 2 none) = x2 text p (s1.add 16) 14 (p + 1) p om [br p om 11, fr2 p om] 2 none :=
    lit_on 13 rfl rfl (by decide : 12 < 36) rfl rfl hp h
  generalize s1.add 16 = s2 at t2
  have t3 : M.step (x2 text p s2 14 (p + 1) p om [br p om 11, fr2 p om] 2 none) = x2 text p (s2.add 16) 14 (p + 1) p om [br p om 11, fr2 p om] 2 (some false) :=
    lit_off 10 rfl rfl (by decide : 14 < 36) rfl rfl (.inr h')
  generalize s2.add 16 = s3 at t3
  have t4 : M.step (x2 text p s3 14 (p + 1) p om [br p om 11, fr2 p om] 2 (some false)) = x2 text p s3 19 p p om [br p om 18, fr2 p om] 2 none := rfl
  have t5 : M.step (x2 text p s3 19 p p om [br p om 18, fr2 p om] 2 none) = x2 text p (s3.add 16) 19 p p om [br p om 18, fr2 p om] 2 (some false) :=
    lit_off 10 rfl rfl (by decide : 19 < 36) rfl rfl (.inr fun (e : text.getD p 0 = 10) => by rw [h] at e; cases e)
  generalize s3.add 16 = s4 at t5
  have t6 : M.step (x2 text p s4 19 p p om [br p om 18, fr2 p om] 2 (some false)) = x2 text p s4 24 p p om [br p om 23, fr2 p om] 2 none := rfl
  have t7 : M.step (x2 text p s4 24 p p om [br p om 23, fr2 p om] 2 none) = x2 text p (s4.add 16) 26 (p + 1) p om [br p om 23, fr2 p om] 2 none :=
    lit_on 13 rfl rfl (by decide : 24 < 36) rfl rfl hp h
  generalize s4.add 16 = s5 at t7
  have t8 : M.step (x2 text p s5 26 (p + 1) p om [br p om 23, fr2 p om] 2 none) = x2 text p (s5.add 5) 29 (p + 1) (p + 1) false [{ wait := .lookNot, pc := 26, pos := p + 1, outermost := om }, br p om 23, fr2 p om] 3 none := rfl
  generalize s5.add 5 = s6 at t8
  have t9 : M.step (x2 text p s6 29 (p + 1) (p + 1) false [{ wait := .lookNot, pc := 26, pos := p + 1, outermost := om }, br p om 23, fr2 p om] 3 none) = x2 text p (s6.add 16) 29 (p + 1) (p + 1) false [{ wait := .lookNot, pc := 26, pos := p + 1, outermost := om }, br p om 23, fr2 p om] 3 (some false) :=
    lit_off 10 rfl rfl (by decide : 29 < 36) rfl rfl (.inr h')
  generalize s6.add 16 = s7 at t9
  have t10 : M.step (x2 text p s7 29 (p + 1) (p + 1) false [{ wait := .lookNot, pc := 26, pos := p + 1, outermost := om }, br p om 23, fr2 p om] 3 (some false)) = x2 text p s7 32 (p + 1) (p + 1) om [br p om 23, fr2 p om] 2 none := rfl
  have t11 : M.step (x2 text p s7 32 (p + 1) (p + 1) om [br p om 23, fr2 p om] 2 none) = x2 text p (s7.add 15) 35 (p + 1) (p + 1) om [br p om 23, fr2 p om] 2 none := rfl
  show Hit (itM 4 (M.step (M.step (M.step (M.step (M.step (M.step (M.step (M.step (M.step (M.step (M.step (st2 text p om seen))))))))))))) _ _
  rw [t1, t2, t3, t4, t5, t6, t7, t8, t9, t10, t11]
  exact x2_end ..
theorem st2_run (hp : p < text.size) (h : isEnd (text[p]?.getD 0) = true) : ∃ k r, k ≤ 20 ∧ itM k (st2 text p om seen) = r ∧ Hit r p (p + endLen text p) := by
  have gd : ∀ q, text[q]?.getD 0 = text.getD q 0 := fun q => by simp
  unfold endLen
  by_cases h13 : text[p]?.getD 0 = 13
  · by_cases h10 : text[p + 1]?.getD 0 = 10
    · rw [if_pos ⟨h13, h10⟩]
      refine st2_both text p om seen ?_ (by rw [← gd]; exact h13) (by rw [← gd]; exact h10)
      apply Nat.lt_of_not_le
      intro hle
      rw [Array.getElem?_eq_none (by omega)] at h10
      cases h10
    · rw [if_neg (fun z => h10 z.2)]
      exact st2_lone text p om seen hp (by rw [← gd]; exact h13) (by rw [← gd]; exact h10)
  · rw [if_neg (fun z => h13 z.1)]
    refine st2_ten text p om seen hp ?_
    rw [← gd]
    unfold isEnd at h
    rcases Bool.or_eq_true_iff.mp h with h | h
    · exact eq_of_beq h
    · exact absurd (eq_of_beq h) h13
end

theorem hasFirst2 (m : M) (hc : m.code = c2) : m.hasFirstSet = true := by
  unfold M.hasFirstSet; rw [hc]; rfl

theorem search2 (text : Array Nat) (s : Nat) (hs : s ≤ text.size) :
    ∃ k r, k ≤ 24 ∧ itM k (forSearch c2 text 0 s text.size false) = r ∧
      ((∃ p, s ≤ p ∧ p < text.size ∧ isEnd (text[p]?.getD 0) = true ∧ (∀ q, s ≤ q → q < p → isEnd (text[q]?.getD 0) = false) ∧ r.outcome = some .matched ∧ r.start = p ∧ r.handed = p + endLen text p) ∨
       ((∀ q, s ≤ q → q < text.size → isEnd (text[q]?.getD 0) = false) ∧ r.outcome = some .failed)) := by
  by_cases hlt : text.size < s + 1
  · have e : (decide (s > text.size) || decide (text.size - s < 1)) = true := by
      rw [decide_eq_true (p := text.size - s < 1) (by omega), Bool.or_true]
    have : ∃ m : M, forSearch c2 text 0 s text.size false = M.say m false ∧ m.outcome = none ∧ m.frames = [] := by
      refine ⟨_, (if_pos e : (if (decide (s > text.size) || decide (text.size - s < 1)) = true then _ else _) = _), rfl, rfl⟩
    obtain ⟨m, e, h1, h2⟩ := this
    refine ⟨1, _, by omega, rfl, .inr ⟨fun q q1 q2 => by omega, ?_⟩⟩
    rw [e]
    simp [itM, M.step, M.say, h1, h2]
  · have e : (decide (s > text.size) || decide (text.size - s < 1)) = false := by
      rw [decide_eq_false (by omega), decide_eq_false (by omega)]; rfl
    have : ∃ m : M, forSearch c2 text 0 s text.size false = M.attemptFrom m s true ∧ m.code = c2 ∧ m.lim = text.size ∧ m.text = text ∧ m.outcome = none ∧ m.answer = none ∧ m.frames = [] ∧
        (∀ p seen, M.attemptAt { m with mustAdvance := false, seen } p true = st2 text p true seen) := by
      refine ⟨_, (if_neg (by rw [e]; decide) : (if (decide (s > text.size) || decide (text.size - s < 1)) = true then _ else _) = _), rfl, rfl, rfl, rfl, rfl, rfl, fun p seen => rfl⟩
    obtain ⟨m, e1, hc, hl, ht, ho, ha, hf, hat⟩ := this
    rw [e1]
    obtain ⟨seen', h⟩ := admitted2 m hc (m.lim + 1 - s) s m.seen (by omega)
    have gd : ∀ q, m.text.getD q 0 = text[q]?.getD 0 := fun q => by rw [ht]; simp
    rcases h with ⟨p, h1, h2, h3, h4, h5⟩ | ⟨h1, h2⟩
    · have ea : M.attemptFrom m s true = st2 text p true seen' := by
        unfold M.attemptFrom
        rw [hasFirst2 m hc, h5]
        exact hat p seen'
      obtain ⟨k, r, hk, hr, q1, q2, q3⟩ := st2_run text p true seen' (by omega) (by rw [← gd]; exact h3)
      exact ⟨k, r, by omega, by rw [ea]; exact hr, .inl ⟨p, h1, by omega, by rw [← gd]; exact h3, fun q a b => by rw [← gd]; exact h4 q a b, q1, q2, q3⟩⟩
    · have ea : M.attemptFrom m s true = M.say { m with seen := seen' } false := by
        unfold M.attemptFrom
        rw [hasFirst2 m hc, h2]
        rfl
      refine ⟨1, _, by omega, rfl, .inr ⟨fun q a b => by rw [← gd]; exact h1 q a (by omega), ?_⟩⟩
      rw [ea]
      simp [itM, M.step, M.say, ho, hf]
end
end
-- PART-END Sre2

section
open PySem PySem.W PyProof.Rows PySem.Spec
set_option maxRecDepth 100000
section

theorem slot_sub : Slot "re.Pattern" "sub" "re.Pattern.sub" :=
  .of (owner := "re.Pattern") (n := "sub") (by rw [typeLookup_type, builtinLookup_eq_fast]; kernel_rfl) (by decide +kernel) (by decide +kernel) (by decide +kernel)
    (by first | exact .inl (by decide +kernel) | exact .inr (by decide +kernel)) (by rw [isSubtype_type]; kernel_rfl)
theorem type_sub : typeOf (.builtin "re.Pattern.sub") = pure (.type "method_descriptor") := by show builtinType _ = _; rw [builtinType_eq_fast]; kernel_rfl
theorem entry_sub : entryFor table "re.Pattern.sub" = some Builtin.«re.Pattern.sub» := entryFor_of_tree (by kernel_rfl)
theorem entry_loop : entryFor table "re.Pattern.sub.loop" = some Builtin.«re.Pattern.sub.loop» := entryFor_of_tree (by kernel_rfl)
theorem attrs_pat : PlainAttrs "re.Pattern" :=
  ⟨⟨"object.__getattribute__", by rw [typeLookup_type, builtinLookup_eq_fast]; kernel_rfl, by decide +kernel⟩, by rw [typeLookup_type, builtinLookup_eq_fast]; kernel_rfl⟩
theorem args_sub_3 (a b c : Value) : argsOk "re.Pattern.sub" ⟨[a, b, c], []⟩ := by
  unfold argsOk; kernel_rfl
end
end
-- PART-END SubA

section
open PySem PySem.W PyProof.Rows PySem.Spec
set_option maxRecDepth 100000
section
open PySem.Builtin.Re

structure PatAt (h : Heap) (pa ca : Addr) (code : Array Nat) : Prop where
  pat : ∃ p f sl, h.get? pa = some ⟨.type "re.Pattern", none, .fields #[p, f, .int 0 0, .none, .none, .ref ca, .int 0 0], sl⟩
  tup : ∃ o n, h.get? ca = some o ∧ o.data = .seq (code.map fun w => Value.int (w : Nat) 0) n
theorem PatAt.keeps {h h' : Heap} {pa ca : Addr} {code : Array Nat} (P : PatAt h pa ca code) (k : ∀ b o, h.get? b = some o → h'.get? b = some o) : PatAt h' pa ca code := by
  obtain ⟨⟨p, f, sl, e⟩, o, n, e1, e2⟩ := P
  exact ⟨⟨p, f, sl, k _ _ e⟩, o, n, k _ _ e1, e2⟩

def target (pa : Addr) (T : Str) (t : Tok) (code : Array Nat) : ReTarget := { pattern := .ref pa, string := .str T t, code, text := T.cps, kind := 0, groups := 0, pos := 0, lim := T.cps.size }

section
variable {M : Model} {A : Around} {s : Shared} {E : Value → Shared → Prop} {pa ca : Addr} {code : Array Nat} {T : Str} {t : Tok}
theorem raw_code (code : Array Nat) : ((code.map fun w => Value.int (w : Nat) 0).map reRawOf).map (·.toNat) = code := by
  rw [Array.map_map, Array.map_map]
  have : (((fun x : Int => x.toNat) ∘ reRawOf) ∘ fun w : Nat => Value.int (w : Nat) 0) = id := funext fun w => by simp [reRawOf]
  rw [this, Array.map_id]
theorem wp_whole {Q : ReTarget → Shared → Prop} (P : PatAt s.heap pa ca code) (h : Q (target pa T t code) s) : wpAny M A (reWholeTarget (.ref pa) (.str T t)) Q E s := by
  obtain ⟨⟨p, f, sl, e⟩, o, n, e1, e2⟩ := P
  unfold reWholeTarget
  refine wpAny_bind (wpAny_fieldsOf e rfl ?_)
  refine wpAny_bind (wpAny_pure ?_)
  show wpAny M A (reNoCollectionInside (.str T t) 0 >>= fun _ => reRawItems (.ref ca) >>= fun c => pure _) Q E s
  refine wpAny_bind (wpAny_pure (?_ : wpAny M A (reRawItems (.ref ca) >>= fun c => pure _) Q E s))
  refine wpAny_bind (?_ : wpAny M A (seqItems? (.ref ca) >>= fun x => pure ((x.getD #[]).map reRawOf)) _ E s)
  refine wpAny_bind (wpAny_seqItems e1 e2 (wpAny_pure (wpAny_pure ?_)))
  have : ((((some (code.map fun w => Value.int (w : Nat) 0)).getD #[]).map reRawOf).map (·.toNat)) = code := raw_code code
  show Q { pattern := .ref pa, string := .str T t, code := _, text := T.cps, kind := 0, groups := 0, pos := 0, lim := T.cps.size } s
  rw [this]
  exact h

theorem wp_forRule {l : List Nat} {m : Sre.M} {Q : Unit → Shared → Prop} (h : Q () s) : wpAny M A (forIn l () fun i r => do
    if m.seen.has i then rule (Sre.names.getD i "")
    pure (ForInStep.yield r)) Q E s := by
  induction l with
  | nil => exact wpAny_pure h
  | cons i l ih =>
    rw [List.forIn_cons]
    refine wpAny_bind ?_
    by_cases hs : m.seen.has i = true
    · rw [if_pos hs]
      exact wpAny_bind (wpAny_rule (wpAny_pure ih))
    · rw [if_neg hs]
      exact wpAny_pure ih

theorem wp_toEnd {m r : Sre.M} {k : Nat} {Q : Option Sre.M → Shared → Prop} (hk : k ≤ 4 * 2 ^ 64) (hr : itM k m = r)
    (h : (r.outcome = some .matched ∧ Q (some r) s) ∨ (r.outcome = some .failed ∧ Q none s)) : wpAny M A (reRunToEnd m) Q E s := by
  unfold reRunToEnd
  have ho : r.outcome.isSome = true := by rcases h with ⟨e, _⟩ | ⟨e, _⟩ <;> rw [e] <;> rfl
  refine wpAny_bind (wp_drive (2 ^ 64) m r k hk (Nat.two_pow_pos 64) hr ho ?_)
  refine wpAny_bind (wp_forRule ?_)
  rcases h with ⟨e, q⟩ | ⟨e, q⟩
  · rw [e]; exact wpAny_pure q
  · rw [e]; exact wpAny_pure q
end

/-- what a substitution makes of a text from a place on, by what the search tells -/
inductive SubTo (found : Nat → Nat → Nat → Prop) (never : Nat → Prop) (text rep : List Nat) : Nat → List Nat → Prop
  | stop {d : Nat} : never d → SubTo found never text rep d (text.drop d)
  | step {d p e : Nat} {out : List Nat} : found d p e → d ≤ p → p < e → e ≤ text.length → SubTo found never text rep e out → SubTo found never text rep d ((text.drop d).take (p - d) ++ rep ++ out)

/-- the search, as the matcher does it -/
def Finds (code : Array Nat) (T : Array Nat) (found : Nat → Nat → Nat → Prop) (never : Nat → Prop) : Prop :=
  ∀ d, d ≤ T.size → ∃ k r, k ≤ 4 * 2 ^ 64 ∧ itM k (Sre.forSearch code T 0 d T.size false) = r ∧
    ((∃ p e, found d p e ∧ d ≤ p ∧ p < e ∧ e ≤ T.size ∧ r.outcome = some .matched ∧ r.start = p ∧ r.handed = e) ∨ (never d ∧ r.outcome = some .failed))

def textOf (l : List (Str × Tok)) : List Nat := l.flatMap fun x => x.1.cps.toList

section
variable {prog : Program} {w : World} {A : Around} {pa ca : Addr} {code : Array Nat} {T R : Str} {t u : Tok} {found : Nat → Nat → Nat → Prop} {never : Nat → Prop}

theorem wp_slice {M : Model} {A : Around} {s : Shared} {E : Value → Shared → Prop} {text : Array Nat} {b e : Nat} {Q : Value → Shared → Prop} (hs : text.size ≤ sizeLine) (h : ∀ y : Str, y.cps = text.extract b e → Q (.str y s.toks) { s with toks := s.toks + 1 }) : wpAny M A (reSlice text 0 b e) Q E s := by
  show wpAny M A (mkStr ⟨text.extract b e⟩) Q E s
  refine wpAny_mkStr (h _ rfl) ?_
  show (text.extract b e).size ≤ sizeLine
  have : (text.extract b e).size ≤ text.size := by rw [Array.size_extract]; omega
  omega

/-- one push onto the list of the pieces -/
theorem wp_push {M : Model} {A : Around} {s : Shared} {E : Value → Shared → Prop} {pl : Addr} {l : List (Str × Tok)} {c : Nat} {y : Str} {ty : Tok} {Q : Unit → Shared → Prop}
    (ho : s.heap.get? pl = some (W.listOf (strValues l).toArray c)) (hz : l.length + 2 ≤ sizeLine)
    (h : ∀ h' c', h'.get? pl = some (W.listOf (strValues (l ++ [(y, ty)])).toArray c') → (∀ b o, b ≠ pl → s.heap.get? b = some o → h'.get? b = some o) → Q () { s with heap := h' }) :
    wpAny M A (updateSeq pl (·.push (.str y ty))) Q E s := by
  have e1 : (strValues l).toArray.size = l.length := by simp [strValues]
  refine wpAny_updateSeq ho rfl (h _ (c + 1) ?_ ?_) (by rw [e1]; omega) (by rw [Array.size_push, e1]; omega)
  · rw [Heap.get?_update_self _ ho rfl]
    simp [Obj.mapSeq, strValues]
  · intro b o hb e
    exact (Heap.get?_update_ne _ _ _ _ hb).trans e

theorem SubTo.len {text rep : List Nat} (hrep : rep.length ≤ 2) {d : Nat} {out : List Nat} (h : SubTo found never text rep d out) (hd : d ≤ text.length) : out.length ≤ 2 * (text.length - d) := by
  induction h with
  | stop _ => rw [List.length_drop]; omega
  | @step d p e out _ h1 h2 h3 _ ih =>
    have := ih h3
    rw [List.length_append, List.length_append, List.length_take, List.length_drop]
    omega

theorem glued_flat : ∀ (l : List Str), (Txt.join ⟨#[]⟩ l).cps.toList = l.flatMap fun x => x.cps.toList := by
  have go : ∀ (l : List Str) (acc : Array Nat), (l.foldl (fun acc p => acc ++ (#[] : Array Nat) ++ p.cps) acc).toList = acc.toList ++ l.flatMap fun x => x.cps.toList := by
    intro l
    induction l with
    | nil => intro acc; simp
    | cons x l ih => intro acc; rw [List.foldl_cons, ih]; simp
  intro l
  cases l with
  | nil => rfl
  | cons x l =>
    show (l.foldl (fun acc p => acc ++ (#[] : Array Nat) ++ p.cps) x.cps).toList = _
    rw [go]; simp
theorem flat_len (l : List (Str × Tok)) : ((l.map (·.1)).map (·.length)).sum = (textOf l).length := by
  induction l with
  | nil => rfl
  | cons x l ih =>
    rw [List.map_cons, List.map_cons, List.sum_cons, ih]
    show x.1.cps.size + _ = ((x.1.cps.toList ++ textOf l)).length
    rw [List.length_append]; rfl
theorem textOf_append (l m : List (Str × Tok)) : textOf (l ++ m) = textOf l ++ textOf m := List.flatMap_append

abbrev loopArgs (pa pl : Addr) (T R : Str) (t u : Tok) (k d : Int) : Args := ⟨[.ref pa, .str T t, .str R u, rawInt 0, rawInt 0, rawInt k, rawInt d, rawInt d, .bool false, .ref pl, .bool false], []⟩

theorem quiet_loop (args : Args) : (Code.builtin "re.Pattern.sub.loop" args).quiet = true := plainId_quiet (by decide +kernel) args

theorem extract_all (a : Array Nat) (b e : Nat) : (a.extract b e).toList = (a.toList.drop b).take (e - b) := by
  rw [Array.toList_extract]

theorem sub_loop {pl : Addr} (Fi : Finds code T.cps found never) (hT : T.cps.size ≤ 1000000) (hR : R.cps.size ≤ 2) (hne : pa ≠ pl) (hnc : ca ≠ pl) :
    ∀ (n d : Nat) (s : Shared) (l : List (Str × Tok)) (c : Nat) (k : Int) (Rp : Result → Shared → Prop), T.cps.size - d < n → d ≤ T.cps.size → PatAt s.heap pa ca code → s.heap.get? pl = some (W.listOf (strValues l).toArray c) →
      l.length + 2 * (T.cps.size - d) ≤ 2000000 → (textOf l).length + 2 * (T.cps.size - d) ≤ 2000000 →
      (∀ out y t' h' tk', SubTo found never T.cps.toList R.cps.toList d out → y.cps.toList = textOf l ++ out → (∀ b o, b ≠ pl → s.heap.get? b = some o → h'.get? b = some o) → Rp (.ok (.ret (.str y t'))) { s with heap := h', toks := tk' }) →
      codeAny (model prog w) A (.builtin "re.Pattern.sub.loop" (loopArgs pa pl T R t u k d)) Rp s := by
  intro n
  induction n with
  | zero =>
    intro d s l c k Rp hn
    exact absurd hn (Nat.not_lt_zero _)
  | succ n ih =>
    intro d s l c k Rp hn hd P hl hz1 hz2 hq
    refine codeAny_builtin entry_loop ?_
    unfold Builtin.«re.Pattern.sub.loop»
    dsimp only [loopArgs, rawInt]
    refine wpAny_bind (wp_whole P ?_)
    refine wpAny_bind (?_ : wpAny _ _ (reLiteralCannotBeTurned (.str R u)) _ _ _)
    unfold reLiteralCannotBeTurned
    refine wpAny_bind (wpAny_pure ?_)
    refine wpAny_pure ?_
    obtain ⟨kk, r, hkk, hr, hres⟩ := Fi d hd
    refine wpAny_bind (?_ : wpAny _ _ (reNextFound (target pa T t code) d false) _ _ _)
    unfold reNextFound
    refine wp_toEnd hkk hr ?_
    rcases hres with ⟨p, e, hf, h1, h2, h3, ho, hs, he⟩ | ⟨hnev, ho⟩
    · refine .inl ⟨ho, ?_⟩
      dsimp only
      rw [hs, he]
      have hmust : (e == p) = false := by simp; omega
      rw [hmust]
      have go : ∀ (s₁ : Shared) (l₁ : List (Str × Tok)) (c₁ : Nat) (k' : Int), (∃ h tk, s₁ = { s with heap := h, toks := tk }) → (∀ b o, b ≠ pl → s.heap.get? b = some o → s₁.heap.get? b = some o) → s₁.heap.get? pl = some (W.listOf (strValues l₁).toArray c₁) →
          textOf l₁ = textOf l ++ (T.cps.toList.drop d).take (p - d) ++ R.cps.toList → l₁.length ≤ l.length + 2 → codeAny (model prog w) A (.builtin "re.Pattern.sub.loop" (loopArgs pa pl T R t u k' e)) Rp s₁ := by
        rintro s₁ l₁ c₁ k' ⟨h₁, tk₁, rfl⟩ hk hl₁ ht₁ hn₁
        have hlen : (textOf l₁).length ≤ (textOf l).length + (p - d) + 2 := by
          rw [ht₁, List.length_append, List.length_append, List.length_take]
          have : R.cps.toList.length ≤ 2 := by simpa using hR
          omega
        refine ih e _ l₁ c₁ k' Rp (by omega) h3 ?_ hl₁ (by omega) (by omega) fun out y t' h' tk' hsub hy hk' => ?_
        · obtain ⟨⟨a1, a2, a3, a4⟩, b1, b2, b3, b4⟩ := P
          exact ⟨⟨a1, a2, a3, hk _ _ hne a4⟩, b1, b2, hk _ _ hnc b3, b4⟩
        · refine hq ((T.cps.toList.drop d).take (p - d) ++ R.cps.toList ++ out) y t' h' tk' (.step hf h1 h2 (by simpa using h3) hsub) ?_ fun b o hb e => hk' b o hb (hk b o hb e)
          rw [hy, ht₁]
          simp only [List.append_assoc]
      by_cases hdp : d < p
      · rw [if_pos (by simpa using hdp)]
        refine wpAny_bind (wp_slice (by show T.cps.size ≤ sizeLine; rw [sizeLine_eq]; omega) fun y hy => ?_)
        refine wpAny_bind (wp_push (l := l) (c := c) hl (by rw [sizeLine_eq]; omega) fun h₁ c₁ hl₁ hk₁ => ?_)
        rw [if_pos (show ((0 : Int) == 0) = true from rfl)]
        refine wpAny_bind (wpAny_pure ?_)
        rw [if_pos (show (Value.str R u != Value.none) = true from rfl)]
        refine wpAny_bind (wp_push (l := l ++ [(y, s.toks)]) (c := c₁) hl₁ (by rw [sizeLine_eq, List.length_append]; simp only [List.length_cons, List.length_nil]; omega) fun h₂ c₂ hl₂ hk₂ => ?_)
        refine wpAny_pure ⟨quiet_loop _, ?_⟩
        refine go _ _ c₂ (k + 1) ⟨_, _, rfl⟩ (fun b o hb e => hk₂ b o hb (hk₁ b o hb e)) hl₂ ?_ (by simp)
        rw [textOf_append, textOf_append]
        have : textOf [(y, s.toks)] = (T.cps.toList.drop d).take (p - d) := by
          show y.cps.toList ++ [] = _
          rw [List.append_nil, hy]
          show (T.cps.extract d p).toList = _
          rw [extract_all]
        rw [this]
        show _ ++ (R.cps.toList ++ []) = _
        rw [List.append_nil]
      · rw [if_neg (by simpa using hdp)]
        rw [if_pos (show ((0 : Int) == 0) = true from rfl)]
        refine wpAny_bind (wpAny_pure ?_)
        rw [if_pos (show (Value.str R u != Value.none) = true from rfl)]
        refine wpAny_bind (wp_push (l := l) (c := c) hl (by rw [sizeLine_eq]; omega) fun h₂ c₂ hl₂ hk₂ => ?_)
        refine wpAny_pure ⟨quiet_loop _, ?_⟩
        refine go _ _ c₂ (k + 1) ⟨_, s.toks, rfl⟩ (fun b o hb e => hk₂ b o hb e) hl₂ ?_ (by simp)
        rw [textOf_append]
        have : (T.cps.toList.drop d).take (p - d) = [] := by
          have : p - d = 0 := by omega
          rw [this]; rfl
        rw [this, List.append_nil]
        show _ ++ (R.cps.toList ++ []) = _
        rw [List.append_nil]
    · refine .inr ⟨ho, ?_⟩
      dsimp only
      have go : ∀ (s₁ : Shared) (l₁ : List (Str × Tok)) (c₁ : Nat), (∃ h tk, s₁ = { s with heap := h, toks := tk }) → (∀ b o, b ≠ pl → s.heap.get? b = some o → s₁.heap.get? b = some o) → s₁.heap.get? pl = some (W.listOf (strValues l₁).toArray c₁) →
          textOf l₁ = textOf l ++ T.cps.toList.drop d → l₁.length ≤ l.length + 1 →
          wpAny (model prog w) (A.under (.builtin "re.Pattern.sub.loop" (loopArgs pa pl T R t u k d))) (do
            let joiner ← reSlice (target pa T t code).text (target pa T t code).kind 0 0
            let xs ← seqItems? (.ref pl)
            if (xs.getD #[]).isEmpty = true then (do
              let text ← pure joiner
              if false = true then ret (← holding [text] do newTuple [text, ← mkInt k]) else ret text)
            else (do
              let text ← call (.builtin (if ((target pa T t code).kind == 0) = true then "str.join" else "bytes.join")) [joiner, .ref pl]
              if false = true then ret (← holding [text] do newTuple [text, ← mkInt k]) else ret text))
            (fun fin s' => match fin with | .done f => Rp (.ok f) s' | .again c' => c'.quiet = true ∧ codeAny (model prog w) A c' Rp s') (fun e s' => Rp (.error e) s') s₁ := by
        rintro s₁ l₁ c₁ ⟨h₁, tk₁, rfl⟩ hk hl₁ ht₁ hn₁
        refine wpAny_bind (wp_slice (by show T.cps.size ≤ sizeLine; rw [sizeLine_eq]; omega) fun y hy => ?_)
        have hy0 : y.cps = #[] := by
          rw [hy]
          apply Array.ext'
          rw [extract_all]; simp
        have hye : y = ⟨#[]⟩ := by cases y; simp only at hy0; rw [hy0]
        refine wpAny_bind (wpAny_seqItems hl₁ rfl ?_)
        by_cases hem : l₁ = []
        · subst hem
          rw [if_pos (by rfl)]
          refine wpAny_bind (wpAny_pure ?_)
          rw [if_neg (by decide)]
          refine wpAny_pure ?_
          refine hq (T.cps.toList.drop d) y _ h₁ _ (.stop hnev) ?_ hk
          rw [← ht₁, hy0]; rfl
        · rw [if_neg (by cases l₁ with | nil => exact absurd rfl hem | cons x r => simp [strValues])]
          refine wpAny_bind ?_
          rw [if_pos (by rfl), hye]
          refine SC.join (l := l₁) ⟨_, hl₁, rfl, c₁, rfl⟩ rfl ?_ fun t' k' => ?_
          · refine joinOk_of ?_
            rw [flat_len, ht₁, List.length_append, List.length_drop]
            have : T.cps.toList.length = T.cps.size := Array.length_toList
            show _ + _ * (0 : Nat) ≤ _
            omega
          · rw [if_neg (by decide)]
            refine wpAny_pure ?_
            refine hq (T.cps.toList.drop d) _ _ h₁ _ (.stop hnev) ?_ hk
            rw [glued_flat, ← ht₁, List.flatMap_map]
            rfl
      by_cases hdp : d < T.cps.size
      · rw [if_pos (show (Int.toNat (d : Int)) < (target pa T t code).lim by simpa [target] using hdp)]
        refine wpAny_bind (wp_slice (by show T.cps.size ≤ sizeLine; rw [sizeLine_eq]; omega) fun y hy => ?_)
        refine wpAny_bind (wp_push (l := l) (c := c) hl (by rw [sizeLine_eq]; omega) fun h₁ c₁ hl₁ hk₁ => ?_)
        refine go _ _ c₁ ⟨_, _, rfl⟩ hk₁ hl₁ ?_ (by simp)
        rw [textOf_append]
        have : textOf [(y, s.toks)] = T.cps.toList.drop d := by
          show y.cps.toList ++ [] = _
          rw [List.append_nil, hy]
          show (T.cps.extract d T.cps.size).toList = _
          rw [extract_all]
          refine List.take_of_length_le ?_
          rw [List.length_drop, Array.length_toList]
          omega
        rw [this]
      · rw [if_neg (show ¬ (Int.toNat (d : Int)) < (target pa T t code).lim by simpa [target] using hdp)]
        refine go _ _ c ⟨_, _, rfl⟩ (fun b o _ e => e) hl ?_ (by omega)
        rw [List.drop_of_length_le (by rw [Array.length_toList]; omega), List.append_nil]
end
end
end
-- PART-END SubB

section
open PySem PySem.W PyProof.Rows PySem.Spec
set_option maxRecDepth 100000
section
open PySem.Builtin.Re

theorem type_str_val (x : Str) (t : Tok) : typeOf (.str x t) = pure (.type "str") := rfl
theorem no_call_str : typeLookup (.type "str") "__call__" = pure none := by rw [typeLookup_type, builtinLookup_eq_fast]; kernel_rfl

section
variable {prog : Program} {w : World} {A : Around} {s : Shared} {E : Value → Shared → Prop} {pa ca : Addr} {code : Array Nat} {T R : Str} {t u : Tok} {found : Nat → Nat → Nat → Prop} {never : Nat → Prop}

theorem sub_call {Q : Value → Shared → Prop} (P : PatAt s.heap pa ca code) (Fi : Finds code T.cps found never) (hT : T.cps.size ≤ 900000) (hR : R.cps.size ≤ 2) (hb : R.cps.contains 92 = false)
    (h : ∀ out y t' h' tk', SubTo found never T.cps.toList R.cps.toList 0 out → y.cps.toList = out → (∀ b o, s.heap.get? b = some o → h'.get? b = some o) → Q (.str y t') { s with heap := h', toks := tk' }) :
    wpAny (model prog w) A (call (.builtin "re.Pattern.sub") [.ref pa, .str R u, .str T t]) Q E s := by
  obtain ⟨⟨p, f, sl, e⟩, o, n, e1, e2⟩ := id P
  have hTy : s.TypeIs (.ref pa) "re.Pattern" := ⟨_, e, rfl⟩
  refine wpAny_call (codeAny_call_builtin slot_sub.plain entry_sub (slot_sub.check _ _ _ _ _ _ _ _ hTy (args_sub_3 _ _ _) ?_))
  show wpAny _ _ (reSubstitute "re.Pattern.sub" "sub" false ⟨[.ref pa, .str R u, .str T t], []⟩) _ _ s
  unfold reSubstitute
  dsimp only
  refine wpAny_bind (?_ : wpAny _ _ (reNamed "re.Pattern.sub" "sub" ["repl", "string", "count"] 2 [.str R u, .str T t] []) _ _ s)
  refine wpAny_of_eq (show reNamed "re.Pattern.sub" "sub" ["repl", "string", "count"] 2 [.str R u, .str T t] [] = pure [some (.str R u), some (.str T t), none] from rfl) ?_
  dsimp only
  refine wpAny_bind (wpAny_pure ?_)
  refine wpAny_bind (wpAny_specialOf_val (type_str_val R u) no_call_str ?_)
  dsimp only [Option.isSome]
  rw [if_neg (by decide)]
  refine wpAny_bind (wpAny_pure ?_)
  dsimp only
  refine wpAny_bind (wpAny_pure ?_)
  rw [hb]
  rw [if_neg (by decide)]
  rw [if_pos (by rfl)]
  refine wpAny_bind (wpAny_pure ?_)
  dsimp only
  refine wpAny_bind (wpAny_holding (wp_whole P ?_))
  rw [if_neg (by decide)]
  refine wpAny_bind (wpAny_newObj_type ?_ (by show (#[] : Array Value).size ≤ sizeLine; rw [sizeLine_eq]; decide))
  refine wpAny_pure ⟨quiet_loop _, ?_⟩
  have hlt : ∀ b o, s.heap.get? b = some o → b < s.heap.objs.size := fun b o e => Heap.lt_size e
  refine sub_loop (pl := s.heap.objs.size) (k := 0) (l := []) (c := 0) Fi (by omega) hR (Nat.ne_of_lt (hlt _ _ e)) (Nat.ne_of_lt (hlt _ _ e1)) (T.cps.size + 1) 0 _ _ ?_ ?_ ?_ ?_ ?_ ?_ ?_
  · omega
  · exact Nat.zero_le _
  · exact P.keeps fun b o e => Heap.get?_push_of_some _ e
  · exact Heap.get?_push_size _ rfl
  · show 0 + _ ≤ _; omega
  · show 0 + _ ≤ _; omega
  · intro out y t' h' tk' hs hy hk
    exact h out y t' h' tk' hs (by simpa [textOf] using hy) fun b o e => hk b o (Nat.ne_of_lt (hlt _ _ e)) (Heap.get?_push_of_some _ e)
end
end
end
-- PART-END SubC

section
open PySem PySem.W PyProof.Rows
section

theorem c1_words : c1.map (fun w => Value.int (w : Nat) 0) = #[.int 14 0, .int 4 0, .int 0 0, .int 1 0, .int 1 0, .int 6 0, .int 1 0, .int 16 0, .int 46 0, .int 1 0] := by simp [c1]
theorem c2_words : c2.map (fun w => Value.int (w : Nat) 0) = #[.int 14 0, .int 9 0, .int 4 0, .int 1 0, .int 2 0, .int 16 0, .int 10 0, .int 16 0, .int 13 0, .int 0 0, .int 7 0, .int 7 0, .int 16 0, .int 13 0, .int 16 0, .int 10 0, .int 15 0, .int 18 0, .int 5 0, .int 16 0, .int 10 0, .int 15 0, .int 13 0, .int 11 0, .int 16 0, .int 13 0, .int 5 0, .int 5 0, .int 0 0, .int 16 0, .int 10 0, .int 1 0, .int 15 0, .int 2 0, .int 0 0, .int 1 0] := by simp [c2]
theorem pat43 (w : World) {h : Heap} (X : (KK w).In h) : PatAt h 43 42 c1 :=
  ⟨⟨_, _, _, X 43 _ rfl⟩, _, 0, X 42 _ rfl, by rw [c1_words]⟩
theorem pat48 (w : World) {h : Heap} (X : (KK w).In h) : PatAt h 48 47 c2 :=
  ⟨⟨_, _, _, X 48 _ rfl⟩, _, 0, X 47 _ rfl, by rw [c2_words]⟩

def found1 (T : Array Nat) (d p e : Nat) : Prop := dotAt T p ∧ (∀ q, d ≤ q → q < p → ¬ dotAt T q) ∧ e = p + 1
def never1 (T : Array Nat) (d : Nat) : Prop := ∀ q, d ≤ q → q < T.size → ¬ dotAt T q
def found2 (T : Array Nat) (d p e : Nat) : Prop := isEnd (T[p]?.getD 0) = true ∧ (∀ q, d ≤ q → q < p → isEnd (T[q]?.getD 0) = false) ∧ e = p + endLen T p
def never2 (T : Array Nat) (d : Nat) : Prop := ∀ q, d ≤ q → q < T.size → isEnd (T[q]?.getD 0) = false
theorem finds1 (T : Array Nat) (hT : T.size ≤ 1000000) : Finds c1 T (found1 T) (never1 T) := by
  intro d hd
  obtain ⟨k, r, hk, hr, h⟩ := search1 T d hd
  refine ⟨k, r, by omega, hr, ?_⟩
  rcases h with ⟨p, h1, h2, h3, h4, h5, h6, h7⟩ | ⟨h1, h2⟩
  · exact .inl ⟨p, p + 1, ⟨h3, h4, rfl⟩, h1, by omega, by omega, h5, h6, h7⟩
  · exact .inr ⟨h1, h2⟩
theorem finds2 (T : Array Nat) : Finds c2 T (found2 T) (never2 T) := by
  intro d hd
  obtain ⟨k, r, hk, hr, h⟩ := search2 T d hd
  refine ⟨k, r, by omega, hr, ?_⟩
  rcases h with ⟨p, h1, h2, h3, h4, h5, h6, h7⟩ | ⟨h1, h2⟩
  · refine .inl ⟨p, p + endLen T p, ⟨h3, h4, rfl⟩, h1, ?_, ?_, h5, h6, h7⟩
    · unfold endLen; split <;> omega
    · unfold endLen
      split
      · rename_i h
        have : p + 1 < T.size := by
          apply Nat.lt_of_not_le
          intro hle
          have := h.2
          rw [Array.getElem?_eq_none hle] at this
          cases this
        omega
      · omega
  · exact .inr ⟨h1, h2⟩

/-- what quotedata makes of a text -/
def Quoted (x y : List Nat) : Prop := ∃ mid : List Nat, SubTo (found2 x.toArray) (never2 x.toArray) x [13, 10] 0 mid ∧ SubTo (found1 mid.toArray) (never1 mid.toArray) mid [46, 46] 0 y

section
variable {prog : Program} {w : World} {A : Around} {E : Value → Shared → Prop} {s : Shared} {h₀ : Heap} {L : Addr} {m : Str → Option Value} {pl : Sem Bool} {news : List (Addr × Obj)}
theorem get_sub {pa ca : Addr} {code : Array Nat} {Q : Value × List Value → Shared → Prop} (P : PatAt s.heap pa ca code) (h : Q (.builtin "re.Pattern.sub", [.ref pa]) s) : wpAny (model prog w) A (getMethod (.ref pa) "sub" pl) Q E s := by
  obtain ⟨⟨p, f, sl, e⟩, _⟩ := P
  exact getMethod_builtin ⟨_, e, rfl⟩ attrs_pat slot_sub type_sub (fun a ha => by cases ha; exact ⟨_, e, rfl⟩) h
theorem get_sub43 {Q : Value × List Value → Shared → Prop} (F : Fr h₀ L s.heap m) (X : (hd.heap_39 w.params).In h₀) (h : Q (.builtin "re.Pattern.sub", [.ref 43]) s) : wpAny (model prog w) A (getMethod (.ref 43) "sub" pl) Q E s :=
  get_sub (pat43 w (X.keeps F.keep)) h
theorem get_sub48 {Q : Value × List Value → Shared → Prop} (F : Fr h₀ L s.heap m) (X : (hd.heap_39 w.params).In h₀) (h : Q (.builtin "re.Pattern.sub", [.ref 48]) s) : wpAny (model prog w) A (getMethod (.ref 48) "sub" pl) Q E s :=
  get_sub (pat48 w (X.keeps F.keep)) h
theorem fr_grow {h h' : Heap} (F : Fr h₀ L h m) (k : ∀ b o, h.get? b = some o → h'.get? b = some o) : Fr h₀ L h' m :=
  ⟨F.ns.at' fun o e => k _ o e, fun b o e => k b o (F.keep b o e), F.above⟩
theorem news_grow {h h' : Heap} (N : News h₀ L h news) (k : ∀ b o, h.get? b = some o → h'.get? b = some o) : News h₀ L h' news :=
  fun p hp => ⟨k _ _ (N p hp).1, (N p hp).2⟩
theorem sub43 {T R : Str} {t u : Tok} {Q : Value → Shared → Prop} (F : Fr h₀ L s.heap m) (N : News h₀ L s.heap news) (X : (hd.heap_39 w.params).In h₀) (hR : R.cps = #[46, 46]) (hT : T.cps.size ≤ 900000)
    (h : ∀ y t' h' tk', Fr h₀ L h' m → News h₀ L h' news → SubTo (found1 T.cps) (never1 T.cps) T.cps.toList [46, 46] 0 y.cps.toList → Q (.str y t') { s with heap := h', toks := tk' }) :
    wpAny (model prog w) A (call (.builtin "re.Pattern.sub") [.ref 43, .str R u, .str T t]) Q E s := by
  refine sub_call (pat43 w (X.keeps F.keep)) (finds1 T.cps (by omega)) hT (by rw [hR]; decide) (by rw [hR]; decide +kernel) fun out y t' h' tk' hs hy hk => ?_
  rw [hR] at hs
  exact h y t' h' tk' (fr_grow F hk) (news_grow N hk) (hy ▸ hs)
theorem sub48 {T R : Str} {t u : Tok} {Q : Value → Shared → Prop} (F : Fr h₀ L s.heap m) (N : News h₀ L s.heap news) (X : (hd.heap_39 w.params).In h₀) (hR : R.cps = #[13, 10]) (hT : T.cps.size ≤ 900000)
    (h : ∀ y t' h' tk', Fr h₀ L h' m → News h₀ L h' news → SubTo (found2 T.cps) (never2 T.cps) T.cps.toList [13, 10] 0 y.cps.toList → Q (.str y t') { s with heap := h', toks := tk' }) :
    wpAny (model prog w) A (call (.builtin "re.Pattern.sub") [.ref 48, .str R u, .str T t]) Q E s := by
  refine sub_call (pat48 w (X.keeps F.keep)) (finds2 T.cps) hT (by rw [hR]; decide) (by rw [hR]; decide +kernel) fun out y t' h' tk' hs hy hk => ?_
  rw [hR] at hs
  exact h y t' h' tk' (fr_grow F hk) (news_grow N hk) (hy ▸ hs)
end

local macro_rules | `(tactic| walk_at "getMethod ref") => `(tactic| (k_here; (with_reducible show wpAny _ _ (getMethod (Value.ref 43) _ _) _ _ _); k_dflt (refine' get_sub43 ?F ?X ?_; (case F => k_asm); (case X => k_asm); k_whole)))
local macro_rules | `(tactic| walk_at "getMethod ref") => `(tactic| (k_here; (with_reducible show wpAny _ _ (getMethod (Value.ref 48) _ _) _ _ _); k_dflt (refine' get_sub48 ?F ?X ?_; (case F => k_asm); (case X => k_asm); k_whole)))
local macro_rules | `(tactic| walk_at "call builtin:re.Pattern.sub") => `(tactic| (k_here; (with_reducible show wpAny _ _ (call _ [Value.ref 48, _, _]) _ _ _); k_dflt (refine' sub48 ?F ?N ?X ?r ?z ?_; (case F => k_asm); (case N => k_asm); (case X => k_asm); (case r => decide +kernel); (case z => omega); k_whole); intro y' t' h' tk' F' N' hs'))
local macro_rules | `(tactic| walk_at "call builtin:re.Pattern.sub") => `(tactic| (k_here; (with_reducible show wpAny _ _ (call _ [Value.ref 43, _, _]) _ _ _); k_dflt (refine' sub43 ?F ?N ?X ?r ?z ?_; (case F => k_asm); (case N => k_asm); (case X => k_asm); (case r => decide +kernel); (case z => ((rename SubTo _ _ _ _ _ _ => hs9); (have hq9 := SubTo.len (by decide) hs9 (Nat.zero_le _)); (simp only [Array.length_toList] at hq9); omega)); k_whole); intro y' t' h' tk' F' N' hs'))
set_option maxRecDepth 100000 in
set_option maxHeartbeats 4000000 in
theorem quote_spec (w : World) (news : List (Addr × Obj)) (x : Str) (t : Tok) (hx : x.cps.size ≤ 100000) :
    Spec w 55 [.str x t] (fun _ => True) news (fun _ => news) (fun tl r => ∃ y t', r = .str y t' ∧ Quoted x.cps.toList y.cps.toList) := by
  w_top off
  unfold Spec PRG KK
  k_fill
  intro p loose mean mg mb dp un gd cn cs a ccd cl outer A₀ base h₀ L m s Q E B F X N T hk _ hdp hun hret
  refine wpAny_call ?_
  k_dflt ktr_enter
  k_steps
  rename_i y1 t1 h1 tk1 F1 N1 hs1 y2 t2 h2 tk2 F2 N2 hs2 kF kN Tc kX
  refine hret _ [] _ _ kF kN (fun _ _ _ h => nomatch h) ⟨y2, t2, rfl, y1.cps.toList, ?_, ?_⟩
  · exact hs1
  · exact hs2
end
end
-- PART-END Quote

section
open PySem PySem.W PyProof.Rows
section

/-- a text, told -/
def Tex (y : Str) (l : List Nat) (k : Nat) : Prop := y.cps.toList = l ∧ y.length ≤ k
theorem tex_q : Tex "\"" [34] 1 := ⟨rfl, Nat.le_of_ble_eq_true rfl⟩
theorem tex_sp : Tex " " [32] 1 := ⟨rfl, Nat.le_of_ble_eq_true rfl⟩
/-- the texts of written values -/
def texts : List Value → List Str
  | .str x _ :: r => x :: texts r
  | _ => []
theorem texts_at : ∀ {us : List Value} {k : Nat}, (texts us).length = us.length → k < us.length → ∃ t, us[k]? = some (.str ((texts us).getD k ⟨#[]⟩) t)
  | .str x t :: r, 0, _, _ => ⟨t, rfl⟩
  | .str x t :: r, k + 1, h, hk => by
    have := texts_at (us := r) (k := k) (by simpa [texts] using h) (by simpa using hk)
    simpa [texts] using this
  | [], _, _, hk => absurd hk (Nat.not_lt_zero _)
  | .none :: _, _, h, _ => by simp [texts] at h
  | .bool _ :: _, _, h, _ => by simp [texts] at h
  | .int _ _ :: _, _, h, _ => by simp [texts] at h
  | .ref _ :: _, _, h, _ => by simp [texts] at h
  | .float _ _ :: _, _, h, _ => by simp [texts] at h
  | .bytes _ _ :: _, _, h, _ => by simp [texts] at h
  | .builtin _ :: _, _, h, _ => by simp [texts] at h
  | .type _ :: _, _, h, _ => by simp [texts] at h
  | .notImplemented :: _, _, h, _ => by simp [texts] at h
  | .ellipsis :: _, _, h, _ => by simp [texts] at h

section
variable {prog : Program} {w : World} {A : Around} {E : Value → Shared → Prop} {s : Shared} {h₀ : Heap} {L l : Addr} {news : List (Addr × Obj)}
theorem item_text {value slice : PySem.Expr} {us : List Value} {n : Nat} {k : Int} {u : Tok} {Q : Value → Shared → Prop} (N : News h₀ L s.heap news) (hm : (l, W.listOf us.toArray n) ∈ news) (ht : Nat.beq (texts us).length us.length = true) (hl : (texts us).all (fun x => Nat.ble x.length 8) = true)
    (h0 : 0 ≤ k) (h1 : k < (us.length : Int)) (hfit : k < 2 ^ 63) (h : ∀ (y : Str) t, Tex y ((texts us).getD k.toNat ⟨#[]⟩).cps.toList 8 → Q (.str y t) s)
    (hs : subscripted slice false (.ref l) (.int k u) = operate [.ref l, .int k u] (getItem (.ref l) (.int k u)) := by with_unfolding_all rfl) :
    wpAny (model prog w) A (subscriptTail value slice (.ref l) (.int k u)) Q E s := by
  have hL : s.heap.IsList l us.toArray := ⟨_, (N _ hm).1, rfl, n, rfl⟩
  have hk : k.toNat < us.length := by omega
  have hte := Nat.eq_of_beq_eq_true ht
  obtain ⟨t, ht'⟩ := texts_at hte hk
  refine tail_any hL.typeIs slot_list_getitem.lookup (wpAny_getItem_list hL h0 hfit (by simpa using ht') (h _ t ⟨rfl, ?_⟩)) hs
  have hk2 : k.toNat < (texts us).length := by omega
  rw [List.getD_eq_getElem?_getD, List.getElem?_eq_getElem hk2]
  exact Nat.le_of_ble_eq_true (List.all_eq_true.mp hl _ (List.getElem_mem hk2))

theorem mul_sign {c : Nat} {k : Int} {t u : Tok} {Q : Value → Shared → Prop} (h0 : 0 ≤ k) (h1 : k ≤ 8) (h : ∀ (y : Str) t' tk, Tex y (List.replicate k.toNat c) 8 → Q (.str y t') { s with toks := tk }) :
    wpAny (model prog w) A (binaryOp .Mult (.str ⟨#[c]⟩ t) (.int k u)) Q E s := by
  refine SB.mul (mulOk_of 16 1048576 (by show (1 : Nat) ≤ 16; decide) (by omega) (by omega) (by decide) (by decide)) fun t' tk => ?_
  have e : (Txt.mul (⟨#[c]⟩ : Str) k).cps.toList = List.replicate k.toNat c := by
    have hc : k = 0 ∨ k = 1 ∨ k = 2 ∨ k = 3 ∨ k = 4 ∨ k = 5 ∨ k = 6 ∨ k = 7 ∨ k = 8 := by omega
    rcases hc with rfl | rfl | rfl | rfl | rfl | rfl | rfl | rfl | rfl <;> rfl
  refine h _ t' tk ⟨e, ?_⟩
  show (Txt.mul (⟨#[c]⟩ : Str) k).cps.size ≤ 8
  rw [← Array.length_toList, e, List.length_replicate]
  omega
theorem tex_add {x y : Str} {t u : Tok} {l1 l2 : List Nat} {k1 k2 : Nat} {Q : Value → Shared → Prop} (hx : Tex x l1 k1) (hy : Tex y l2 k2) (hs : k1 + k2 ≤ 16777216) (h : ∀ (z : Str) t' tk, Tex z (l1 ++ l2) (k1 + k2) → Q (.str z t') { s with toks := tk }) :
    wpAny (model prog w) A (binaryOp .Add (.str x t) (.str y u)) Q E s :=
  KXadd.add hx.2 hy.2 hs fun t' tk hl => h _ t' tk ⟨by rw [PySem.Str.cps_append, Array.toList_append, hx.1, hy.1], by have := hx.2; have := hy.2; omega⟩
theorem tex_iadd {x y : Str} {t u : Tok} {l1 l2 : List Nat} {k1 k2 : Nat} {Q : Value → Shared → Prop} (hx : Tex x l1 k1) (hy : Tex y l2 k2) (hs : k1 + k2 ≤ 16777216) (h : ∀ (z : Str) t' tk, Tex z (l1 ++ l2) (k1 + k2) → Q (.str z t') { s with toks := tk }) :
    wpAny (model prog w) A (inplaceOp .Add (.str x t) (.str y u)) Q E s :=
  SBL.iadd (fun t' tk hl => h _ t' tk ⟨by rw [PySem.Str.cps_append, Array.toList_append, hx.1, hy.1], by have := hx.2; have := hy.2; omega⟩) (by have := hx.2; have := hy.2; have : sizeLine ≥ 16777216 := (by decide); omega)
theorem ite_tail {c : Prop} [Decidable c] {env : Env} {k1 k2 : Nat} {p1 p2 : Pos} {Q : Value → Shared → Prop} (h : ∀ (z : Str) t' tk, Tex z (if c then [34] else []) 1 → Q (.str z t') { s with toks := tk }) :
    if decide c = true then wpAny (model prog w) A (eval (.Constant (.str "\"") k1 p1) env) Q E s else wpAny (model prog w) A (eval (.Constant (.str "") k2 p2) env) Q E s := by
  by_cases hc : c
  · rw [if_pos (decide_eq_true hc)]; rw [if_pos hc] at h; exact Calls.Constant_str (h "\"" _ _ ⟨rfl, Nat.le_of_ble_eq_true rfl⟩)
  · rw [if_neg (by rw [decide_eq_true_eq]; exact hc)]; rw [if_neg hc] at h; exact Calls.Constant_str (h "" _ _ ⟨rfl, Nat.le_of_ble_eq_true rfl⟩)
end
end
end
local macro_rules | `(tactic| walk_at "my text") => `(tactic| (k_here; (with_reducible show PySem.wpAny _ _ (PyProof.Rows.subscriptTail _ _ (PySem.Value.ref _) (PySem.Value.int _ _)) _ _ _); (with_unfolding_all refine' item_text ?N ?m ?t ?l ?a ?b ?c ?_ ?s; (case N => k_asm); (case m => k_memK); (case t => rfl); (case l => rfl); (case a => omega); (case b => (simp only [List.length_cons, List.length_nil]; omega)); (case c => omega); (case s => with_unfolding_all rfl); k_whole); intro y' t' hy'))
local macro_rules | `(tactic| walk_at "my mul") => `(tactic| (k_here; k_dflt (refine' mul_sign ?a ?b ?_; (case a => omega); (case b => omega); k_whole); intro y' t' tk' hy'))
-- PART-END SentA

section
open PySem PySem.W PyProof.Rows
section
local macro_rules | `(tactic| walk_at "execs cons") => `(tactic| walk_at "my For")
local macro_rules | `(tactic| walk_at "execs cons For") => `(tactic| walk_at "my For")
local macro_rules | `(tactic| walk_at "execs cons For cons") => `(tactic| walk_at "my For")
local macro_rules | `(tactic| walk_at "call ref") => `(tactic| (k_here; (with_reducible show wpAny _ _ (call (Value.ref 55) _) _ _ _); refine held ?_))
local macro_rules | `(tactic| walk_at "subscriptTail Name Name ref int") => `(tactic| walk_at "my text")
local macro_rules | `(tactic| walk_at "subscriptTail") => `(tactic| walk_at "my text")
local macro_rules | `(tactic| walk_at "binaryOp Mult str int") => `(tactic| walk_at "my mul")
local macro_rules | `(tactic| walk_at "binaryOp Add str str") => `(tactic| (k_here; k_dflt (refine' tex_add ?a ?b ?c ?_; (case a => first | k_asm | exact tex_q | exact tex_sp); (case b => first | k_asm | exact tex_q | exact tex_sp); (case c => exact Nat.le_of_ble_eq_true rfl); k_whole); intro y' t' tk' hy'))
local macro_rules | `(tactic| walk_at "inplaceOp Add str str") => `(tactic| (k_here; k_dflt (refine' tex_iadd ?a ?b ?c ?_; (case a => first | k_asm | exact tex_q | exact tex_sp); (case b => first | k_asm | exact tex_q | exact tex_sp); (case c => exact Nat.le_of_ble_eq_true rfl); k_whole); intro y' t' tk' hy'))
local macro_rules | `(tactic| walk_at "ite") => `(tactic| (k_here; k_dflt (refine ite_tail ?_); intro y' t' tk' hy'))

def rowD (x : Int) : Dat := .tuple [.int (x % 1000000 % 8), .int (1 + x % 1000000 / 8 % 4), .int (x % 1000000 / 32 % 4), .int (1 + x % 1000000 / 128 % 4), .int (x % 1000000 / 512 % 2), .int (x % 1000000 / 1024 % 3)]

def headsL (k : Int) : List Nat := ([[], [34], [92], [32]] : List (List Nat)).getD k.toNat []
def endsL (k : Int) : List Nat := ([[10], [13], [13, 10]] : List (List Nat)).getD k.toNat []
def namesL (k : Int) : List Nat := ([[97, 100, 100], [115, 117, 98], [109, 117, 108], [97, 110, 100, 95], [111, 114, 95], [120, 111, 114], [110, 101, 103], [105, 110, 118]] : List (List Nat)).getD k.toNat []
/-- the text of a row -/
def rowT (d g m s q e : Int) : List Nat :=
  headsL m ++ List.replicate g.toNat 46 ++ (if m = 1 then [34] else []) ++ [32] ++ List.replicate q.toNat 34 ++ List.replicate s.toNat 46 ++ List.replicate q.toNat 34 ++ [32] ++ namesL d ++ endsL e
def rowText (x : Int) : List Nat := rowT (x % 1000000 % 8) (1 + x % 1000000 / 8 % 4) (x % 1000000 / 32 % 4) (1 + x % 1000000 / 128 % 4) (x % 1000000 / 512 % 2) (x % 1000000 / 1024 % 3)
theorem row_ints (x : Int) : ∃ d g m s q e : Int, rowD x = .tuple [.int d, .int g, .int m, .int s, .int q, .int e] ∧ rowText x = rowT d g m s q e ∧ (0 ≤ d ∧ d < 8) ∧ (1 ≤ g ∧ g ≤ 4) ∧ (0 ≤ m ∧ m < 4) ∧ (1 ≤ s ∧ s ≤ 4) ∧ (0 ≤ q ∧ q < 2) ∧ (0 ≤ e ∧ e < 3) :=
  ⟨_, _, _, _, _, _, rfl, rfl, by omega, by omega, by omega, by omega, by omega, by omega⟩
/-- a row of the data, taken apart once -/
theorem row_in {news : List (Addr × Obj)} {v : Value} {x : Int} (hD : DatIn news v (rowD x)) {G : Prop}
    (h : ∀ (T9 : Addr) (n9 : Nat) (d g m s9 q e : Int) (u1 u2 u3 u4 u5 u6 : Tok), v = .ref T9 → (T9, ({ cls := .type "tuple", data := .seq [Value.int d u1, Value.int g u2, Value.int m u3, Value.int s9 u4, Value.int q u5, Value.int e u6].toArray n9 } : Obj)) ∈ news → rowD x = .tuple [.int d, .int g, .int m, .int s9, .int q, .int e] → rowText x = rowT d g m s9 q e → (0 ≤ d ∧ d < 8) → (1 ≤ g ∧ g ≤ 4) → (0 ≤ m ∧ m < 4) → (1 ≤ s9 ∧ s9 ≤ 4) → (0 ≤ q ∧ q < 2) → (0 ≤ e ∧ e < 3) → G) : G := by
  obtain ⟨d, g, m, s9, q, e, hr, hrt, bd, bg, bm, bs, bq, be⟩ := row_ints x
  have hD2 := hD
  rw [hr] at hD2
  cases hD2 with
  | tuple hmT hA =>
  cases hA with
  | cons a1 hA => cases hA with
  | cons a2 hA => cases hA with
  | cons a3 hA => cases hA with
  | cons a4 hA => cases hA with
  | cons a5 hA => cases hA with
  | cons a6 hA =>
  cases hA
  cases a1; cases a2; cases a3; cases a4; cases a5; cases a6
  exact h _ _ _ _ _ _ _ _ _ _ _ _ _ _ rfl hmT hr hrt bd bg bm bs bq be
theorem row_nth {news : List (Addr × Obj)} {vs : List Value} {xs : List Int} {i : Nat} (hv : DatAll news vs (xs.map rowD)) (hi : i < xs.length) {G : Prop}
    (h : ∀ (T9 : Addr) (n9 : Nat) (d g m s9 q e : Int) (u1 u2 u3 u4 u5 u6 : Tok), vs[i]? = some (.ref T9) → (T9, ({ cls := .type "tuple", data := .seq [Value.int d u1, Value.int g u2, Value.int m u3, Value.int s9 u4, Value.int q u5, Value.int e u6].toArray n9 } : Obj)) ∈ news → rowD xs[i] = .tuple [.int d, .int g, .int m, .int s9, .int q, .int e] → rowText xs[i] = rowT d g m s9 q e → (0 ≤ d ∧ d < 8) → (1 ≤ g ∧ g ≤ 4) → (0 ≤ m ∧ m < 4) → (1 ≤ s9 ∧ s9 ≤ 4) → (0 ≤ q ∧ q < 2) → (0 ≤ e ∧ e < 3) → G) : G := by
  obtain ⟨v, e, hD⟩ := hv.get (k := i) (by rw [List.length_map]; exact hi)
  rw [List.getElem_map] at hD
  exact row_in hD fun T9 n9 d g m s9 q e' u1 u2 u3 u4 u5 u6 hvT => h T9 n9 d g m s9 q e' u1 u2 u3 u4 u5 u6 (hvT ▸ e)
theorem row_at {news : List (Addr × Obj)} {vs : List Value} {xs : List Int} {i : Nat} {v : Value} (hv : DatAll news vs (xs.map rowD)) (hv' : vs[i]? = some v) {G : Prop}
    (h : ∀ (hi : i < xs.length) (T9 : Addr) (n9 : Nat) (d g m s9 q e : Int) (u1 u2 u3 u4 u5 u6 : Tok), v = .ref T9 → (T9, ({ cls := .type "tuple", data := .seq [Value.int d u1, Value.int g u2, Value.int m u3, Value.int s9 u4, Value.int q u5, Value.int e u6].toArray n9 } : Obj)) ∈ news → rowD xs[i] = .tuple [.int d, .int g, .int m, .int s9, .int q, .int e] → rowText xs[i] = rowT d g m s9 q e → (0 ≤ d ∧ d < 8) → (1 ≤ g ∧ g ≤ 4) → (0 ≤ m ∧ m < 4) → (1 ≤ s9 ∧ s9 ≤ 4) → (0 ≤ q ∧ q < 2) → (0 ≤ e ∧ e < 3) → G) : G := by
  have hi := (List.getElem?_eq_some_iff.mp hv').1
  rw [hv.length, List.length_map] at hi
  exact row_nth hv hi fun T9 n9 d g m s9 q e' u1 u2 u3 u4 u5 u6 e => h hi T9 n9 d g m s9 q e' u1 u2 u3 u4 u5 u6 (Option.some.inj (hv'.symm.trans e))
theorem row_ref {news : List (Addr × Obj)} {vs : List Value} {xs : List Int} {i : Nat} {v : Value} (hv : DatAll news vs (xs.map rowD)) (hv' : vs[i]? = some v) : ∃ a, v = .ref a :=
  row_at hv hv' fun _ T9 _ _ _ _ _ _ _ _ _ _ _ _ _ e _ _ _ _ _ _ _ _ _ => ⟨T9, e⟩
theorem rowT_len {d g m s q e : Int} (hd : 0 ≤ d ∧ d < 8) (hg : 1 ≤ g ∧ g ≤ 4) (hm : 0 ≤ m ∧ m < 4) (hs : 1 ≤ s ∧ s ≤ 4) (hq : 0 ≤ q ∧ q < 2) (he : 0 ≤ e ∧ e < 3) : (rowT d g m s q e).length ≤ 40 := by
  have h1 : (headsL m).length ≤ 1 := by
    have : m = 0 ∨ m = 1 ∨ m = 2 ∨ m = 3 := four (by first | assumption | exact ⟨by omega, by omega⟩)
    rcases this with rfl | rfl | rfl | rfl <;> decide
  have h2 : (endsL e).length ≤ 2 := by
    have : e = 0 ∨ e = 1 ∨ e = 2 := three (by first | assumption | exact ⟨by omega, by omega⟩)
    rcases this with rfl | rfl | rfl <;> decide
  have h3 : (namesL d).length ≤ 4 := by
    have : d = 0 ∨ d = 1 ∨ d = 2 ∨ d = 3 ∨ d = 4 ∨ d = 5 ∨ d = 6 ∨ d = 7 := eight (by first | assumption | exact ⟨by omega, by omega⟩)
    rcases this with rfl | rfl | rfl | rfl | rfl | rfl | rfl | rfl <;> decide
  have h4 : (if m = 1 then [34] else ([] : List Nat)).length ≤ 1 := by split <;> simp
  unfold rowT
  simp only [List.length_append, List.length_replicate, List.length_cons, List.length_nil]
  omega

theorem rowText_len : ∀ xs : List Int, (xs.flatMap rowText).length ≤ 40 * xs.length
  | [] => Nat.le_refl _
  | x :: xs => by
    have h := rowText_len xs
    obtain ⟨d, g, m, s9, q, e, hr, hrt, bd, bg, bm, bs, bq, be⟩ := row_ints x
    have h2 := rowT_len bd bg bm bs bq be
    rw [List.flatMap_cons, List.length_append, List.length_cons, hrt]
    omega
theorem head_text {m : Int} (t1 t2 t3 t4 : Tok) (h : 0 ≤ m ∧ m < 4) : ((texts [Value.str "" t1, Value.str "\"" t2, Value.str "\\" t3, Value.str " " t4]).getD m.toNat ⟨#[]⟩).cps.toList = headsL m := by
  have : m = 0 ∨ m = 1 ∨ m = 2 ∨ m = 3 := four (by first | assumption | exact ⟨by omega, by omega⟩)
  rcases this with rfl | rfl | rfl | rfl <;> rfl
theorem end_text {m : Int} (t1 t2 t3 : Tok) (h : 0 ≤ m ∧ m < 3) : ((texts [Value.str "\n" t1, Value.str "\x0d" t2, Value.str "\x0d\n" t3]).getD m.toNat ⟨#[]⟩).cps.toList = endsL m := by
  have : m = 0 ∨ m = 1 ∨ m = 2 := three (by first | assumption | exact ⟨by omega, by omega⟩)
  rcases this with rfl | rfl | rfl <;> rfl
theorem name_text {m : Int} (t1 t2 t3 t4 t5 t6 t7 t8 : Tok) (h : 0 ≤ m ∧ m < 8) : ((texts [Value.str "add" t1, Value.str "sub" t2, Value.str "mul" t3, Value.str "and_" t4, Value.str "or_" t5, Value.str "xor" t6, Value.str "neg" t7, Value.str "inv" t8]).getD m.toNat ⟨#[]⟩).cps.toList = namesL m := by
  have : m = 0 ∨ m = 1 ∨ m = 2 ∨ m = 3 ∨ m = 4 ∨ m = 5 ∨ m = 6 ∨ m = 7 := eight (by first | assumption | exact ⟨by omega, by omega⟩)
  rcases this with rfl | rfl | rfl | rfl | rfl | rfl | rfl | rfl <;> rfl
/-- a text sent n times -/
def QN : Nat → List Nat → List Nat → Prop
  | 0, x, z => z = x
  | n + 1, x, z => ∃ y, QN n x y ∧ Quoted y z
theorem Quoted.len {x y : List Nat} (h : Quoted x y) : y.length ≤ 4 * x.length := by
  obtain ⟨mid, h1, h2⟩ := h
  have a := SubTo.len (by decide) h1 (Nat.zero_le _)
  have b := SubTo.len (by decide) h2 (Nat.zero_le _)
  omega
theorem QN.len : ∀ {n : Nat} {x z : List Nat}, QN n x z → z.length ≤ 4 ^ n * x.length
  | 0, x, z, h => by cases h; omega
  | n + 1, x, z, ⟨y, hy, hz⟩ => by
    have a := QN.len hy
    have b := hz.len
    have c : 4 ^ (n + 1) * x.length = 4 * (4 ^ n * x.length) := by rw [Nat.pow_succ, Nat.mul_comm (4 ^ n) 4, Nat.mul_assoc]
    omega
theorem QN.small {n : Nat} {x z : List Nat} (h : QN n x z) (hn : n ≤ 3) (hx : x.length ≤ 400) : z.length ≤ 25600 := by
  have a := h.len
  have hc : n = 0 ∨ n = 1 ∨ n = 2 ∨ n = 3 := by omega
  rcases hc with rfl | rfl | rfl | rfl <;> omega

set_option maxRecDepth 100000 in
set_option maxHeartbeats 4000000 in
theorem sent_spec (w : World) (rl : Addr) (vs : List Value) (nn : Nat) (xs : List Int) (n : Nat) (tn : Tok) (news : List (Addr × Obj)) (hm : (rl, W.listOf vs.toArray nn) ∈ news) (hv : DatAll news vs (xs.map rowD)) (hl : xs.length ≤ 8) (hn : n ≤ 3) :
    Spec2c w 40 200 193 [.ref rl, .int (n : Nat) tn] (fun _ => True) news (fun r nx => ∃ y t, r = .str y t ∧ nx = news ∧ QN n (xs.flatMap rowText) y.cps.toList) := by
  w_top off
  unfold Spec2c PRG KK
  k_fill
  intro p loose mean mg mb dp un gd cn cs a ccd cl outer A₀ base h₀ L m s Q E B F X N T hk hcd hdp hun hret
  cases cs
  cases hk
  have kM : KdMark := kdMark
  k_dflt k_enter
  rename Fr h₀ L _ m => FG
  k_steps
  rename News _ _ _ _ => N1
  rename Fr _ _ _ (fun y => _) => F1
  rename Below _ _ _ _ => B1
  rename Frag.In _ _ => X1
  rename Top _ _ _ _ _ _ => T1
  rename_i names isg isc more g' L' hA tkA hl' hB l1 hC tkB el hD l2 hE hF
  refine for_listT (l := rl) (vs := vs) (nn := nn) (fun i m nx => m "heads" = some (.ref hl') ∧ m "ends" = some (.ref el) ∧ m "sendings" = some (.int (n : Nat) tn) ∧ nx = (el, _) :: (hl', _) :: news ∧ ∃ Tx tT, m "text" = some (.str Tx tT) ∧ Tx.cps.toList = (xs.take i).flatMap rowText)
    (.inr ⟨⟨_, _, _, rfl⟩, ?_⟩) rfl F1 N1 (by simp [hm]) ⟨rfl, rfl, rfl, rfl, "", _, rfl, rfl⟩ ?l ?turn ?done
  · intro i v hv'
    exact row_ref hv hv'
  case l => rintro i m nx ⟨_, _, _, rfl, _⟩; simp [hm]
  case turn =>
    rintro i v m₁ nx h tk I oI hv' hJ0 hnI hlt F2 N2 TP hTP
    refine hide fun P0 hP0 => ?_
    obtain ⟨e1, e2, e3, rfl, Tx, tT, e4, hT⟩ := hJ0
    refine row_at hv hv' fun hi T9 n9 d g m s9 q e u1 u2 u3 u4 u5 u6 hvT hmT hr hrt bd bg bm bs bq be => ?_
    subst hvT
    have N3 : News g' L' h ((T9, _) :: (I, oI) :: _) := fun p hp => N2 p (by
      rcases List.mem_cons.mp hp with rfl | hp
      · exact List.mem_cons.mpr (.inr (List.mem_cons.mpr (.inr (List.mem_cons.mpr (.inr hmT)))))
      · exact hp)
    have F3 := fr_put4 F2 e1 e2 e3 e4
    have hTx : Tex Tx ((xs.take i).flatMap rowText) 400 := ⟨hT, by
      have h1 := rowText_len (xs.take i)
      have h2 : Tx.cps.toList.length = Tx.cps.size := Array.length_toList
      rw [hT] at h2
      rw [List.length_take] at h1
      show Tx.cps.size ≤ 400
      omega⟩
    clear F2 N2 F1 N1
    refine hP0 ?_
    clear hP0 P0
    k_steps
    rename Fr _ _ _ (fun y => _) => F9
    rename News _ _ _ _ => N9
    rename Tex _ _ _ => h9
    refine hTP _ _ ?_
    refine turn_postX (fun _ => _) F9 N9 ?sub ?hI ⟨rfl, rfl, rfl, rfl, _, _, rfl, ?_⟩
    case sub => exact fun p hp => .tail _ (.tail _ hp)
    case hI => exact hnI
    have e1 := head_text tkA (tkA + 1) (tkA + 1 + 1) (tkA + 1 + 1 + 1) bm
    have e2 := end_text tkB (tkB + 1) (tkB + 1 + 1) be
    have e3 := fun t1 t2 t3 t4 t5 t6 t7 t8 => name_text t1 t2 t3 t4 t5 t6 t7 t8 bd
    rw [e1, e2, e3] at h9
    rw [take_snoc _ _ hi, List.flatMap_append, List.flatMap_cons, List.flatMap_nil, List.append_nil, hrt]
    exact h9.1
  case done =>
    rintro m₁ nx h tk hJ0 F2 N2
    refine hide fun P0 hP0 => ?_
    obtain ⟨e1, e2, e3, rfl, Tx, tT, e4, hT⟩ := hJ0
    have F3 := fr_put4 F2 e1 e2 e3 e4
    clear F2 F1 N1
    refine hP0 ?_
    clear hP0 P0
    dsimp only
    have hTx : Tex Tx (xs.flatMap rowText) 400 := ⟨by rw [hT, hv.length, List.length_map, List.take_length], by
      have h1 := rowText_len (xs.take vs.length)
      have h2 : Tx.cps.toList.length = Tx.cps.size := Array.length_toList
      rw [hT] at h2
      rw [List.length_take] at h1
      show Tx.cps.size ≤ 400
      omega⟩
    k_steps
    rename News _ _ _ _ => N2
    rename Fr _ _ _ (fun y => _) => F2
    rename IsRange _ _ _ _ _ _ _ _ => R2
    have hrl : (xs.flatMap rowText).length ≤ 400 := by have h1 := rowText_len xs; omega
    refine for_rangeT (n := n) (fun i m nx => nx = (el, _) :: (hl', _) :: news ∧ ∃ Ty tY, m "text" = some (.str Ty tY) ∧ QN i (xs.flatMap rowText) Ty.cps.toList)
      rfl F2 N2 R2 ?small ?size ⟨rfl, Tx, tT, rfl, hTx.1⟩ ?turn ?done
    case small => exact small_one (by omega) (by omega) (by omega) (by omega)
    case size => exact rangeSize_nat _ _
    case turn =>
      rintro i m₂ nx h tk tv I oI hi hJ0 hnI hlt F3 N3 TP hTP
      refine hide fun P0 hP0 => ?_
      obtain ⟨rfl, Ty, tY, e5, hQ⟩ := hJ0
      have F4 := fr_put F3 e5
      clear F2 F3 N2
      refine hP0 ?_
      clear hP0 P0
      refine wpAny_assign_Name ?_
      k_steps
      unfold Held
      rename News _ _ _ _ => N4
      rename Fr _ _ _ (fun y => _) => F5
      have hz : Ty.cps.size ≤ 100000 := by
        have h9 := hQ.small (by omega) hrl
        rw [Array.length_toList] at h9
        omega
      refine quote_spec w _ Ty tY hz _ _ _ _ _ _ _ _ _ _ _ _ _ _ _ _ _ _ _ _ _ _ B1 F5 X1 N4 T1 rfl trivial (by ktr_room) (by ktr_units) ?_
      rintro r tl h7 tk7 F6 N6 _ hJ0
      refine hide fun P0 hP0 => ?_
      obtain ⟨y7, t7, rfl, hq7⟩ := hJ0
      clear N4 N3
      refine hP0 ?_
      clear hP0 P0
      k_steps
      rename News _ _ _ _ => N8
      rename Fr _ _ _ (fun y => _) => F8
      refine hTP _ _ ?_
      exact turn_post0 F8 N8 hnI ⟨rfl, _, _, rfl, _, hQ, hq7⟩
    case done =>
      rintro m₂ nx h tk hJ0 F3 N3
      refine hide fun P0 hP0 => ?_
      obtain ⟨rfl, Ty, tY, e5, hQ⟩ := hJ0
      have F4 := fr_put F3 e5
      clear F2 F3 N2
      refine hP0 ?_
      clear hP0 P0
      dsimp only
      k_steps
      rename_i kF kN Tc kX
      exact hret _ news _ _ kF (fun p hp => kN p (.tail _ (.tail _ hp))) ⟨Ty, tY, rfl, rfl, hQ⟩
end
end
-- PART-END Sent

section
open PySem PySem.W PyProof.Rows
section
def srcs (ns : List Int) : List Int := ns.take 4 ++ [1802, 193, 2109, 384]

local macro_rules | `(tactic| walk_at "exec For") => `(tactic| (k_here; (refine exec_for ?_ (by intro _; rfl))))
set_option maxRecDepth 100000 in
set_option maxHeartbeats 4000000 in
theorem rows_spec (w : World) (news : List (Addr × Obj)) (l : Addr) (vs : List Value) (ns : List Int) (hi : IntsAre vs ns) (hn : ns.length ≤ 63) :
    Spec w 181 [.ref l] (fun h => h.IsList l vs.toArray) news (fun tl => tl ++ news) (fun tl r => DatIn tl r (.list ((srcs ns).map rowD))) := by
  w_top off
  unfold Spec PRG KK
  k_fill
  intro p loose mean mg mb dp un gd cn cs a ccd cl outer A₀ base h₀ L m s Q E B F X N T hk hl hdp hun hret
  refine wpAny_call ?_
  k_dflt ktr_enter
  rename Fr h₀ L _ m => FG
  have hl' := Heap.IsList.at hl (fun o e => FG.keep l o e)
  k_steps
  rename News _ _ _ _ => N1
  rename Fr _ _ _ (fun y => _) => F1
  rename_i g' L' h1' B' X' T' rl h2' l1a h3' D1 ws1 h4' hI1 hC1 hL1 l1b l2 h5' l1c D ws h6' hI l1
  refine for_listT (l := D) (vs := ws) (nn := 0) (fun i m nx => m "rows" = some (.ref rl) ∧ ∃ us c tl, nx = (rl, W.listOf us.toArray c) :: (tl ++ ((D, W.listOf ws.toArray 0) :: news)) ∧ DatAll tl us (((srcs ns).take i).map rowD) ∧ OwnOff tl [rl] ∧ OwnOff tl [D] ∧ (∀ p ∈ tl, ∀ q ∈ news, q.1 < p.1))
    (news := (rl, W.listOf [].toArray 0) :: ([] ++ ((D, W.listOf ws.toArray 0) :: news))) (.inl ⟨_, _, rfl⟩) rfl F1 ?N ?m ?j ?l ?turn ?done
  case N => intro p hp; exact N1 p (by simp only [List.mem_cons, List.mem_append, List.nil_append] at hp ⊢; grind)
  case m => simp
  case j => exact ⟨rfl, [], 0, [], rfl, .nil, (fun _ hp => nomatch hp), (fun _ hp => nomatch hp), (fun _ hp => nomatch hp)⟩
  case l => rintro i m nx ⟨_, us, c, tl, rfl, _⟩; simp
  case turn =>
    rintro i v m₁ nx h tk I oI hv hJ0 hnI hlt F2 N2 TP hTP
    refine hide fun P0 hP0 => ?_
    obtain ⟨hm, us, c, tl, rfl, hD, o1, o2, o3⟩ := hJ0
    have hnI' : ∀ x : Obj, ∀ p ∈ (rl, x) :: (tl ++ ((D, W.listOf ws.toArray 0) :: news)), p.1 ≠ I := fun x p hp => by
      rcases List.mem_cons.mp hp with rfl | hp
      · exact hnI (rl, W.listOf us.toArray c) (.head _)
      · exact hnI _ (.tail _ hp)
    have hi' : i < (srcs ns).length := by
      have := (List.getElem?_eq_some_iff.mp hv).1
      rw [hI.length] at this
      exact this
    obtain ⟨t, ht⟩ := hI.get i ((srcs ns)[i]) (List.getElem?_eq_getElem hi')
    rw [hv] at ht
    cases ht
    have F3 := fr_put F2 hm
    clear F2 F1 N1
    have kM : KdMark := kdMark
    have hrI : @LT.lt Nat _ rl I := hlt _ (.head _)
    have hsz : us.toArray.size ≤ sizeLine := by
      have := hD.length
      simp only [List.length_map, List.length_take] at this
      rw [List.size_toArray, this, sizeLine_eq]
      have : (srcs ns).length ≤ 67 := by simp [srcs]; omega
      omega
    refine hP0 ?_
    clear hP0 P0
    refine wpAny_assign_Name ?_
    k_steps
    rename News _ _ _ _ => N'
    rename Fr _ _ _ (fun y => _) => F'
    rename_i h7 h8 T1 h9 l1d h10
    simp only [List.push_toArray] at N'
    have lT : AllLt T1 (tl ++ ((D, W.listOf ws.toArray 0) :: news)) := l1d.2.2
    refine hTP _ _ ?_
    refine turn_post1 F' N' ?_ ?_ ?_
    · exact Nat.ne_of_gt l1d.1
    · exact hnI' _
    · refine ⟨rfl, us ++ [Value.ref T1], c + 1, _ :: tl, rfl, ?_, ?_, ?_, ?_⟩
      · have hs : (srcs ns).take (i + 1) = (srcs ns).take i ++ [(srcs ns)[i]] := take_snoc _ _ hi'
        rw [hs, List.map_append]
        refine DatAll.append (hD.mono fun p hp => .tail _ hp) (DatAll.one ?_)
        unfold rowD
        refine DatIn.tuple (.head _) ?_
        simp only [fmodE _ _ (show (0:Int) ≤ 1000000 by decide), fmodE _ _ (show (0:Int) ≤ 8 by decide), fmodE _ _ (show (0:Int) ≤ 4 by decide), fmodE _ _ (show (0:Int) ≤ 2 by decide), fmodE _ _ (show (0:Int) ≤ 3 by decide),
          fdivE _ _ (show (0:Int) ≤ 8 by decide), fdivE _ _ (show (0:Int) ≤ 32 by decide), fdivE _ _ (show (0:Int) ≤ 128 by decide), fdivE _ _ (show (0:Int) ≤ 512 by decide), fdivE _ _ (show (0:Int) ≤ 1024 by decide)]
        exact .cons (.int _ _) (.cons (.int _ _) (.cons (.int _ _) (.cons (.int _ _) (.cons (.int _ _) (.cons (.int _ _) .nil)))))
      · intro p hp b hb
        rcases List.mem_cons.mp hp with rfl | hp
        · rw [List.mem_singleton.mp hb]; exact Nat.ne_of_gt l1d.2.1
        · exact o1 p hp b hb
      · intro p hp b hb
        rcases List.mem_cons.mp hp with rfl | hp
        · rw [List.mem_singleton.mp hb]; exact Nat.ne_of_gt (tb_ltOf lT (D, W.listOf ws.toArray 0) (by simp))
        · exact o2 p hp b hb
      · intro p hp q hq
        rcases List.mem_cons.mp hp with rfl | hp
        · exact tb_ltOf lT q (by simp [hq])
        · exact o3 p hp q hq
  case done =>
    rintro m₁ nx h tk hJ0 F2 N2
    refine hide fun P0 hP0 => ?_
    obtain ⟨hm, us, c, tl, rfl, hD, o1, o2, o3⟩ := hJ0
    have F3 := fr_put F2 hm
    clear F2 F1 N1
    refine hP0 ?_
    clear hP0 P0
    dsimp only
    k_steps
    rename News _ _ _ _ => kN
    rename Fr _ _ _ _ => kF
    refine hret (.ref rl) ((rl, W.listOf us.toArray c) :: tl) _ _ kF (fun p hp => kN p ?_) ?_ ?_
    · simp only [List.mem_cons, List.mem_append, List.cons_append] at hp ⊢; grind
    · intro q hq p hp
      rcases List.mem_cons.mp hp with rfl | hp
      · exact l1a q hq
      · exact o3 p hp q hq
    · have hlen : ws.length = (srcs ns).length := hI.length
      rw [hlen, List.take_length] at hD
      exact .list (.head _) (hD.mono fun p hp => .tail _ hp)
end
end
-- PART-END C02

section
open PySem PySem.W PyProof.Rows
section

/-- the attributes of the lexer itself -/
abbrev lexEnts (w : World) (k1 k2 k3 k4 tl tw : Tok) (ln : Int) (sx pb : Addr) : List DictEntry :=
  [⟨PyData.keyHash w.params "lineno", .str "lineno" k1, .int ln tl⟩, ⟨PyData.keyHash w.params "instream", .str "instream" k2, .ref sx⟩, ⟨PyData.keyHash w.params "whitespace", .str "whitespace" k3, .str "\n\t\r " tw⟩, ⟨PyData.keyHash w.params "pushback", .str "pushback" k4, .ref pb⟩]
/-- the attributes of what it reads from -/
abbrev strEnts (w : World) (k1 k2 k3 k4 k5 tl tw : Tok) (pb f : Addr) : List DictEntry :=
  [⟨PyData.keyHash w.params "lineno", .str "lineno" k1, .int 1 tl⟩, ⟨PyData.keyHash w.params "instream", .str "instream" k2, .none⟩, ⟨PyData.keyHash w.params "whitespace", .str "whitespace" k3, .str "\n\t\r " tw⟩, ⟨PyData.keyHash w.params "pushback", .str "pushback" k4, .ref pb⟩, ⟨PyData.keyHash w.params "read", .str "read" k5, .ref f⟩]

set_option genSizeOf false in
set_option genInjectivity false in
/-- what a lexer is made of -/
structure LP where
  (pl ld lx sx sd pb pb2 f c cp ct : Addr)
  (k1 k2 k3 k4 tw j1 j2 j3 j4 j5 jl jw : Tok)
  (FO oc ocp oct : Obj)
/-- the order in which it was made -/
abbrev OrdP (P : LP) : Prop := @LT.lt Nat _ P.ct P.cp ∧ @LT.lt Nat _ P.cp P.pl ∧ @LT.lt Nat _ P.pl P.c ∧ @LT.lt Nat _ P.c P.f ∧ @LT.lt Nat _ P.f P.sd ∧ @LT.lt Nat _ P.sd P.sx ∧ @LT.lt Nat _ P.sx P.pb2 ∧ @LT.lt Nat _ P.pb2 P.ld ∧ @LT.lt Nat _ P.ld P.lx ∧ @LT.lt Nat _ P.lx P.pb

theorem OrdP.pls {P : LP} (h : OrdP P) : @LT.lt Nat _ P.ct P.pl ∧ @LT.lt Nat _ P.cp P.pl ∧ @LT.lt Nat _ P.pl P.c ∧ @LT.lt Nat _ P.pl P.f ∧ @LT.lt Nat _ P.pl P.sd ∧ @LT.lt Nat _ P.pl P.sx ∧ @LT.lt Nat _ P.pl P.pb2 ∧ @LT.lt Nat _ P.pl P.ld ∧ @LT.lt Nat _ P.pl P.lx ∧ @LT.lt Nat _ P.pl P.pb := by
  obtain ⟨a1, a2, a3, a4, a5, a6, a7, a8, a9, a10⟩ := h
  have b4 := Nat.lt_trans a3 a4
  have b5 := Nat.lt_trans b4 a5
  have b6 := Nat.lt_trans b5 a6
  have b7 := Nat.lt_trans b6 a7
  have b8 := Nat.lt_trans b7 a8
  have b9 := Nat.lt_trans b8 a9
  exact ⟨Nat.lt_trans a1 a2, a2, a3, b4, b5, b6, b7, b8, b9, Nat.lt_trans b9 a10⟩
theorem OrdP.pbs {P : LP} (h : OrdP P) : @LT.lt Nat _ P.lx P.pb ∧ @LT.lt Nat _ P.ld P.pb ∧ @LT.lt Nat _ P.pb2 P.pb ∧ @LT.lt Nat _ P.sx P.pb ∧ @LT.lt Nat _ P.sd P.pb ∧ @LT.lt Nat _ P.f P.pb ∧ @LT.lt Nat _ P.c P.pb ∧ @LT.lt Nat _ P.pl P.pb ∧ @LT.lt Nat _ P.cp P.pb ∧ @LT.lt Nat _ P.ct P.pb := by
  obtain ⟨a1, a2, a3, a4, a5, a6, a7, a8, a9, a10⟩ := h
  have b9 := Nat.lt_trans a9 a10
  have b8 := Nat.lt_trans a8 b9
  have b7 := Nat.lt_trans a7 b8
  have b6 := Nat.lt_trans a6 b7
  have b5 := Nat.lt_trans a5 b6
  have b4 := Nat.lt_trans a4 b5
  have b3 := Nat.lt_trans a3 b4
  have b2 := Nat.lt_trans a2 b3
  exact ⟨a10, b9, b8, b7, b6, b5, b4, b3, b2, Nat.lt_trans a1 b2⟩
theorem OrdP.lds {P : LP} (h : OrdP P) : @LT.lt Nat _ P.pb2 P.ld ∧ @LT.lt Nat _ P.sx P.ld ∧ @LT.lt Nat _ P.sd P.ld ∧ @LT.lt Nat _ P.f P.ld ∧ @LT.lt Nat _ P.c P.ld ∧ @LT.lt Nat _ P.pl P.ld ∧ @LT.lt Nat _ P.cp P.ld ∧ @LT.lt Nat _ P.ct P.ld ∧ @LT.lt Nat _ P.ld P.lx ∧ @LT.lt Nat _ P.ld P.pb := by
  obtain ⟨a1, a2, a3, a4, a5, a6, a7, a8, a9, a10⟩ := h
  have b7 := Nat.lt_trans a7 a8
  have b6 := Nat.lt_trans a6 b7
  have b5 := Nat.lt_trans a5 b6
  have b4 := Nat.lt_trans a4 b5
  have b3 := Nat.lt_trans a3 b4
  have b2 := Nat.lt_trans a2 b3
  exact ⟨a8, b7, b6, b5, b4, b3, b2, Nat.lt_trans a1 b2, a9, Nat.lt_trans a9 a10⟩
theorem all_up {a1 a2 a3 a4 a5 a6 a7 a8 a9 a10 b c : Nat} (h : @LT.lt Nat _ a1 b ∧ @LT.lt Nat _ a2 b ∧ @LT.lt Nat _ a3 b ∧ @LT.lt Nat _ a4 b ∧ @LT.lt Nat _ a5 b ∧ @LT.lt Nat _ a6 b ∧ @LT.lt Nat _ a7 b ∧ @LT.lt Nat _ a8 b ∧ @LT.lt Nat _ a9 b ∧ @LT.lt Nat _ a10 b) (l : @LT.lt Nat _ b c) : @LT.lt Nat _ a1 c ∧ @LT.lt Nat _ a2 c ∧ @LT.lt Nat _ a3 c ∧ @LT.lt Nat _ a4 c ∧ @LT.lt Nat _ a5 c ∧ @LT.lt Nat _ a6 c ∧ @LT.lt Nat _ a7 c ∧ @LT.lt Nat _ a8 c ∧ @LT.lt Nat _ a9 c ∧ @LT.lt Nat _ a10 c :=
  have t {x : Nat} (h : x < b) : x < c := Nat.lt_trans h l
  ⟨t h.1, t h.2.1, t h.2.2.1, t h.2.2.2.1, t h.2.2.2.2.1, t h.2.2.2.2.2.1, t h.2.2.2.2.2.2.1, t h.2.2.2.2.2.2.2.1, t h.2.2.2.2.2.2.2.2.1, t h.2.2.2.2.2.2.2.2.2⟩

/-- a call of the closure «read» -/
def ReadOk (w : World) (x : Str) (P : LP) : Prop :=
  (∃ oq od fd sl, P.FO = ⟨oq, od, .func fd, sl⟩) ∧
  ∀ (p : Program) (loose : List Str) (mean : ExcName → Option Value) (mg mb : Str → Option Value) (dp un : Nat) (gd : Option (List Code)) (cn : Str) (cs : Scope) (a : Addr) (ccd : Value) (cl : List (Str × Addr)) (outer : List Env) (A₀ : Around) (base h₀ : Heap) (L : Addr) (m : Str → Option Value) (s : Shared)
    (Q : Value → Shared → Prop) (E : Value → Shared → Prop) (news : List (Addr × Obj)) (i : Nat) (tp t1 : Tok) (cc : Nat),
    Below A₀ base outer h₀ → Fr h₀ L s.heap m → (KK w).In h₀ → News h₀ L s.heap ((P.pl, W.listOf #[.int (i : Nat) tp] cc) :: (P.f, P.FO) :: (P.c, P.oc) :: (P.cp, P.ocp) :: (P.ct, P.oct) :: news) → Top p loose mean mg mb h₀ → cs.kind = .function → dp + 5 < recursionLimit → un + 40 < cLine →
    OwnOff ((P.f, P.FO) :: (P.c, P.oc) :: (P.cp, P.ocp) :: (P.ct, P.oct) :: news) [P.pl] → i ≤ 200000 →
    (∀ tv h' tk' tp' cc', Fr h₀ L h' m → News h₀ L h' ((P.pl, W.listOf #[.int ((i + 1 : Nat) : Nat) tp'] cc') :: (P.f, P.FO) :: (P.c, P.oc) :: (P.cp, P.ocp) :: (P.ct, P.oct) :: news) → Q (.str ⟨x.cps.extract i (i + 1)⟩ tv) { s with heap := h', toks := tk' }) →
    wpAny (model PRG w) (ktrTop dp un gd cn cs L a ccd cl outer) (call (.ref P.f) [.int 1 t1]) Q E s

local macro_rules | `(tactic| walk_at "exec Assign") => `(tactic| k_fold)
local macro_rules | `(tactic| walk_at "eval BinOp") => `(tactic| k_fold)
local macro_rules | `(tactic| walk_at "eval Call") => `(tactic| k_fold)
set_option maxRecDepth 100000 in
set_option maxHeartbeats 4000000 in
theorem lexer_spec (w : World) (news : List (Addr × Obj)) (x : Str) (t : Tok) (hx : x.cps.size ≤ 100000) (h195 : OwnOff news [195]) :
    Spec2 w 200 [.str x t] (fun h => CodeHd h 199 195) ((195, tabObj #[]) :: news) (fun r nx => ∃ (P : LP) (kl : Tok) (ts : Array Value) (tp : Tok), r = .ref P.lx ∧
      nx = (P.pb, W.listOf #[] 0) :: (P.lx, instObj 93 P.ld) :: (P.ld, dictOf (lexEnts w P.k1 P.k2 P.k3 P.k4 kl P.tw 1 P.sx P.pb) 4) :: (P.pb2, W.listOf #[] 0) :: (P.sx, instObj 93 P.sd) :: (P.sd, dictOf (strEnts w P.j1 P.j2 P.j3 P.j4 P.j5 P.jl P.jw P.pb2 P.f) 5) :: (P.f, P.FO) :: (P.c, P.oc) :: (P.pl, W.listOf #[.int 0 tp] 0) :: (P.cp, P.ocp) :: (P.ct, P.oct) :: (195, tabObj ts) :: news ∧
      (AllLt P.ct ((195, tabObj ts) :: news) ∧ OrdP P) ∧
      ReadOk w x P) := by
  w_top off
  unfold Spec2 PRG KK
  k_fill
  intro p loose mean mg mb dp un gd cn cs a ccd cl outer A₀ base h₀ L m s Q E B F X N T hk hcd hdp hun hret
  cases cs
  cases hk
  have kM : KdMark := kdMark
  refine wpAny_call ?_
  k_dflt k_enter
  rename Fr h₀ L _ m => FG
  rename_i names isg isc more g' L' h1 tk1 F1 B' X' T' l1 o1 o2 N1 d1 d2
  have b1 : AllLt (L' + 1) news := allLt_up (Nat.le_succ _) l1.2
  have b2 : AllLt (L' + 1 + 1) news := allLt_up (Nat.le_succ _) b1
  have hcd' := hcd.keeps FG.keep
  have dt : o2.data = .cell (some (.str x t)) := d1
  k_steps
  rename News _ _ _ _ => kN
  rename Fr h₀ L _ m => kF
  refine hret _ _ _ _ kF kN ⟨⟨_, _, _, _, _, _, _, _, _, _, _, _, _, _, _, _, _, _, _, _, _, _, _, _, _, _, _⟩, _, _, _, rfl, rfl, ?_, ?_⟩
  · refine ⟨⟨?_, b1⟩, ?_⟩
    · have := l1.1; omega
    · refine ⟨?_, ?_, ?_, ?_, ?_, ?_, ?_, ?_, ?_, ?_⟩ <;> omega
  · refine ⟨⟨_, _, _, _, rfl⟩, ?_⟩
    clear hret kN kF
    unfold PRG KK
    intro p loose mean mg mb dp un gd cn cs a ccd cl outer A₀ base h₀ L m s Q E news i tp t1 cc B F X N T hk hdp hun hoff hi hret
    cases cs
    cases hk
    refine wpAny_call ?_
    k_dflt kn_enter
    k_steps
    rename News _ _ _ _ => kN
    rename Fr h₀ L _ m => kF
    have e : Txt.slice x (some (([(i : Int)]).getD (Int.toNat 0) 0)) (some (([(i : Int)]).getD (Int.toNat 0) 0 + 1)) = ⟨x.cps.extract i (i + 1)⟩ := slice_one x i
    rw [e]
    exact hret _ _ _ _ _ kF kN
end
end
-- PART-END Lex0

section
open PySem PySem.W PyProof.Rows PySem.Spec
set_option maxRecDepth 100000
section

theorem slot_ci_next : Slot "callable_iterator" "__next__" "callable_iterator.__next__" :=
  .of (owner := "callable_iterator") (n := "__next__") (by rw [typeLookup_type, builtinLookup_eq_fast]; kernel_rfl) (by decide +kernel) (by decide +kernel) (by decide +kernel)
    (by first | exact .inl (by decide +kernel) | exact .inr (by decide +kernel)) (by rw [isSubtype_type]; kernel_rfl)
theorem entry_ci_next : entryFor table "callable_iterator.__next__" = some Builtin.«callable_iterator.__next__» := entryFor_of_tree (by kernel_rfl)
theorem args_ci_next (a : Value) : argsOk "callable_iterator.__next__" ⟨[a], []⟩ := by
  unfold argsOk; kernel_rfl
theorem slot_ci_iter : Slot "callable_iterator" "__iter__" "callable_iterator.__iter__" :=
  .of (owner := "callable_iterator") (n := "__iter__") (by rw [typeLookup_type, builtinLookup_eq_fast]; kernel_rfl) (by decide +kernel) (by decide +kernel) (by decide +kernel)
    (by first | exact .inl (by decide +kernel) | exact .inr (by decide +kernel)) (by rw [isSubtype_type]; kernel_rfl)
theorem entry_ci_iter : entryFor table "callable_iterator.__iter__" = some Builtin.«dict_keyiterator.__iter__» := by
  exact entryFor_alias (id' := "dict_keyiterator.__iter__") (by kernel_rfl) (by first | rfl | decide +kernel | (unfold String.splitOn; simp +decide [String.splitOnAux])) (by decide +kernel) (by kernel_rfl)
theorem args_ci_iter (a : Value) : argsOk "callable_iterator.__iter__" ⟨[a], []⟩ := by
  unfold argsOk; kernel_rfl

abbrev citObj (f : Value) (sn : Value) (ended : Bool) : Obj := { cls := .type "callable_iterator", data := .fields #[f, sn, .bool ended] }

section
variable {prog : Program} {w : World} {A : Around} {s : Shared} {E : Value → Shared → Prop}

theorem wpAny_callBorrowed {M : Model} {A : Around} {f : Value} {pos : List Value} {Q : Value → Shared → Prop}
    (hc : codeAny M A (.call f ⟨pos, []⟩) (fun r s' => match r with | .ok (.ret v) => Q v s' | .ok _ => False | .error e => E e s') s) : wpAny M A (callBorrowed f pos) Q E s := fun Γ p hΓ => by
  unfold callBorrowed
  rw [Sem.wp_call]
  refine wpCode_mono (fun r s' h => ?_) (hc (Γ.enter (.call f ⟨pos, []⟩) none p) p rfl (hΓ.enter _ none p (by intro x; cases x)))
  cases r with
  | error e => exact h
  | ok fl => cases fl with
    | ret v => exact h
    | _ => exact h.elim

theorem wpAny_eqBool_str {x y : Str} {t u : Tok} {Q : Bool → Shared → Prop} (h : Q (x == y) s) : wpAny (model prog w) A (eqBool (.str x t) (.str y u)) Q E s := by
  unfold eqBool
  show wpAny _ _ (if (Value.str x t == Value.str y u) = true then _ else _) Q E s
  by_cases hab : (Value.str x t == Value.str y u) = true
  · rw [if_pos hab]
    have e : x = y := by have := eq_of_beq hab; injection this
    subst e
    exact wpAny_bind (wpAny_rule (wpAny_pure (by simpa using h)))
  · rw [if_neg hab]
    exact wpAny_bind (eq_str (wpAny_truthy_bool h))

/-- a bound method of a def's: what calls it out of a slot calls it plainly -/
theorem wp_borrows {bm f : Addr} {self : Value} {fo : Obj} {fd : FuncData} {Q : Bool → Shared → Prop} (hb : s.heap.get? bm = some (methodObj (.ref f) self)) (hf : s.heap.get? f = some fo) (hd : fo.data = .func fd) (h : Q true s) :
    wpAny (model prog w) A (borrowsExactly (.ref bm)) Q E s := by
  unfold borrowsExactly
  refine wpAny_bind (wpAny_load hb ?_)
  dsimp only
  rw [if_pos (by decide)]
  refine wpAny_bind (wpAny_load hf ?_)
  rw [hd]
  exact wpAny_pure h

/-- one step of iter(f, '') -/
theorem next_callable {it bm f : Addr} {self : Value} {fo : Obj} {fd : FuncData} {ts : Tok} {Q : Option Value → Shared → Prop} (hh : A.handled = none)
    (hit : s.heap.get? it = some (citObj (.ref bm) (.str "" ts) false)) (hb : s.heap.get? bm = some (methodObj (.ref f) self)) (hf : s.heap.get? f = some fo) (hd : fo.data = .func fd)
    (hcall : codeAny (model prog w) A.in1 (.call (.ref bm) ⟨[], []⟩) (fun r s' => ∃ (x : Str) (t : Tok), r = .ok (.ret (.str x t)) ∧ s'.heap.get? it = some (citObj (.ref bm) (.str "" ts) false) ∧ s'.heap.get? bm = some (methodObj (.ref f) self) ∧ (∃ fo' fd', s'.heap.get? f = some fo' ∧ fo'.data = .func fd') ∧
      (x ≠ "" → Q (some (.str x t)) s') ∧ (x = "" → ∀ h', (∀ b o, b ≠ it → s'.heap.get? b = some o → h'.get? b = some o) → Q none { s' with heap := h' })) s) :
    wpAny (model prog w) A (pyNext (.ref it)) Q E s := by
  have hT : s.TypeIs (.ref it) "callable_iterator" := ⟨_, hit, rfl⟩
  unfold pyNext
  refine wpAny_bind (wpAny_attempt (wpAny_callSpecial?_slot (name := Str.ofString "__next__") hT slot_ci_next
    (wpAny_call_entry slot_ci_next hT entry_ci_next ?_ (args_ci_next _))))
  show wpAny _ _ (field (.ref it) 2 >>= _) _ _ s
  refine wpAny_bind (wpAny_field hit rfl (x := .bool false) rfl ?_)
  rw [if_neg (by decide)]
  show wpAny _ _ (field (.ref it) 0 >>= _) _ _ s
  refine wpAny_bind (wpAny_field hit rfl (x := .ref bm) rfl ?_)
  refine wpAny_bind (wpAny_attempt ?_)
  unfold callOutOfASlot
  refine wpAny_bind (wp_borrows hb hf hd ?_)
  rw [if_pos rfl]
  refine wpAny_callBorrowed (codeAny_mono hcall ?_)
  rintro r s' ⟨x, t, rfl, hit', hb', ⟨fo', fd', hf', hd'⟩, hgo, hend⟩
  dsimp only
  refine wpAny_bind (wpAny_field hit' rfl (x := .bool false) rfl ?_)
  rw [if_neg (by decide)]
  refine wpAny_bind (wpAny_field hit' rfl (x := .str "" ts) rfl ?_)
  refine wpAny_bind (wpAny_holding (wpAny_eqBool_str ?_))
  by_cases hx : x = ""
  · subst hx
    rw [if_neg (by simp)]
    refine wpAny_bind (wpAny_rule (wpAny_bind ?_))
    show wpAny _ _ (field (.ref it) 0 >>= fun v => slotLetsGo _ v _ >>= fun _ => setField (.ref it) 0 .none >>= fun _ => setField (.ref it) 1 .none >>= fun _ => setField (.ref it) 2 (.bool true)) _ _ _
    refine wpAny_bind (wpAny_field hit' rfl (x := .ref bm) rfl ?_)
    refine wpAny_bind (?_ : wpAny _ _ (slotLetsGo _ (.ref bm) _) _ _ _)
    unfold slotLetsGo
    dsimp only
    refine wpAny_bind (wp_borrows hb' hf' hd' ?_)
    rw [if_pos rfl]
    refine wpAny_pure ?_
    refine wpAny_bind (wpAny_setField hit' rfl (by simp) ?_)
    refine wpAny_bind (wpAny_setField (Heap.get?_update_self _ hit' rfl) rfl (by simp) ?_)
    refine wpAny_setField (Heap.get?_update_self _ (Heap.get?_update_self _ hit' rfl) rfl) rfl (by simp) ?_
    show wpAny _ _ (newExc (.type "StopIteration") [] >>= _) _ _ _
    refine wpAny_bind ?_
    simp only [newExc, newTuple]
    refine wpAny_bind (wpAny_newObj_type ?_ (by size_fits))
    refine wpAny_bind (m := firstArgMember _ _) (wpAny_of_eq (a := Value.none) (by first | rfl | (simp only [firstArgMember]; rfl)) ?_)
    refine wpAny_newObj_type ?_ (by size_fits)
    simp only [raiseNew]
    refine wpAny_bind (wpAny_handled ?_)
    rw [show A.in1.handled = none from hh]
    refine wpAny_bind (wpAny_pure (wpAny_throw ?_))
    refine wpAny_bind (wpAny_isInstance (T := "StopIteration") (b := true) ⟨_, Heap.get?_push_size _ rfl, rfl⟩ isSubtype_stop ?_)
    refine wpAny_pure (hend rfl _ fun b o hb e => ?_)
    refine Heap.get?_push_of_some _ (Heap.get?_push_of_some _ ?_)
    exact (Heap.get?_update_ne _ _ _ _ hb).trans ((Heap.get?_update_ne _ _ _ _ hb).trans ((Heap.get?_update_ne _ _ _ _ hb).trans e))
  · rw [if_pos (by simp; exact fun h => hx h.symm)]
    exact wpAny_bind (wpAny_pure (wpAny_pure ⟨_, rfl, wpAny_pure (hgo hx)⟩))

theorem iter_callable {it : Addr} {o : Obj} {Q : Value → Shared → Prop} (hit : s.heap.get? it = some o) (hc : o.cls = .type "callable_iterator") (h : Q (.ref it) s) : wpAny (model prog w) A (pyIter (.ref it)) Q E s := by
  have hT : s.TypeIs (.ref it) "callable_iterator" := ⟨_, hit, hc⟩
  refine wpAny_pyIter_slot hT slot_ci_iter (wpAny_call_entry slot_ci_iter hT entry_ci_iter ?_ (args_ci_iter _))
  show wpAny _ _ (ret (.ref it)) _ _ s
  exact wpAny_pure ⟨_, rfl, "callable_iterator", _, hT, slot_ci_next.lookup, h⟩

theorem kind_iter : builtinKind "iter" = none := by decide +kernel
theorem plain_iter : plainId "iter" = true := by decide +kernel
theorem entry_iter : entryFor table "iter" = some Builtin.«iter» := entryFor_of_tree (by kernel_rfl)
theorem args_iter2 (a b : Value) : argsOk "iter" ⟨[a, b], []⟩ := by unfold argsOk; kernel_rfl
theorem method_has_call : ∃ v, typeLookup (.type "method") "__call__" = pure (some v) := ⟨.builtin "method.__call__", by rw [typeLookup_type, builtinLookup_eq_fast]; kernel_rfl⟩
theorem iter_two {bm : Addr} {o : Obj} {sn : Value} {Q : Value → Shared → Prop} (hb : s.heap.get? bm = some o) (hc : o.cls = .type "method")
    (h : Q (.ref s.heap.objs.size) { s with heap := s.heap.push (citObj (.ref bm) sn false) }) : wpAny (model prog w) A (call (.builtin "iter") [.ref bm, sn]) Q E s := by
  refine Calls.call_function_entry kind_iter plain_iter entry_iter (args_iter2 _ _) ?_
  unfold Builtin.«iter»
  refine wpAny_bind (wpAny_of_eq (show someArgs "iter" 1 2 ⟨[.ref bm, sn], []⟩ = pure [.ref bm, sn] from rfl) ?_)
  dsimp only
  obtain ⟨v, hv⟩ := method_has_call
  refine wpAny_bind (wpAny_specialOf (T := "method") ⟨_, hb, hc⟩ hv ?_)
  dsimp only [Option.isNone]
  rw [if_neg (by decide)]
  refine wpAny_bind (wpAny_rule ?_)
  refine wpAny_bind (wpAny_newObj_type ?_ (by size_fits))
  exact wpAny_pure ⟨_, rfl, h⟩
end
end
end
-- PART-END CallIter

section
open PySem PySem.W PyProof.Rows
section

/-- the lexer, standing at a place of the text and in a row -/
abbrev LX (w : World) (P : LP) (i : Nat) (tp : Tok) (cc : Nat) (ln : Int) (kl : Tok) (cst : List (Addr × Obj)) : List (Addr × Obj) :=
  (P.pl, W.listOf #[.int (i : Nat) tp] cc) :: (P.ld, dictOf (lexEnts w P.k1 P.k2 P.k3 P.k4 kl P.tw ln P.sx P.pb) 4) :: (P.lx, instObj 93 P.ld) :: (P.sx, instObj 93 P.sd) :: (P.sd, dictOf (strEnts w P.j1 P.j2 P.j3 P.j4 P.j5 P.jl P.jw P.pb2 P.f) 5) :: (P.pb, W.listOf #[] 0) :: (P.f, P.FO) :: (P.c, P.oc) :: (P.cp, P.ocp) :: (P.ct, P.oct) :: cst

theorem lx_tail {w : World} {P : LP} {i : Nat} {tp : Tok} {cc : Nat} {ln : Int} {kl : Tok} {cst : List (Addr × Obj)} {p : Addr × Obj} (hp : p ∈ cst) : p ∈ LX w P i tp cc ln kl cst :=
  List.mem_append_right [_, _, _, _, _, _, _, _, _, _] hp
theorem lx_back {h₀ h : Heap} {L : Addr} {w : World} {P : LP} {i : Nat} {tp : Tok} {cc : Nat} {ln : Int} {kl : Tok} {cst : List (Addr × Obj)}
    (N : News h₀ L h ((P.pl, W.listOf #[.int (i : Nat) tp] cc) :: (P.f, P.FO) :: (P.c, P.oc) :: (P.cp, P.ocp) :: (P.ct, P.oct) :: (P.ld, dictOf (lexEnts w P.k1 P.k2 P.k3 P.k4 kl P.tw ln P.sx P.pb) 4) :: (P.lx, instObj 93 P.ld) :: (P.sx, instObj 93 P.sd) :: (P.sd, dictOf (strEnts w P.j1 P.j2 P.j3 P.j4 P.j5 P.jl P.jw P.pb2 P.f) 5) :: (P.pb, W.listOf #[] 0) :: cst)) :
    News h₀ L h (LX w P i tp cc ln kl cst) :=
  news_resh [0, 5, 6, 7, 8, 9, 1, 2, 3, 4] 9 N

set_option maxRecDepth 100000 in
set_option maxHeartbeats 4000000 in
theorem rc_spec (w : World) (x : Str) (P : LP) (R : ReadOk w x P)
    (i : Nat) (tp : Tok) (cc : Nat) (ln : Int) (kl : Tok) (cst : List (Addr × Obj))
    (hord : OrdP P) (hoff : OwnOff cst [P.pl, P.ld]) (hi : i ≤ 200000) :
    Spec2c w 10 60 76 [.ref P.lx] (fun h => CodeHd h 199 195) (LX w P i tp cc ln kl cst)
      (fun r nx => ∃ tv tp' cc' kl' ln', r = .str ⟨x.cps.extract i (i + 1)⟩ tv ∧ nx = LX w P (i + 1) tp' cc' ln' kl' cst ∧ ln' = ln + if x.cps[i]? = some 10 then 1 else 0) := by
  w_top off
  have o1 := OrdP.pls hord
  have o2 := OrdP.lds hord
  obtain ⟨pl, ld, lx, sx, sd, pb, pb2, f, c, cp, ct, k1, k2, k3, k4, tw, j1, j2, j3, j4, j5, jl, jw, FO, oc, ocp, oct⟩ := P
  unfold ReadOk at R
  dsimp only [OrdP] at R hord hoff o1 o2 ⊢
  unfold Spec2c PRG KK
  k_fill
  intro p loose mean mg mb dp un gd cn cs a ccd cl outer A₀ base h₀ L m s Q E B F X N T hk hcd hdp hun hret
  cases cs
  cases hk
  have kM : KdMark := kdMark
  obtain ⟨⟨fo1, fo2, fd, fo3, rfl⟩, R⟩ := R
  k_dflt k_enter
  rename Fr h₀ L _ m => FG
  have hcd' := hcd.keeps FG.keep
  k_steps
  rename News _ _ _ _ => N1
  rename Fr _ _ _ _ => F1
  rename Below _ _ _ _ => B1
  rename Frag.In _ _ => X1
  rename Top _ _ _ _ _ _ => T1
  refine R _ _ _ _ _ _ _ _ _ _ _ _ _ _ _ _ _ _ _ _ _ _ ((ld, dictOf (lexEnts w k1 k2 k3 k4 kl tw ln sx pb) 4) :: (lx, instObj 93 ld) :: (sx, instObj 93 sd) :: (sd, dictOf (strEnts w j1 j2 j3 j4 j5 jl jw pb2 f) 5) :: (pb, W.listOf #[] 0) :: cst) i tp _ cc B1 F1 X1 (news_resh [0, 6, 7, 8, 9, 1, 2, 3, 4, 5] 9 N1) T1 rfl (by ktr_room) (by ktr_units) ?_ hi ?_
  · intro p hp b hb
    rw [List.mem_singleton.mp hb]
    simp only [List.mem_cons] at hp
    rcases hp with rfl | rfl | rfl | rfl | rfl | rfl | rfl | rfl | rfl | hp
    all_goals first
      | exact hoff p hp pl (by simp)
      | (refine neN ?_; dsimp only; omega)
  · intro tv h2 tk2 tp2 cc2 F2 N2
    k_steps
    all_goals (
      rename News _ _ _ _ => kN
      rename Fr h₀ L _ m => kF
      rename (_ == _) = _ => hch
      rw [show (PySem.Str.ofString "\n") = ⟨#[10]⟩ from by decide +kernel, sign_eq] at hch
      refine hret _ _ _ _ kF (lx_back kN) ⟨tv, _, _, _, _, rfl, rfl, ?_⟩)
    · rw [if_pos (eq_of_beq hch)]
    · rw [if_neg (ne_of_beq_false hch), Int.add_zero]
end
end
-- PART-END Rc

section
open PySem PySem.W PyProof.Rows
section

section
variable {prog : Program} {w : World} {A : Around} {s : Shared} {E : Value → Shared → Prop} {h₀ : Heap} {L : Addr} {m : Str → Option Value} {news : List (Addr × Obj)}
theorem iter_two_K {bm : Addr} {f self sn : Value} {Q : Value → Shared → Prop} (F : Fr h₀ L s.heap m) (N : News h₀ L s.heap news) (hm : (bm, methodObj f self) ∈ news)
    (h : ∀ it h', Fr h₀ L h' m → News h₀ L h' ((it, citObj (.ref bm) sn false) :: news) → (∀ p ∈ news, p.1 < it) → Q (.ref it) { s with heap := h' }) : wpAny (model prog w) A (call (.builtin "iter") [.ref bm, sn]) Q E s :=
  iter_two (N _ hm).1 rfl (h _ _ (F.push _) (N.push F _) fun p hp => Heap.lt_size (N p hp).1)
theorem iter_cit_K {it : Addr} {f sn : Value} {Q : Value → Shared → Prop} (N : News h₀ L s.heap news) (hm : (it, citObj f sn false) ∈ news) (h : Q (.ref it) s) : wpAny (model prog w) A (pyIter (.ref it)) Q E s :=
  iter_callable (N _ hm).1 rfl h
theorem truthy_nil_K {l : Addr} {n : Nat} {Q : Bool → Shared → Prop} (N : News h₀ L s.heap news) (hm : (l, W.listOf #[] n) ∈ news) (h : ∀ tk, Q false { s with toks := tk }) : wpAny (model prog w) A (truthy (.ref l)) Q E s :=
  wpAny_truthy_list ⟨_, (N _ hm).1, rfl, n, rfl⟩ (by decide) (h _)
end
local macro_rules | `(tactic| walk_at "truthy ref") => `(tactic| (k_here; k_dflt (refine' truthy_nil_K ?N ?m ?_; (case N => k_asm); (case m => k_mem); k_whole); intro tk'))
local macro_rules | `(tactic| walk_at "exec For") => `(tactic| (k_here; (refine exec_for ?_ (by intro _; rfl))))
local macro_rules | `(tactic| walk_at "call builtin:iter") => `(tactic| (k_here; k_dflt (refine' iter_two_K ?F ?N ?m ?_; (case F => k_asm); (case N => k_asm); (case m => k_mem); k_whole); intro it' h' F' N' l1; (try k_lt l1)))
local macro_rules | `(tactic| walk_at "pyIter ref") => `(tactic| (k_here; (with_reducible show wpAny _ _ (pyIter (Value.ref _)) (fun _ _ => ForAt _ _ _ _ _ _ _ _ _) _ _); k_dflt (refine' iter_cit_K ?N ?m ?_; (case N => k_asm); (case m => k_mem); k_whole)))


section
variable {w : World} {x : Str} {P : LP} {it q : Addr} {o1 : Obj} {i : Nat} {tp ts : Tok} {cc : Nat} {ln : Int} {kl : Tok} {cst : List (Addr × Obj)}
  {p : Program} {loose : List Str} {mean : ExcName → Option Value} {mg mb : Str → Option Value} {dp un : Nat} {gd : Option (List Code)} {cn : Str} {cs : Scope} {a : Addr} {ccd : Value} {cl : List (Str × Addr)} {outer : List Env} {A₀ : Around} {base h₀ : Heap} {L : Addr} {m : Str → Option Value} {s : Shared} {E : Value → Shared → Prop}

abbrev LexOrd (P : LP) (it q : Addr) : Prop :=
  OrdP P ∧ @LT.lt Nat _ P.pb q ∧ @LT.lt Nat _ q it

theorem read_code {Q : Value → Shared → Prop} (R : ReadOk w x P) (ho : LexOrd P it q) (hoff : OwnOff cst [P.pl, P.ld]) (hi : i ≤ 200000)
    (B : Below A₀ base outer h₀) (F : Fr h₀ L s.heap m) (X : (KK w).In h₀) (N : News h₀ L s.heap ((it, o1) :: (q, methodObj (.ref 76) (.ref P.lx)) :: LX w P i tp cc ln kl cst))
    (T : Top p loose mean mg mb h₀) (hk : cs.kind = .function) (hcd : CodeHd h₀ 199 195) (hdp : dp + 10 < recursionLimit) (hun : un + 60 < cLine)
    (h : ∀ tv h' tk' tp' cc' kl', Fr h₀ L h' m → News h₀ L h' ((it, o1) :: (q, methodObj (.ref 76) (.ref P.lx)) :: LX w P (i + 1) tp' cc' (ln + if x.cps[i]? = some 10 then 1 else 0) kl' cst) →
      Q (.str ⟨x.cps.extract i (i + 1)⟩ tv) { s with heap := h', toks := tk' }) :
    codeAny (model PRG w) (ktrTop dp un gd cn cs L a ccd cl outer) (.call (.ref 76) ⟨[.ref P.lx], []⟩) (fun r s' => match r with | .ok (.ret v) => Q v s' | .ok _ => False | .error e => E e s') s := by
  obtain ⟨ho, hq1, hq2⟩ := ho
  have oq := all_up (OrdP.pbs ho) hq1
  have oi := all_up oq hq2
  have e1 : ∀ (i : Nat) (tp : Tok) (cc : Nat) (ln : Int) (kl : Tok) (h : Heap), News h₀ L h ((it, o1) :: (q, methodObj (.ref 76) (.ref P.lx)) :: LX w P i tp cc ln kl cst) ↔
      News h₀ L h (LX w P i tp cc ln kl ((it, o1) :: (q, methodObj (.ref 76) (.ref P.lx)) :: cst)) := fun i tp cc ln kl h =>
    ⟨news_resh [2, 3, 4, 5, 6, 7, 8, 9, 10, 11, 0, 1] 11, news_resh [10, 11, 0, 1, 2, 3, 4, 5, 6, 7, 8, 9] 11⟩
  refine rc_spec w x P R i tp cc ln kl ((it, o1) :: (q, methodObj (.ref 76) (.ref P.lx)) :: cst) ho ?_ hi p loose mean mg mb dp un gd cn cs a ccd cl outer A₀ base h₀ L m s Q E B F X ((e1 ..).mp N) T hk hcd hdp hun ?_
  · intro p hp b hb
    have hb' : b = P.pl ∨ b = P.ld := by simpa using hb
    rcases List.mem_cons.mp hp with rfl | hp
    · rcases hb' with rfl | rfl <;> (refine neN ?_; dsimp only; omega)
    · rcases List.mem_cons.mp hp with rfl | hp
      · rcases hb' with rfl | rfl <;> (refine neN ?_; dsimp only; omega)
      · exact hoff p hp b hb
  · rintro r nx h' tk' F' N' ⟨tv, tp', cc', kl', ln', rfl, rfl, rfl⟩
    exact h tv h' tk' tp' cc' kl' F' ((e1 ..).mpr N')

theorem read_K {Q : Value → Shared → Prop} (R : ReadOk w x P) (ho : LexOrd P it q) (hoff : OwnOff cst [P.pl, P.ld]) (hi : i ≤ 200000)
    (B : Below A₀ base outer h₀) (F : Fr h₀ L s.heap m) (X : (KK w).In h₀) (N : News h₀ L s.heap ((it, o1) :: (q, methodObj (.ref 76) (.ref P.lx)) :: LX w P i tp cc ln kl cst))
    (T : Top p loose mean mg mb h₀) (hk : cs.kind = .function) (hcd : CodeHd h₀ 199 195) (hdp : dp + 10 < recursionLimit) (hun : un + 60 < cLine)
    (h : ∀ tv h' tk' tp' cc' kl', Fr h₀ L h' m → News h₀ L h' ((it, o1) :: (q, methodObj (.ref 76) (.ref P.lx)) :: LX w P (i + 1) tp' cc' (ln + if x.cps[i]? = some 10 then 1 else 0) kl' cst) →
      Q (.str ⟨x.cps.extract i (i + 1)⟩ tv) { s with heap := h', toks := tk' }) :
    wpAny (model PRG w) (ktrTop dp un gd cn cs L a ccd cl outer) (call (.ref 76) [.ref P.lx]) Q E s :=
  wpAny_call (read_code R ho hoff hi B F X N T hk hcd hdp hun h)

theorem read_Kc {Q : Value → Shared → Prop} {d : Nat} (R : ReadOk w x P) (ho : LexOrd P it q) (hoff : OwnOff cst [P.pl, P.ld]) (hi : i ≤ 200000) (hx : x.cps[i]? = some d)
    (B : Below A₀ base outer h₀) (F : Fr h₀ L s.heap m) (X : (KK w).In h₀) (N : News h₀ L s.heap ((it, o1) :: (q, methodObj (.ref 76) (.ref P.lx)) :: LX w P i tp cc ln kl cst))
    (T : Top p loose mean mg mb h₀) (hk : cs.kind = .function) (hcd : CodeHd h₀ 199 195) (hdp : dp + 10 < recursionLimit) (hun : un + 60 < cLine)
    (h : ∀ tv h' tk' tp' cc' kl', Fr h₀ L h' m → News h₀ L h' ((it, o1) :: (q, methodObj (.ref 76) (.ref P.lx)) :: LX w P (i + 1) tp' cc' (ln + if d = 10 then 1 else 0) kl' cst) →
      Q (.str ⟨#[d]⟩ tv) { s with heap := h', toks := tk' }) :
    wpAny (model PRG w) (ktrTop dp un gd cn cs L a ccd cl outer) (call (.ref 76) [.ref P.lx]) Q E s :=
  read_K R ho hoff hi B F X N T hk hcd hdp hun fun tv h' tk' tp' cc' kl' F' N' => by
    have e : (⟨x.cps.extract i (i + 1)⟩ : Str) = ⟨#[d]⟩ := by rw [sign_at, hx]
    rw [e]
    rw [hx] at N'
    have e2 : (if some d = some 10 then (1 : Int) else 0) = if d = 10 then 1 else 0 := by simp
    rw [e2] at N'
    exact h tv h' tk' tp' cc' kl' F' N'

theorem fn76 (X : (KK w).In h₀) : ∃ fo fd, h₀.get? 76 = some fo ∧ fo.data = .func fd := ⟨_, _, X 76 _ rfl, rfl⟩

theorem next_K {Q : Option Value → Shared → Prop} (R : ReadOk w x P) (ho : LexOrd P it q) (hoff : OwnOff cst [P.pl, P.ld]) (hal : AllLt it cst) (hi : i ≤ 200000)
    (B : Below A₀ base outer h₀) (F : Fr h₀ L s.heap m) (X : (KK w).In h₀) (N : News h₀ L s.heap ((it, citObj (.ref q) (.str "" ts) false) :: (q, methodObj (.ref 76) (.ref P.lx)) :: LX w P i tp cc ln kl cst))
    (T : Top p loose mean mg mb h₀) (hk : cs.kind = .function) (hcd : CodeHd h₀ 199 195) (hdp : dp + 10 < recursionLimit) (hun : un + 61 < cLine)
    (h : ∀ d tv h' tk' tp' cc' kl', x.cps[i]? = some d → Fr h₀ L h' m → News h₀ L h' ((it, citObj (.ref q) (.str "" ts) false) :: (q, methodObj (.ref 76) (.ref P.lx)) :: LX w P (i + 1) tp' cc' (ln + if d = 10 then 1 else 0) kl' cst) →
      Q (some (.str ⟨#[d]⟩ tv)) { s with heap := h', toks := tk' })
    (h0 : x.cps[i]? = none → ∀ h' tk' tp' cc' kl', Fr h₀ L h' m → News h₀ L h' (LX w P (i + 1) tp' cc' ln kl' cst) → Q none { s with heap := h', toks := tk' }) :
    wpAny (model PRG w) (ktrTop dp un gd cn cs L a ccd cl outer) (pyNext (.ref it)) Q E s := by
  obtain ⟨fo, fd, hf, hd⟩ := fn76 X
  refine next_callable (f := 76) (self := .ref P.lx) (fo := fo) (fd := fd) rfl (N _ (.head _)).1 (N _ (.tail _ (.head _))).1 (F.keep _ _ hf) hd ?_
  refine method_call (N _ (.tail _ (.head _))).1 ?_
  refine codeAny_mono (read_code (un := un + 1) (E := fun _ _ => False) (Q := fun v s' => (fun r s' => ∃ (x : Str) (t : Tok), r = .ok (.ret (.str x t)) ∧ s'.heap.get? it = some (citObj (.ref q) (.str "" ts) false) ∧ s'.heap.get? q = some (methodObj (.ref 76) (.ref P.lx)) ∧ (∃ fo' fd', s'.heap.get? 76 = some fo' ∧ fo'.data = .func fd') ∧
      (x ≠ "" → Q (some (.str x t)) s') ∧ (x = "" → ∀ h', (∀ b o, b ≠ it → s'.heap.get? b = some o → h'.get? b = some o) → Q none { s' with heap := h' })) (Except.ok (Flow.ret v) : Result) s') R ho hoff hi B F X N T hk hcd hdp (by omega) ?_) ?_
  · intro tv h' tk' tp' cc' kl' F' N'
    refine ⟨_, _, rfl, (N' _ (.head _)).1, (N' _ (.tail _ (.head _))).1, ⟨fo, fd, F'.keep _ _ hf, hd⟩, fun hne => ?_, fun he h2 hk2 => ?_⟩
    · cases hx : x.cps[i]? with
      | none => exact absurd (by rw [sign_at, hx]; rfl) hne
      | some d =>
        rw [hx] at N'
        have e : (⟨x.cps.extract i (i + 1)⟩ : Str) = ⟨#[d]⟩ := by rw [sign_at, hx]
        rw [e]
        have e2 : (if some d = some 10 then (1 : Int) else 0) = if d = 10 then 1 else 0 := by simp
        rw [e2] at N'
        exact h d tv h' tk' tp' cc' kl' hx F' N'
    · have hx : x.cps[i]? = none := by
        cases hx : x.cps[i]? with
        | none => rfl
        | some d =>
          rw [sign_at, hx] at he
          have := congrArg (fun z : Str => z.cps.size) he
          simp at this
          exact absurd this (by decide +kernel)
      rw [hx] at N'
      have e2 : (if (none : Option Nat) = some 10 then (1 : Int) else 0) = 0 := by simp
      rw [e2, Int.add_zero] at N'
      have hit0 : h₀.get? it = none := (N' _ (.head _)).2.2
      have hitL : it ≠ L := (N' _ (.head _)).2.1
      refine h0 hx h2 tk' tp' cc' kl' ⟨F'.ns.at' fun o e => hk2 _ o (Ne.symm hitL) e, fun b o e => hk2 b o (fun z => by rw [z, hit0] at e; cases e) (F'.keep b o e), F'.above⟩ fun p hp => ?_
      have hpi : p.1 ≠ it := by
        simp only [List.mem_cons] at hp
        obtain ⟨ho, hq1, hq2⟩ := ho
        have hbi := Nat.lt_trans hq1 hq2
        have oi := all_up (OrdP.pbs ho) hbi
        rcases hp with rfl | rfl | rfl | rfl | rfl | rfl | rfl | rfl | rfl | rfl | hp
        all_goals first
          | exact Nat.ne_of_lt (tb_ltOf hal p hp)
          | (refine neN ?_; dsimp only; omega)
      exact ⟨hk2 _ _ hpi (N' p (.tail _ (.tail _ hp))).1, (N' p (.tail _ (.tail _ hp))).2⟩
  · intro r s' hr
    cases r with
    | error e => exact hr.elim
    | ok fl => cases fl with
      | ret v => exact hr
      | _ => exact hr.elim
end

abbrev isWs (c : Nat) : Prop := c = 10 ∨ c = 9 ∨ c = 13 ∨ c = 32
/-- a sign that stands for itself, in a word and in quotation marks -/
def plainC (c : Nat) : Prop := c ≠ 34 ∧ c ≠ 92 ∧ ¬ isWs c

theorem ws_lit : (PySem.Str.ofString "\n\t\r ") = ⟨#[10, 9, 13, 32]⟩ := by decide +kernel
theorem ws_in (d : Nat) : (!(Builtin.Str.occurrences "\n\t\r " ⟨#[d]⟩ 0 ("\n\t\r " : PySem.Str).length 1).isEmpty) = decide (isWs d) := by
  rw [StrLaws.found_one, ws_lit]
  congr 1
  simp [isWs]
theorem ws_no {d : Nat} (h : ¬ isWs d) : (!(Builtin.Str.occurrences "\n\t\r " ⟨#[d]⟩ 0 ("\n\t\r " : PySem.Str).length 1).isEmpty) = false := by rw [ws_in, decide_eq_false h]
theorem ws_yes {d : Nat} (h : isWs d) : (!(Builtin.Str.occurrences "\n\t\r " ⟨#[d]⟩ 0 ("\n\t\r " : PySem.Str).length 1).isEmpty) = true := by rw [ws_in, decide_eq_true h]
theorem str1_eq (d e : Nat) : ((⟨#[d]⟩ : PySem.Str) == ⟨#[e]⟩) = decide (d = e) := by
  by_cases h : d = e
  · subst h; simp
  · rw [decide_eq_false h]
    exact beq_eq_false_iff_ne.mpr (by simp [h])
theorem quo_lit : (PySem.Str.ofString "\"") = ⟨#[34]⟩ := by decide +kernel
theorem bsl_lit : (PySem.Str.ofString "\\") = ⟨#[92]⟩ := by decide +kernel
theorem q_no {d : Nat} (h : d ≠ 34) : ((⟨#[d]⟩ : PySem.Str) == "\"") = false := by rw [quo_lit, str1_eq, decide_eq_false h]
theorem q_yes : ((⟨#[34]⟩ : PySem.Str) == "\"") = true := by rw [quo_lit, str1_eq]; rfl
theorem b_no {d : Nat} (h : d ≠ 92) : ((⟨#[d]⟩ : PySem.Str) == "\\") = false := by rw [bsl_lit, str1_eq, decide_eq_false h]
theorem b_yes : ((⟨#[92]⟩ : PySem.Str) == "\\") = true := by rw [bsl_lit, str1_eq]; rfl
theorem not_ws {d : Nat} (h : d = 34 ∨ d = 92) : ¬ isWs d := by unfold isWs; omega

/-- what one word takes of a text -/
inductive TokA : List Nat → Int → List Nat → List Nat → Int → Prop
  | skip {c : Nat} {r : List Nat} {ln : Int} {wd rest : List Nat} {ln' : Int} : isWs c → TokA r (ln + if c = 10 then 1 else 0) wd rest ln' → TokA (c :: r) ln wd rest ln'
  | quote {cs rest : List Nat} {ln : Int} : (∀ c ∈ cs, plainC c) → TokA (34 :: (cs ++ 34 :: rest)) ln cs rest ln
  | esc {c d : Nat} {cs rest : List Nat} {ln : Int} : c ≠ 10 → (∀ c ∈ cs, plainC c) → isWs d → d ≠ 10 → TokA (92 :: c :: (cs ++ d :: rest)) ln (c :: cs) rest ln
  | word {c d : Nat} {cs rest : List Nat} {ln : Int} : plainC c → (∀ c ∈ cs, plainC c) → isWs d → d ≠ 10 → TokA (c :: (cs ++ d :: rest)) ln (c :: cs) rest ln
  | eof {ln : Int} : TokA [] ln [] [] ln

theorem at_of_drop {x : Array Nat} {i : Nat} {c : Nat} {r : List Nat} (h : x.toList.drop i = c :: r) : x[i]? = some c ∧ x.toList.drop (i + 1) = r := by
  have h1 : x.toList[i]? = some c := by
    have := congrArg List.head? h
    rwa [List.head?_drop] at this
  refine ⟨by rwa [Array.getElem?_toList] at h1, ?_⟩
  have := congrArg List.tail h
  rwa [List.tail_drop] at this
theorem at_of_nil {x : Array Nat} {i : Nat} (h : x.toList.drop i = []) : x[i]? = none ∧ x.toList.drop (i + 1) = [] := by
  have h1 := List.drop_eq_nil_iff.mp h
  rw [Array.length_toList] at h1
  exact ⟨Array.getElem?_eq_none h1, List.drop_eq_nil_iff.mpr (by rw [Array.length_toList]; omega)⟩

local macro_rules | `(tactic| walk_at "call ref") => `(tactic| (k_here; (with_reducible show wpAny _ _ (call (Value.ref 76) _) _ _ _); k_dflt (refine' read_Kc ?R ?ho ?hoff ?hi ?hx ?B ?F ?X ?N ?T ?hk ?hcd ?hdp ?hun ?_; (case R => assumption); (case ho => assumption); (case hoff => assumption); (case B => k_asm); (case F => k_asm); (case X => k_asm); (case N => k_asm); (case hi => omega); (case hx => assumption); (case T => k_asm); (case hk => exact rfl); (case hcd => assumption); (case hdp => ktr_room); (case hun => ktr_units); k_whole); intro tv' h' tk' tp' cc' kl' F' N'))
set_option genSizeOf false in
set_option genInjectivity false in
/-- what a turn leaves -/
structure TS where
  (h : Heap) (tk : Nat) (m : Str → Option Value) (tp : Tok) (cc : Nat) (kl tt : Tok) (tv : Array Nat)
set_option maxRecDepth 100000 in
set_option maxHeartbeats 4000000 in
theorem tok_spec (w : World) (x : Str) (P : LP) (R : ReadOk w x P)
    (i : Nat) (tp : Tok) (cc : Nat) (ln : Int) (kl : Tok) (cst : List (Addr × Obj))
    (hord : OrdP P) (hoff : OwnOff cst [P.pl, P.ld]) (inp wd rest : List Nat) (ln' : Int) (hin : x.cps.toList.drop i = inp) (hi : i + inp.length ≤ 150000) (htok : TokA inp ln wd rest ln') :
    Spec2c w 20 100 83 [.ref P.lx] (fun h => CodeHd h 199 195) (LX w P i tp cc ln kl cst)
      (fun r nx => ∃ t i' tp' cc' kl', r = .str ⟨wd.toArray⟩ t ∧ nx = LX w P i' tp' cc' ln' kl' cst ∧ x.cps.toList.drop i' = rest ∧ i' ≤ i + inp.length + 1) := by
  w_top off
  unfold Spec2c PRG KK
  k_fill
  intro p loose mean mg mb dp un gd cn cs a ccd cl outer A₀ base h₀ L m s Q E B F X N T hk hcd hdp hun hret
  cases cs
  cases hk
  have kM : KdMark := kdMark
  k_dflt k_enter
  rename Fr h₀ L _ m => FG
  have hcd' := hcd.keeps FG.keep
  k_steps
  rename News _ _ _ _ => N1
  rename Fr _ _ _ (fun y => _) => F1
  rename_i names isg isc more g' L' h1 B1 X1 T1 tk1 h2 q h3 l1 it h4 l2 h5
  have hO : LexOrd P it q := ⟨hord, l1.2.2.2.2.2.1, l2.1⟩
  have hal : AllLt it cst := by first | exact l2.2.2.2.2.2.2.2.2.2.2.2 | exact l2.2.2.2.2.2.2.2.2.2.2
  obtain ⟨tq, N1⟩ : ∃ tq, News g' L' h5 ((it, citObj (.ref q) (.str "" tq) false) :: (q, methodObj (.ref 76) (.ref P.lx)) :: LX w P i tp cc ln kl cst) := ⟨_, N1⟩
  refine pick (σ := List Nat × Nat × Int)
    (fun st s' => ∃ c : TS, s' = { s with heap := c.h, toks := c.tk } ∧ Fr g' L' c.h c.m ∧ c.m "self" = some (.ref P.lx) ∧ c.m "token" = some (.str "" c.tt) ∧ c.m "fiter" = some (.ref it) ∧
      News g' L' c.h ((it, citObj (.ref q) (.str "" tq) false) :: (q, methodObj (.ref 76) (.ref P.lx)) :: LX w P st.2.1 c.tp c.cc st.2.2 c.kl cst) ∧
      x.cps.toList.drop st.2.1 = st.1 ∧ st.2.1 + st.1.length = i + inp.length ∧ TokA st.1 st.2.2 wd rest ln') fun St hS1 hS2 => ?_
  refine for_recT St (fun st => st.1.length) ?turn (inp, i, ln) _ (hS2 _ _ ⟨⟨_, _, _, _, _, _, _, #[]⟩, rfl, F1, rfl, rfl, rfl, N1, hin, rfl, htok⟩)
  rintro hJ0 s1 hJ1 TP hTr hTg NP hNP _
  refine hide fun P0 hP0 => ?_
  obtain ⟨inp1, i1, ln1⟩ := hJ0
  obtain ⟨⟨h, tk, m1, tp1, cc1, kl1, tt, _⟩, rfl, F2, e1, e2, e3, N2, hd1, hl1, ht1⟩ := hS1 _ _ hJ1
  dsimp only at F2 e1 e2 e3 N2 hd1 hl1 ht1 hP0 ⊢
  refine hP0 ?_
  clear hP0 P0
  refine next_K R hO hoff hal (by omega) B1 F2 X1 N2 T1 rfl hcd' (by ktr_room) (by ktr_units) ?_ ?_
  · intro d tv h' tk' tp' cc' kl' hx F3 N3
    have F4 := fr_put3 F3 e1 e2 e3
    clear F3 F2 N2 F1 N1 FG
    refine wpAny_assign_Name ?_
    cases ht1 with
    | @skip c0 r _ _ _ _ hws ht =>
      refine hide fun P0 hP0 => ?_
      obtain ⟨hc, hr⟩ := at_of_drop hd1
      rw [hx] at hc
      cases hc
      have g1 := ws_yes hws
      refine hP0 ?_
      clear hP0 P0
      k_steps
      rename News _ _ _ _ => N4
      rename Fr _ _ _ (fun y => _) => F5
      refine hTg _ (r, i1 + 1, ln1 + if d = 10 then 1 else 0) _ (by simp) (Nat.lt_succ_self _) (hS2 _ _ ⟨⟨_, _, _, _, _, _, _, #[]⟩, rfl, F5, rfl, rfl, rfl, N4, hr, ?_, ht⟩)
      simp only [List.length_cons] at hl1 ⊢
      omega
    | @quote cs rest0 _ hcs =>
      refine hide fun P0 hP0 => ?_
      obtain ⟨hc, hr2⟩ := at_of_drop hd1
      have hd : d = 34 := by rw [hx] at hc; exact Option.some.inj hc
      have g1 := ws_no (show ¬ isWs d from hd ▸ not_ws (.inl rfl))
      have g2 : ((⟨#[d]⟩ : PySem.Str) == "\"") = true := hd ▸ q_yes
      have hln : (ln' + if d = 10 then (1 : Int) else 0) = ln' := by rw [hd]; simp
      rw [hln] at N3
      have hwd : wd.length ≤ 150000 := by
        simp only [List.length_append, List.length_cons] at hl1
        omega
      refine hP0 ?_
      clear hP0 P0
      k_steps
      rename News _ _ _ _ => N4
      rename Fr _ _ _ (fun y => _) => F5
      refine pick (σ := List Nat × Nat)
        (fun st s' => ∃ c : TS, s' = { s with heap := c.h, toks := c.tk } ∧ Fr g' L' c.h c.m ∧ c.m "self" = some (.ref P.lx) ∧ c.m "token" = some (.str ⟨c.tv⟩ c.tt) ∧ c.m "fiter" = some (.ref it) ∧
          News g' L' c.h ((it, citObj (.ref q) (.str "" tq) false) :: (q, methodObj (.ref 76) (.ref P.lx)) :: LX w P st.2 c.tp c.cc ln' c.kl cst) ∧
          x.cps.toList.drop st.2 = st.1 ++ 34 :: rest ∧ (∀ c ∈ st.1, plainC c) ∧ c.tv.toList ++ st.1 = wd ∧ st.2 + st.1.length + 1 + rest.length = i + inp.length) fun St2 hS3 hS4 => ?_
      refine for_recT St2 (fun st => st.1.length) ?_ (wd, i1 + 1) _ (hS4 _ _ ⟨⟨_, _, _, _, _, _, _, #[]⟩, rfl, F5, rfl, rfl, rfl, N4, hr2, hcs, rfl, ?_⟩)
      · clear F5 N4
        rintro hJ0 s2 hJ1 TP2 hTr2 hTg2 NP2 hNP2 _
        refine hide fun P0 hP0 => ?_
        obtain ⟨cs1, i2⟩ := hJ0
        obtain ⟨⟨h, tk, m2, tp2, cc2, kl2, tt2, tv⟩, rfl, F6, e1, e2, e3, N6, hd2, hp2, hw2, hl2⟩ := hS3 _ _ hJ1
        dsimp only at F6 e1 e2 e3 N6 hd2 hp2 hw2 hl2 hP0 ⊢
        have hz : (⟨tv⟩ : PySem.Str).length ≤ 150000 := by
          have := congrArg List.length hw2
          simp only [List.length_append, Array.length_toList] at this
          show tv.size ≤ 150000
          omega
        refine hP0 ?_
        clear hP0 P0
        refine next_K R hO hoff hal (by omega) B1 F6 X1 N6 T1 rfl hcd' (by ktr_room) (by ktr_units) ?_ ?_
        · intro d2 tv2 h' tk' tp' cc' kl' hx2 F7 N7
          have F8 := fr_put3 F7 e1 e2 e3
          clear F7 F6 N6
          refine wpAny_assign_Name ?_
          cases cs1 with
          | nil =>
            refine hide fun P0 hP0 => ?_
            obtain ⟨hc2, hr3⟩ := at_of_drop hd2
            have hd2 : d2 = 34 := by rw [hx2] at hc2; exact Option.some.inj hc2
            have hln2 : (ln' + if d2 = 10 then (1 : Int) else 0) = ln' := by rw [hd2, if_neg (by decide), Int.add_zero]
            rw [hln2] at N7
            have g4 : ((⟨#[d2]⟩ : PySem.Str) == "\"") = true := hd2 ▸ q_yes
            refine hP0 ?_
            clear hP0 P0
            k_steps
            refine hTr2 _ _ ?_
            dsimp only
            refine hTr _ _ ?_
            dsimp only
            k_steps
            rename News _ _ _ _ => kN
            rename Fr h₀ L _ m => kF
            refine hret _ _ _ _ kF (fun p hp => kN p (.tail _ (.tail _ hp))) ⟨tt2, i2 + 1, tp', cc', kl', ?_, rfl, hr3, ?_⟩
            · have hw3 : tv.toList = wd := by simpa using hw2
              rw [← hw3]
            · simp only [List.length_nil] at hl2
              omega
          | cons c2 cs2 =>
            refine hide fun P0 hP0 => ?_
            obtain ⟨hc2, hr3⟩ := at_of_drop hd2
            have hd2 : d2 = c2 := by rw [hx2] at hc2; exact Option.some.inj hc2
            subst hd2
            have hpl := hp2 d2 (.head _)
            have hln2 : (ln' + if d2 = 10 then (1 : Int) else 0) = ln' := by rw [if_neg (fun z => hpl.2.2 (.inl z)), Int.add_zero]
            rw [hln2] at N7
            have g4 := ws_no hpl.2.2
            have g5 := q_no hpl.1
            have g6 := b_no hpl.2.1
            refine hP0 ?_
            clear hP0 P0
            k_steps
            rename News _ _ _ _ => N9
            rename Fr _ _ _ (fun y => _) => F9
            dsimp only
            refine hTg2 _ (cs2, i2 + 1) _ (by simp) (Nat.lt_succ_self _) (hS4 _ _ ⟨⟨_, _, _, _, _, _, _, tv ++ #[d2]⟩, rfl, F9, rfl, rfl, rfl, N9, hr3, fun c hc => hp2 c (.tail _ hc), ?_, ?_⟩)
            · rw [← hw2]; simp
            · simp only [List.length_cons] at hl2 ⊢
              omega
        · intro hx2
          exfalso
          cases cs1 with
          | nil => rw [(at_of_drop hd2).1] at hx2; cases hx2
          | cons c2 cs2 => rw [(at_of_drop hd2).1] at hx2; cases hx2
      · simp only [List.length_append, List.length_cons] at hl1 ⊢
        omega
    | @esc c0 d0 cs rest0 _ h1 h2 h3 h4 =>
      refine hide fun P0 hP0 => ?_
      obtain ⟨hc, hr1⟩ := at_of_drop hd1
      have hd : d = 92 := by rw [hx] at hc; exact Option.some.inj hc
      obtain ⟨hx1, hr2⟩ := at_of_drop hr1
      have g1 := ws_no (show ¬ isWs d from hd ▸ not_ws (.inr rfl))
      have g2 := q_no (show d ≠ 34 by rw [hd]; decide)
      have g3 : ((⟨#[d]⟩ : PySem.Str) == "\\") = true := hd ▸ b_yes
      have hln : (ln' + if d = 10 then (1 : Int) else 0) = ln' := by rw [hd]; simp
      rw [hln] at N3
      have hwd : (c0 :: cs).length ≤ 150000 := by
        simp only [List.length_append, List.length_cons] at hl1 ⊢
        omega
      have hi1 : i1 + 1 ≤ 200000 := by omega
      refine hP0 ?_
      clear hP0 P0
      k_steps
      have hln3 : (ln' + if c0 = 10 then (1 : Int) else 0) = ln' := by rw [if_neg h1, Int.add_zero]
      rename News _ _ _ _ => N3b
      rw [hln3] at N3b
      rename News _ _ _ _ => N4
      rename Fr _ _ _ (fun y => _) => F5
      refine pick (σ := List Nat × Nat)
        (fun st s' => ∃ c : TS, s' = { s with heap := c.h, toks := c.tk } ∧ Fr g' L' c.h c.m ∧ c.m "self" = some (.ref P.lx) ∧ c.m "token" = some (.str ⟨c.tv⟩ c.tt) ∧ c.m "fiter" = some (.ref it) ∧
          News g' L' c.h ((it, citObj (.ref q) (.str "" tq) false) :: (q, methodObj (.ref 76) (.ref P.lx)) :: LX w P st.2 c.tp c.cc ln' c.kl cst) ∧
          x.cps.toList.drop st.2 = st.1 ++ d0 :: rest ∧ (∀ c ∈ st.1, plainC c) ∧ c.tv.toList ++ st.1 = (c0 :: cs) ∧ st.2 + st.1.length + 1 + rest.length = i + inp.length) fun St2 hS3 hS4 => ?_
      refine for_recT St2 (fun st => st.1.length) ?_ (cs, i1 + 1 + 1) _ (hS4 _ _ ⟨⟨_, _, _, _, _, _, _, #[c0]⟩, rfl, F5, rfl, rfl, rfl, N4, hr2, h2, rfl, ?_⟩)
      · clear F5 N4
        rintro hJ0 s2 hJ1 TP2 hTr2 hTg2 NP2 hNP2 _
        refine hide fun P0 hP0 => ?_
        obtain ⟨cs1, i2⟩ := hJ0
        obtain ⟨⟨h, tk, m2, tp2, cc2, kl2, tt2, tv⟩, rfl, F6, e1, e2, e3, N6, hd2, hp2, hw2, hl2⟩ := hS3 _ _ hJ1
        dsimp only at F6 e1 e2 e3 N6 hd2 hp2 hw2 hl2 hP0 ⊢
        have hz : (⟨tv⟩ : PySem.Str).length ≤ 150000 := by
          have := congrArg List.length hw2
          simp only [List.length_append, Array.length_toList] at this
          show tv.size ≤ 150000
          omega
        refine hP0 ?_
        clear hP0 P0
        refine next_K R hO hoff hal (by omega) B1 F6 X1 N6 T1 rfl hcd' (by ktr_room) (by ktr_units) ?_ ?_
        · intro d2 tv2 h' tk' tp' cc' kl' hx2 F7 N7
          have F8 := fr_put3 F7 e1 e2 e3
          clear F7 F6 N6
          refine wpAny_assign_Name ?_
          cases cs1 with
          | nil =>
            refine hide fun P0 hP0 => ?_
            obtain ⟨hc2, hr3⟩ := at_of_drop hd2
            have hd2 : d2 = d0 := by rw [hx2] at hc2; exact Option.some.inj hc2
            have hln2 : (ln' + if d2 = 10 then (1 : Int) else 0) = ln' := by rw [hd2, if_neg h4, Int.add_zero]
            rw [hln2] at N7
            have g4 := ws_yes (show isWs d2 from hd2 ▸ h3)
            refine hP0 ?_
            clear hP0 P0
            k_steps
            refine hTr2 _ _ ?_
            dsimp only
            refine hTr _ _ ?_
            dsimp only
            k_steps
            rename News _ _ _ _ => kN
            rename Fr h₀ L _ m => kF
            refine hret _ _ _ _ kF (fun p hp => kN p (.tail _ (.tail _ hp))) ⟨tt2, i2 + 1, tp', cc', kl', ?_, rfl, hr3, ?_⟩
            · have hw3 : tv.toList = (c0 :: cs) := by simpa using hw2
              rw [← hw3]
            · simp only [List.length_nil] at hl2
              omega
          | cons c2 cs2 =>
            refine hide fun P0 hP0 => ?_
            obtain ⟨hc2, hr3⟩ := at_of_drop hd2
            have hd2 : d2 = c2 := by rw [hx2] at hc2; exact Option.some.inj hc2
            subst hd2
            have hpl := hp2 d2 (.head _)
            have hln2 : (ln' + if d2 = 10 then (1 : Int) else 0) = ln' := by rw [if_neg (fun z => hpl.2.2 (.inl z)), Int.add_zero]
            rw [hln2] at N7
            have g4 := ws_no hpl.2.2
            have g5 := q_no hpl.1
            have g6 := b_no hpl.2.1
            refine hP0 ?_
            clear hP0 P0
            k_steps
            rename News _ _ _ _ => N9
            rename Fr _ _ _ (fun y => _) => F9
            dsimp only
            refine hTg2 _ (cs2, i2 + 1) _ (by simp) (Nat.lt_succ_self _) (hS4 _ _ ⟨⟨_, _, _, _, _, _, _, tv ++ #[d2]⟩, rfl, F9, rfl, rfl, rfl, N9, hr3, fun c hc => hp2 c (.tail _ hc), ?_, ?_⟩)
            · rw [← hw2]; simp
            · simp only [List.length_cons] at hl2 ⊢
              omega
        · intro hx2
          exfalso
          cases cs1 with
          | nil => rw [(at_of_drop hd2).1] at hx2; cases hx2
          | cons c2 cs2 => rw [(at_of_drop hd2).1] at hx2; cases hx2
      · simp only [List.length_append, List.length_cons] at hl1 ⊢
        omega
    | @word c0 d0 cs rest0 _ h1 h2 h3 h4 =>
      refine hide fun P0 hP0 => ?_
      obtain ⟨hc, hr2⟩ := at_of_drop hd1
      have hd : d = c0 := by rw [hx] at hc; exact Option.some.inj hc
      subst hd
      have g1 := ws_no h1.2.2
      have g2 := q_no h1.1
      have g3 := b_no h1.2.1
      have hln : (ln' + if d = 10 then (1 : Int) else 0) = ln' := by rw [if_neg (fun z => h1.2.2 (.inl z)), Int.add_zero]
      rw [hln] at N3
      have hwd : (d :: cs).length ≤ 150000 := by
        simp only [List.length_append, List.length_cons] at hl1 ⊢
        omega
      refine hP0 ?_
      clear hP0 P0
      k_steps
      rename News _ _ _ _ => N4
      rename Fr _ _ _ (fun y => _) => F5
      refine pick (σ := List Nat × Nat)
        (fun st s' => ∃ c : TS, s' = { s with heap := c.h, toks := c.tk } ∧ Fr g' L' c.h c.m ∧ c.m "self" = some (.ref P.lx) ∧ c.m "token" = some (.str ⟨c.tv⟩ c.tt) ∧ c.m "fiter" = some (.ref it) ∧
          News g' L' c.h ((it, citObj (.ref q) (.str "" tq) false) :: (q, methodObj (.ref 76) (.ref P.lx)) :: LX w P st.2 c.tp c.cc ln' c.kl cst) ∧
          x.cps.toList.drop st.2 = st.1 ++ d0 :: rest ∧ (∀ c ∈ st.1, plainC c) ∧ c.tv.toList ++ st.1 = (d :: cs) ∧ st.2 + st.1.length + 1 + rest.length = i + inp.length) fun St2 hS3 hS4 => ?_
      refine for_recT St2 (fun st => st.1.length) ?_ (cs, i1 + 1) _ (hS4 _ _ ⟨⟨_, _, _, _, _, _, _, #[d]⟩, rfl, F5, rfl, rfl, rfl, N4, hr2, h2, rfl, ?_⟩)
      · clear F5 N4
        rintro hJ0 s2 hJ1 TP2 hTr2 hTg2 NP2 hNP2 _
        refine hide fun P0 hP0 => ?_
        obtain ⟨cs1, i2⟩ := hJ0
        obtain ⟨⟨h, tk, m2, tp2, cc2, kl2, tt2, tv⟩, rfl, F6, e1, e2, e3, N6, hd2, hp2, hw2, hl2⟩ := hS3 _ _ hJ1
        dsimp only at F6 e1 e2 e3 N6 hd2 hp2 hw2 hl2 hP0 ⊢
        have hz : (⟨tv⟩ : PySem.Str).length ≤ 150000 := by
          have := congrArg List.length hw2
          simp only [List.length_append, Array.length_toList] at this
          show tv.size ≤ 150000
          omega
        refine hP0 ?_
        clear hP0 P0
        refine next_K R hO hoff hal (by omega) B1 F6 X1 N6 T1 rfl hcd' (by ktr_room) (by ktr_units) ?_ ?_
        · intro d2 tv2 h' tk' tp' cc' kl' hx2 F7 N7
          have F8 := fr_put3 F7 e1 e2 e3
          clear F7 F6 N6
          refine wpAny_assign_Name ?_
          cases cs1 with
          | nil =>
            refine hide fun P0 hP0 => ?_
            obtain ⟨hc2, hr3⟩ := at_of_drop hd2
            have hd2 : d2 = d0 := by rw [hx2] at hc2; exact Option.some.inj hc2
            have hln2 : (ln' + if d2 = 10 then (1 : Int) else 0) = ln' := by rw [hd2, if_neg h4, Int.add_zero]
            rw [hln2] at N7
            have g4 := ws_yes (show isWs d2 from hd2 ▸ h3)
            refine hP0 ?_
            clear hP0 P0
            k_steps
            refine hTr2 _ _ ?_
            dsimp only
            refine hTr _ _ ?_
            dsimp only
            k_steps
            rename News _ _ _ _ => kN
            rename Fr h₀ L _ m => kF
            refine hret _ _ _ _ kF (fun p hp => kN p (.tail _ (.tail _ hp))) ⟨tt2, i2 + 1, tp', cc', kl', ?_, rfl, hr3, ?_⟩
            · have hw3 : tv.toList = (d :: cs) := by simpa using hw2
              rw [← hw3]
            · simp only [List.length_nil] at hl2
              omega
          | cons c2 cs2 =>
            refine hide fun P0 hP0 => ?_
            obtain ⟨hc2, hr3⟩ := at_of_drop hd2
            have hd2 : d2 = c2 := by rw [hx2] at hc2; exact Option.some.inj hc2
            subst hd2
            have hpl := hp2 d2 (.head _)
            have hln2 : (ln' + if d2 = 10 then (1 : Int) else 0) = ln' := by rw [if_neg (fun z => hpl.2.2 (.inl z)), Int.add_zero]
            rw [hln2] at N7
            have g4 := ws_no hpl.2.2
            have g5 := q_no hpl.1
            have g6 := b_no hpl.2.1
            refine hP0 ?_
            clear hP0 P0
            k_steps
            rename News _ _ _ _ => N9
            rename Fr _ _ _ (fun y => _) => F9
            dsimp only
            refine hTg2 _ (cs2, i2 + 1) _ (by simp) (Nat.lt_succ_self _) (hS4 _ _ ⟨⟨_, _, _, _, _, _, _, tv ++ #[d2]⟩, rfl, F9, rfl, rfl, rfl, N9, hr3, fun c hc => hp2 c (.tail _ hc), ?_, ?_⟩)
            · rw [← hw2]; simp
            · simp only [List.length_cons] at hl2 ⊢
              omega
        · intro hx2
          exfalso
          cases cs1 with
          | nil => rw [(at_of_drop hd2).1] at hx2; cases hx2
          | cons c2 cs2 => rw [(at_of_drop hd2).1] at hx2; cases hx2
      · simp only [List.length_append, List.length_cons] at hl1 ⊢
        omega
    | eof =>
      obtain ⟨hc, hr⟩ := at_of_nil hd1
      rw [hx] at hc
      cases hc
  · intro hx h' tk' tp' cc' kl' F3 N3
    have F4 := fr_put3 F3 e1 e2 e3
    clear F3 F2 N2 F1 N1 FG
    dsimp only
    cases ht1 with
    | eof =>
      refine hNP _ ?_
      dsimp only
      k_steps
      rename News _ _ _ _ => kN
      rename Fr h₀ L _ m => kF
      refine hret _ _ _ _ kF kN ⟨tt, i1 + 1, tp', cc', kl', ?_, rfl, (at_of_nil hd1).2, ?_⟩
      · rw [show (PySem.Str.ofString "") = ⟨#[]⟩ from by decide +kernel]
      · simp only [List.length_nil] at hl1
        omega
    | skip _ _ => rw [(at_of_drop hd1).1] at hx; cases hx
    | quote _ => rw [(at_of_drop hd1).1] at hx; cases hx
    | esc _ _ _ _ => rw [(at_of_drop hd1).1] at hx; cases hx
    | word _ _ _ _ => rw [(at_of_drop hd1).1] at hx; cases hx
end
end
-- PART-END Tok

section
open PySem PySem.W PyProof.Rows
section
local macro_rules | `(tactic| walk_at "exec For") => `(tactic| (k_here; (refine exec_for ?_ (by intro _; rfl))))

local macro_rules | `(tactic| walk_at "execs cons") => `(tactic| walk_at "my For")
local macro_rules | `(tactic| walk_at "execs cons For") => `(tactic| walk_at "my For")
local macro_rules | `(tactic| walk_at "execs cons For cons") => `(tactic| walk_at "my For")
local macro_rules | `(tactic| walk_at "call ref") => `(tactic| (k_here; (with_reducible show wpAny _ _ (call (Value.ref 200) _) _ _ _); refine held ?_))
local macro_rules | `(tactic| walk_at "call ref") => `(tactic| (k_here; (with_reducible show wpAny _ _ (call (Value.ref 83) _) _ _ _); refine held ?_))

/-- the words of a text, one after the other, and the rows where they end -/
inductive TokN : Nat → List Nat → Int → List (List Nat × Int) → Prop
  | nil {inp : List Nat} {ln : Int} : TokN 0 inp ln []
  | cons {n : Nat} {inp wd rest : List Nat} {ln ln' : Int} {out : List (List Nat × Int)} : TokA inp ln wd rest ln' → TokN n rest ln' out → TokN (n + 1) inp ln ((wd, ln') :: out)

def wordD (p : List Nat × Int) : Dat := .tuple [.str ⟨p.1.toArray⟩, .int p.2]

set_option maxRecDepth 100000 in
set_option maxHeartbeats 4000000 in
theorem words_spec (w : World) (x : Str) (t tn : Tok) (n : Nat) (news : List (Addr × Obj)) (hx : x.cps.size ≤ 90000) (hn : n ≤ 100) (out : List (List Nat × Int)) (htok : TokN n x.cps.toList 1 out) (h195 : OwnOff news [195]) :
    Spec2c w 40 200 207 [.str x t, .int (n : Nat) tn] (fun h => CodeHd h 199 195) ((195, tabObj #[]) :: news)
      (fun r nx => ∃ tl us cu tups ts, r = .ref tl ∧ nx = (tl, W.listOf us.toArray cu) :: (tups ++ ((195, tabObj ts) :: news)) ∧ DatAll tups us (out.map wordD) ∧ AllLt tl ((195, tabObj ts) :: news) ∧ (∀ p ∈ tups, @LT.lt Nat _ tl p.1)) := by
  w_top off
  unfold Spec2c PRG KK
  k_fill
  intro p loose mean mg mb dp un gd cn cs a ccd cl outer A₀ base h₀ L m s Q E B F X N T hk hcd hdp hun hret
  cases cs
  cases hk
  have kM : KdMark := kdMark
  k_dflt k_enter
  rename Fr h₀ L _ m => FG
  have hcd' := hcd.keeps FG.keep
  k_steps
  unfold Held
  rename News _ _ _ _ => N1
  rename Fr _ _ _ (fun y => _) => F1
  rename Below _ _ _ _ => B1
  rename Frag.In _ _ => X1
  rename Top _ _ _ _ _ _ => T1
  refine lexer_spec w news x t (by omega) h195 _ _ _ _ _ _ _ _ _ _ _ _ _ _ _ _ _ _ _ _ _ _ B1 F1 X1 N1 T1 rfl hcd' (by ktr_room) (by ktr_units) ?_
  clear F1 N1
  rintro r nx h1 tk1 F1 N1 hJ0
  refine hide fun P0 hP0 => ?_
  obtain ⟨P, kl, ts, tp, rfl, rfl, hord, hR⟩ := hJ0
  refine hP0 ?_
  clear hP0 P0
  k_steps
  rename News _ _ _ _ => N2
  rename Fr _ _ _ (fun y => _) => F2
  rename IsRange _ _ _ _ _ _ _ _ => R2
  rename_i names isg isc more g' L' h1b h2b tl h3 l1 h4 F2b N2b h6 tk6 t1 t2 t3 a6
  clear N2b F2b
  obtain ⟨hord0, hord⟩ := hord
  have o1 := OrdP.pls hord
  have o2 := OrdP.lds hord
  have o3 : @LT.lt Nat _ P.pb tl ∧ @LT.lt Nat _ P.lx tl ∧ @LT.lt Nat _ P.ld tl ∧ @LT.lt Nat _ P.sx tl ∧ @LT.lt Nat _ P.sd tl ∧ @LT.lt Nat _ P.f tl ∧ @LT.lt Nat _ P.c tl ∧ @LT.lt Nat _ P.pl tl ∧ @LT.lt Nat _ P.cp tl ∧ @LT.lt Nat _ P.ct tl := ⟨l1.1, l1.2.1, l1.2.2.1, l1.2.2.2.2.1, l1.2.2.2.2.2.1, l1.2.2.2.2.2.2.1, l1.2.2.2.2.2.2.2.1, l1.2.2.2.2.2.2.2.2.1, l1.2.2.2.2.2.2.2.2.2.1, l1.2.2.2.2.2.2.2.2.2.2.1⟩
  refine for_rangeT (n := n) (fun i m nx => m "lexer" = some (.ref P.lx) ∧ m "told" = some (.ref tl) ∧ ∃ us cu tups p tp cc ln kl inp,
      nx = (tl, W.listOf us.toArray cu) :: LX w P p tp cc ln kl (tups ++ ((P.pb2, W.listOf #[] 0) :: (195, tabObj ts) :: news)) ∧
      DatAll tups us ((out.take i).map wordD) ∧ TokN (n - i) inp ln (out.drop i) ∧ x.cps.toList.drop p = inp ∧ p ≤ x.cps.size + i ∧ (∀ p ∈ tups, @LT.lt Nat _ tl p.1))
    (news := (tl, W.listOf [].toArray 0) :: LX w P 0 tp 0 1 kl ([] ++ ((P.pb2, W.listOf #[] 0) :: (195, tabObj ts) :: news)))
    rfl F2 ?N R2 ?small ?size ?j ?turn ?done
  case N => exact news_resh [0, 9, 3, 2, 5, 6, 1, 7, 8, 10, 11, 4, 12] 12 N2
  case small => exact small_one (by omega) (by omega) (by omega) (by omega)
  case size => exact rangeSize_nat _ _
  case j => exact ⟨rfl, rfl, [], 0, [], 0, tp, 0, 1, kl, x.cps.toList, rfl, .nil, htok, rfl, Nat.zero_le _, fun _ hp => nomatch hp⟩
  case turn =>
    rintro i m₁ nx h tk tv I oI hi hJ0 hnI hlt F3 N3 TP hTP
    refine hide fun P0 hP0 => ?_
    obtain ⟨e1, e2, us, cu, tups, p1, tp1, cc1, ln1, kl1, inp, rfl, hD, hT, hd, hp, ho⟩ := hJ0
    have F4 := fr_put2 F3 e1 e2
    clear F2 F3 N2
    have htlI : @LT.lt Nat _ tl I := hlt _ (.head _)
    have o4 := all_up o3 htlI
    refine hP0 ?_
    clear hP0 P0
    refine wpAny_assign_Name ?_
    k_steps
    unfold Held
    rename News _ _ _ _ => N4
    rename Fr _ _ _ (fun y => _) => F5
    obtain ⟨k9, hk9⟩ : ∃ k, n - i = k + 1 := ⟨n - i - 1, by omega⟩
    rw [hk9] at hT
    generalize hod : out.drop i = od at hT
    cases hT with
    | @cons _ _ wd rest _ ln2 out2 hA hN =>
    have hio : i < out.length := by
      apply Nat.lt_of_not_le
      intro hle
      rw [List.drop_of_length_le hle] at hod
      cases hod
    have hoi : out[i] = (wd, ln2) := by
      have h9 := List.drop_eq_getElem_cons hio
      rw [hod] at h9
      exact ((List.cons.inj h9).1).symm
    have hod2 : out.drop (i + 1) = out2 := by
      have h9 := List.drop_eq_getElem_cons hio
      rw [hod] at h9
      exact ((List.cons.inj h9).2).symm
    have hinp : inp.length = x.cps.size - p1 := by rw [← hd, List.length_drop, Array.length_toList]
    have hlen : us.length = i := by
      have := hD.length
      simp only [List.length_map, List.length_take] at this
      omega
    have hot : OwnOff tups [tl] := fun p hp b hb => by rw [List.mem_singleton.mp hb]; exact Nat.ne_of_gt (ho p hp)
    refine wpAny_call (tok_spec w x P hR p1 tp1 cc1 ln1 kl1 ((I, oI) :: (tl, W.listOf us.toArray cu) :: (tups ++ ((P.pb2, W.listOf #[] 0) :: (195, tabObj ts) :: news))) hord ?_ inp wd rest ln2 hd (by omega) hA _ _ _ _ _ _ _ _ _ _ _ _ _ _ _ _ _ _ _ _ _ _ B1 F5 X1 (news_resh [2, 3, 4, 5, 6, 7, 8, 9, 10, 11, 0, 1] 11 N4) T1 rfl hcd' (by ktr_room) (by ktr_units) ?_)
    · intro p hp b hb
      have hb' : b = P.pl ∨ b = P.ld := by simpa using hb
      have hpl : @LT.lt Nat _ P.pl tl ∧ @LT.lt Nat _ P.ld tl := ⟨l1.2.2.2.2.2.2.2.2.1, l1.2.2.1⟩
      have hbt : @LT.lt Nat _ b tl := by rcases hb' with rfl | rfl; exact hpl.1; exact hpl.2
      have hcb : @LT.lt Nat _ P.ct b ∧ @Ne Nat P.pb2 b := by
        rcases hb' with rfl | rfl
        · refine ⟨by omega, by omega⟩
        · refine ⟨by omega, by omega⟩
      rcases List.mem_cons.mp hp with rfl | hp
      · exact Nat.ne_of_gt (Nat.lt_trans hbt htlI)
      · rcases List.mem_cons.mp hp with rfl | hp
        · exact Nat.ne_of_gt hbt
        · rcases List.mem_append.mp hp with hp | hp
          · exact Nat.ne_of_gt (Nat.lt_trans hbt (ho p hp))
          · rcases List.mem_cons.mp hp with rfl | hp
            · exact hcb.2
            · exact Nat.ne_of_lt (Nat.lt_trans (tb_ltOf hord0 p hp) hcb.1)
    · rintro r nx h7 tk7 F6 N6 ⟨tv7, p2, tp2, cc2, kl2, rfl, rfl, hd2, hp2⟩
      have N7 : News g' L' h7 ((I, oI) :: (tl, W.listOf us.toArray cu) :: LX w P p2 tp2 cc2 ln2 kl2 (tups ++ ((P.pb2, W.listOf #[] 0) :: (195, tabObj ts) :: news))) :=
        news_resh [10, 11, 0, 1, 2, 3, 4, 5, 6, 7, 8, 9] 11 N6
      clear N6 N4 N3
      have hsz : us.toArray.size ≤ sizeLine := by rw [List.size_toArray, hlen, sizeLine_eq]; omega
      k_steps
      rename News _ _ _ _ => N8
      rename Fr _ _ _ (fun y => _) => F8
      rename_i h8 h9 T8 h10 l8 h11
      simp only [List.push_toArray] at N8
      have hT8 : AllLt T8 (LX w P p2 tp2 cc2 ln2 kl2 (tups ++ ((P.pb2, W.listOf #[] 0) :: (195, tabObj ts) :: news))) := l8.2.2
      refine hTP _ _ ?_
      refine turn_postX (fun e => (tl, W.listOf (us ++ [Value.ref T8]).toArray (cu + 1)) :: LX w P p2 tp2 cc2 ln2 kl2 ((e :: tups) ++ ((P.pb2, W.listOf #[] 0) :: (195, tabObj ts) :: news))) F8 N8 ?_ ?_ ?_
      · exact mem_resh2 [1, 2, 3, 4, 5, 6, 7, 8, 9, 10, 11, 12, 0] 12 rfl
      · intro p hp
        have hIT : @LT.lt Nat _ I T8 := l8.1
        simp only [List.mem_cons, List.mem_append, List.cons_append] at hp
        by_cases hpT : p.1 = T8
        · rw [hpT]; exact Nat.ne_of_gt hIT
        · rcases hp with rfl | rfl | rfl | rfl | rfl | rfl | rfl | rfl | rfl | rfl | rfl | rfl | hp | hp
          all_goals first
            | exact absurd rfl hpT
            | (refine neN ?_; dsimp only; omega)
            | exact hnI p (.tail _ (lx_tail (List.mem_append_left _ hp)))
            | exact hnI p (.tail _ (lx_tail (List.mem_append_right _ (by simpa only [List.mem_cons] using hp))))
      · refine ⟨rfl, rfl, us ++ [Value.ref T8], cu + 1, _ :: tups, p2, tp2, cc2, ln2, kl2, rest, rfl, ?_, ?_, hd2, ?_, ?_⟩
        · rw [take_snoc _ _ hio, hoi, List.map_append]
          exact DatAll.append (hD.mono fun p hp => .tail _ hp) (DatAll.one (.tuple (.head _) (.cons (.str _ _) (.cons (.int _ _) .nil))))
        · have e9 : n - (i + 1) = k9 := by omega
          rw [e9, hod2]; exact hN
        · omega
        · intro p hp
          rcases List.mem_cons.mp hp with rfl | hp
          · exact l8.2.1
          · exact ho p hp
  case done =>
    rintro m₁ nx h tk hJ0 F3 N3
    refine hide fun P0 hP0 => ?_
    obtain ⟨e1, e2, us, cu, tups, p1, tp1, cc1, ln1, kl1, inp, rfl, hD, hT, hd, hp, ho⟩ := hJ0
    have F4 := fr_put2 F3 e1 e2
    clear F2 F3 N2
    refine hP0 ?_
    clear hP0 P0
    dsimp only
    k_steps
    rename News _ _ _ _ => kN
    rename Fr h₀ L _ m => kF
    have hall : out.take n = out := List.take_of_length_le (by
      rw [Nat.sub_self] at hT
      generalize hod : out.drop n = od at hT
      cases hT
      exact List.drop_eq_nil_iff.mp hod)
    rw [hall] at hD
    refine hret _ _ _ _ kF (fun p hp => kN p ?_) ⟨tl, us, cu, tups, ts, rfl, rfl, hD, ⟨l1.2.2.2.2.2.2.2.2.2.2.2.1, l1.2.2.2.2.2.2.2.2.2.2.2.2⟩, ho⟩
    cases hp with
    | head => exact .head _
    | tail _ hp =>
      refine .tail _ (lx_tail ?_)
      rcases List.mem_append.mp hp with hp | hp
      · exact List.mem_append_left _ hp
      · exact List.mem_append_right _ (.tail _ hp)
end
end
-- PART-END Words

section
open PySem PySem.W PyProof.Rows
section

section
variable {prog : Program} {w : World} {A : Around} {E : Value → Shared → Prop} {s : Shared} {h₀ : Heap} {L l : Addr} {news : List (Addr × Obj)}
theorem item_val {value slice : PySem.Expr} {us : List Value} {n : Nat} {k : Int} {u : Tok} {v : Value} {Q : Value → Shared → Prop} (N : News h₀ L s.heap news) (hm : (l, W.listOf us.toArray n) ∈ news) (h0 : 0 ≤ k) (hfit : k < 2 ^ 63) (hv : us[k.toNat]? = some v) (h : Q v s)
    (hs : subscripted slice false (.ref l) (.int k u) = operate [.ref l, .int k u] (getItem (.ref l) (.int k u)) := by with_unfolding_all rfl) :
    wpAny (model prog w) A (subscriptTail value slice (.ref l) (.int k u)) Q E s := by
  have hL : s.heap.IsList l us.toArray := ⟨_, (N _ hm).1, rfl, n, rfl⟩
  exact tail_any hL.typeIs slot_list_getitem.lookup (wpAny_getItem_list hL h0 hfit (by simpa using hv) h) hs

theorem len_val {us : List Value} {n k : Nat} {Q : Value → Shared → Prop} (N : News h₀ L s.heap news) (hm : (l, W.listOf us.toArray n) ∈ news) (hk : us.length = k) (hfit : k < 2 ^ 62) (h : ∀ t tk, Q (.int (k : Nat) t) { s with toks := tk }) :
    wpAny (model prog w) A (call (.builtin "len") [.ref l]) Q E s := by
  have hL : s.heap.IsList l us.toArray := ⟨_, (N _ hm).1, rfl, n, rfl⟩
  subst hk
  refine len_list hL (by rw [List.size_toArray]; omega) ?_
  rw [List.size_toArray]
  exact h _ _
theorem add_val {a b : Addr} {us ws : List Value} {n k : Nat} {m : Str → Option Value} {Q : Value → Shared → Prop} (F : Fr h₀ L s.heap m) (N : News h₀ L s.heap news) (ha : (a, W.listOf us.toArray n) ∈ news) (hb : (b, W.listOf ws.toArray k) ∈ news) (hz : us.length + ws.length ≤ 1000)
    (h : ∀ D h', Fr h₀ L h' m → News h₀ L h' ((D, W.listOf (us ++ ws).toArray 0) :: news) → (∀ p ∈ news, p.1 < D) → Q (.ref D) { s with heap := h' }) :
    wpAny (model prog w) A (binaryOp .Add (.ref a) (.ref b)) Q E s := by
  refine add_lists F N (News.isList N ha) (News.isList N hb) (fun h' F' N' => h _ h' F' N' fun p hp => Heap.lt_size (N p hp).1) ?_
  rw [sizeLine_eq]; omega
theorem mul_val {a : Addr} {us : List Value} {n : Nat} {x : Int} {u : Tok} {m : Str → Option Value} {Q : Value → Shared → Prop} (F : Fr h₀ L s.heap m) (N : News h₀ L s.heap news) (ha : (a, W.listOf us.toArray n) ∈ news) (h0 : 0 ≤ x) (h1 : x ≤ 16) (hz : us.length ≤ 16)
    (h : ∀ D h', Fr h₀ L h' m → News h₀ L h' ((D, W.listOf (List.replicate x.toNat us).flatten.toArray 0) :: news) → (∀ p ∈ news, p.1 < D) → Q (.ref D) { s with heap := h' }) :
    wpAny (model prog w) A (binaryOp .Mult (.ref a) (.int x u)) Q E s := by
  refine KMa.mul F N (News.isList N ha) (by omega) (by omega) ?_ rfl h
  have h2 : x.toNat ≤ 16 := by omega
  exact Nat.le_trans (Nat.mul_le_mul hz h2) (by decide)
/-- where the two arms of an `if` meet -/
def Meet (h₀ : Heap) (L : Addr) (m : Str → Option Value) (news : List (Addr × Obj)) (x : Str) (P : Int → Prop) (s : Shared) (f : Flow) (s' : Shared) : Prop :=
  f = .next ∧ ∃ gv tg h tk, s' = { s with heap := h, toks := tk } ∧ P gv ∧ Fr h₀ L h (fun y => if y = x then some (.int gv tg) else m y) ∧ News h₀ L h news
theorem if_meet {c : Prop} [Decidable c] {a : List Stmt} {env : Env} {Q : Flow → Shared → Prop} {m : Str → Option Value} {x : Str} {g : Int} {tg : Tok} (P : Int → Prop)
    (F : Fr h₀ L s.heap m) (N : News h₀ L s.heap news) (hx : m x = some (.int g tg)) (h2 : ¬ c → P g)
    (h1 : c → wpAny (model prog w) A (execs a env) (Meet h₀ L m news x P s) E s) (h3 : ∀ gv tg h tk, P gv → Fr h₀ L h (fun y => if y = x then some (.int gv tg) else m y) → News h₀ L h news → Q .next { s with heap := h, toks := tk }) :
    if decide c = true then wpAny (model prog w) A (execs a env) Q E s else wpAny (model prog w) A (execs [] env) Q E s := by
  by_cases hc : c
  · rw [if_pos (decide_eq_true hc)]
    exact wpAny_mono (h1 hc) (fun f s' h => by obtain ⟨rfl, gv, tg, h, tk, rfl, hP, hF, hN⟩ := h; exact h3 gv tg h tk hP hF hN) fun _ _ e => e
  · rw [if_neg (by rw [decide_eq_true_eq]; exact hc)]
    refine wpAny_execs_nil ?_
    exact h3 g tg s.heap s.toks (h2 hc) (fr_put F hx) N
end

section
variable {h₀ h' : Heap} {L I : Addr} {oI : Obj} {J : (Str → Option Value) → List (Addr × Obj) → Prop} {s : Shared} {Q : Flow → Shared → Prop} {m' : Str → Option Value} {tk : Nat}
theorem turn_post4 (nxf : Addr × Obj → Addr × Obj → Addr × Obj → Addr × Obj → List (Addr × Obj)) {x1 x2 x3 x4 : Addr × Obj} {l : List (Addr × Obj)} (F : Fr h₀ L h' m') (N : News h₀ L h' (x1 :: x2 :: x3 :: x4 :: l)) (sub : ∀ p ∈ (I, oI) :: nxf x1 x2 x3 x4, p ∈ x1 :: x2 :: x3 :: x4 :: l) (hI : ∀ p ∈ nxf x1 x2 x3 x4, p.1 ≠ I) (hJ : J m' (nxf x1 x2 x3 x4)) :
    TurnPost h₀ L I oI J s Q .next { s with heap := h', toks := tk } := turn_post (nxf x1 x2 x3 x4) F N sub hI hJ
end
theorem news_14 {h₀ h : Heap} {L : Addr} {x1 x2 x3 x4 x5 : Addr × Obj} {l : List (Addr × Obj)} (N : News h₀ L h (x1 :: x2 :: x3 :: x4 :: x5 :: l)) : News h₀ L h (x1 :: x4 :: l) :=
  fun p hp => N p (by simp only [List.mem_cons] at hp ⊢; grind)
theorem Tex.eq {y : Str} {l : List Nat} {k : Nat} (h : Tex y l k) : y = ⟨l.toArray⟩ := by
  obtain ⟨c⟩ := y
  obtain ⟨h, _⟩ := h
  simp only at h
  rw [← h]

/-- the words due of a row -/
def dueOf (n k : Nat) (x : Int) : List (List Nat × Int) :=
  [(List.replicate (if x % 1000000 / 32 % 4 = 0 then (1 + x % 1000000 / 8 % 4) + n else (1 + x % 1000000 / 8 % 4)).toNat 46, (k : Int) + 1), (List.replicate (1 + x % 1000000 / 128 % 4).toNat 46, (k : Int) + 1), (namesL (x % 1000000 % 8), (k : Int) + 1)]
def dueFrom (n : Nat) : Nat → List Int → List (List Nat × Int)
  | _, [] => []
  | k, x :: xs => dueOf n k x ++ dueFrom n (k + 1) xs
def dueAll (n : Nat) (xs : List Int) : List (List Nat × Int) := dueFrom n 0 xs ++ [([], (xs.length : Int) + 1), ([], (xs.length : Int) + 1)]
theorem dueFrom_snoc (n : Nat) (x : Int) : ∀ (k : Nat) (xs : List Int), dueFrom n k (xs ++ [x]) = dueFrom n k xs ++ dueOf n (k + xs.length) x
  | k, [] => by simp [dueFrom]
  | k, y :: xs => by
    have h := dueFrom_snoc n x (k + 1) xs
    simp only [List.cons_append, dueFrom, h, List.length_cons, List.append_assoc]
    rw [show k + 1 + xs.length = k + (xs.length + 1) by omega]
theorem dueFrom_len (n : Nat) : ∀ (k : Nat) (xs : List Int), (dueFrom n k xs).length = 3 * xs.length
  | _, [] => rfl
  | k, x :: xs => by
    have h := dueFrom_len n (k + 1) xs
    simp only [dueFrom, List.length_append, h, List.length_cons]
    simp [dueOf]; omega
end
end
local macro_rules | `(tactic| walk_at "my mem") => `(tactic| first | k_memK | (repeat' (first | assumption | refine List.Mem.tail _ ?_)))
local macro_rules | `(tactic| walk_at "my item") => `(tactic| (k_here; (with_reducible show PySem.wpAny _ _ (PyProof.Rows.subscriptTail _ _ (PySem.Value.ref _) (PySem.Value.int _ _)) _ _ _); (with_unfolding_all refine' item_val ?gN ?gm ?ga ?gc ?gv ?_ ?gs; (case gN => k_asm); (case gm => walk_at "my mem"); (case gv => k_asm); (case ga => omega); (case gc => omega); (case gs => with_unfolding_all rfl); k_whole)))
local macro_rules | `(tactic| walk_at "my len") => `(tactic| (k_here; (with_reducible show PySem.wpAny _ _ (PySem.call (PySem.Value.builtin _) [PySem.Value.ref _]) _ _ _); k_dflt (refine' len_val ?gN ?gm ?gk ?gf ?_; (case gN => k_asm); (case gm => walk_at "my mem"); (case gk => k_asm); (case gf => omega); k_whole); intro t' tk'))
-- PART-END DueA

section
open PySem PySem.W PyProof.Rows
section
local macro_rules | `(tactic| walk_at "execs cons") => `(tactic| walk_at "my For")
local macro_rules | `(tactic| walk_at "execs cons For") => `(tactic| walk_at "my For")
local macro_rules | `(tactic| walk_at "execs cons For cons") => `(tactic| walk_at "my For")
local macro_rules | `(tactic| walk_at "subscriptTail") => `(tactic| walk_at "my text")
local macro_rules | `(tactic| walk_at "subscriptTail") => `(tactic| walk_at "my item")
local macro_rules | `(tactic| walk_at "binaryOp Mult str int") => `(tactic| walk_at "my mul")
local macro_rules | `(tactic| walk_at "call builtin:len") => `(tactic| walk_at "my len")
local macro_rules | `(tactic| walk_at "binaryOp Mult ref int") => `(tactic| (k_here; (with_reducible show wpAny _ _ (binaryOp Operator.Mult (Value.ref _) (Value.int _ _)) _ _ _); k_dflt (refine' mul_val ?F ?N ?a ?lo ?hi ?z ?_; (case F => k_asm); (case N => k_asm); (case a => k_memK); (case lo => decide); (case hi => decide); (case z => exact Nat.le_of_ble_eq_true rfl); k_whole); intro D' h' F' N' l1; (try k_lt l1); (try k_sweep)))
local macro_rules | `(tactic| walk_at "binaryOp Add ref ref") => `(tactic| (k_here; (with_reducible show wpAny _ _ (binaryOp Operator.Add (Value.ref _) (Value.ref _)) _ _ _); k_dflt (refine' add_val ?F ?N ?a ?b ?z ?_; (case F => k_asm); (case N => k_asm); (case a => k_memK); (case b => k_memK); (case z => (simp only [Int.reduceToNat, List.replicate_succ, List.replicate_zero, List.flatten_cons, List.flatten_nil, List.length_append, List.length_cons, List.length_nil]; omega)); k_whole); intro D' h' F' N' l1; (try k_lt l1); (try k_sweep)))
local macro_rules | `(tactic| walk_at "ite") => `(tactic| (k_here; refine held ?_))

set_option maxRecDepth 100000 in
set_option maxHeartbeats 4000000 in
theorem due_spec (w : World) (rl : Addr) (vs : List Value) (nn : Nat) (xs : List Int) (n : Nat) (tn : Tok) (news : List (Addr × Obj)) (hm : (rl, W.listOf vs.toArray nn) ∈ news) (hv : DatAll news vs (xs.map rowD)) (hl : xs.length ≤ 8) (hn : n ≤ 3) :
    Spec2c w 40 200 214 [.ref rl, .int (n : Nat) tn] (fun _ => True) news (fun r nx => ∃ tl, nx = tl ++ news ∧ DatIn tl r (.list ((dueAll n xs).map wordD)) ∧ (∀ p ∈ tl, ∀ q ∈ news, @LT.lt Nat _ q.1 p.1)) := by
  w_top off
  unfold Spec2c PRG KK
  k_fill
  intro p loose mean mg mb dp un gd cn cs a ccd cl outer A₀ base h₀ L m s Q E B F X N T hk hcd hdp hun hret
  cases cs
  cases hk
  have kM : KdMark := kdMark
  k_dflt k_enter
  rename Fr h₀ L _ m => FG
  have hvl : vs.length = xs.length := by rw [hv.length, List.length_map]
  k_steps
  rename News _ _ _ _ => N1
  rename Fr _ _ _ (fun y => _) => F1
  rename Below _ _ _ _ => B1
  rename Frag.In _ _ => X1
  rename Top _ _ _ _ _ _ => T1
  rename IsRange _ _ _ _ _ _ _ _ => R1
  rename_i names isg isc more g' L' hA dl hB l1 hC F0 N0 tkA tkB hD tkC t1 t2 t3 a1
  clear N0 F0
  refine for_rangeT (n := xs.length) (fun i m nx => m "due" = some (.ref dl) ∧ m "rows" = some (.ref rl) ∧ m "sendings" = some (.int (n : Nat) tn) ∧
      ∃ us c tl, nx = (dl, W.listOf us.toArray c) :: (tl ++ news) ∧ DatAll tl us ((dueFrom n 0 (xs.take i)).map wordD) ∧ OwnOff tl [dl] ∧ (∀ p ∈ tl, ∀ q ∈ news, @LT.lt Nat _ q.1 p.1) ∧ (∀ p ∈ tl, @LT.lt Nat _ dl p.1))
    (news := (dl, W.listOf [].toArray 0) :: ([] ++ news)) rfl F1 ?N R1 ?small ?size ?j ?turn ?done
  case N => intro p hp; exact N1 p (by simp only [List.mem_cons, List.nil_append] at hp ⊢; grind)
  case small => exact small_one (by omega) (by omega) (by omega) (by omega)
  case size => exact rangeSize_nat _ _
  case j => exact ⟨rfl, rfl, rfl, [], 0, [], rfl, .nil, (fun _ hp => nomatch hp), (fun _ hp => nomatch hp), (fun _ hp => nomatch hp)⟩
  case turn =>
    rintro i m₁ nx h tk tv I oI hi hJ0 hnI hlt F2 N2 TP hTP
    refine hide fun P0 hP0 => ?_
    obtain ⟨e1, e2, e3, us, c, tl, rfl, hDA, o1, o2, o3⟩ := hJ0
    refine row_nth hv hi fun T9 n9 d g m s9 q e u1 u2 u3 u4 u5 u6 hv' hmT hr hrt bd bg bm bs bq be => ?_
    have N3 : News g' L' h ((T9, _) :: (I, oI) :: _) := fun p hp => N2 p (by
      rcases List.mem_cons.mp hp with rfl | hp
      · exact List.mem_cons.mpr (.inr (List.mem_cons.mpr (.inr (List.mem_append.mpr (.inr hmT)))))
      · exact hp)
    have hv0 : vs[((0 : Int) + (i : Nat)).toNat]? = some (.ref T9) := by rw [show ((0 : Int) + (i : Nat)).toNat = i by omega]; exact hv'
    have hT9 : @LT.lt Nat _ T9 dl := l1 _ hmT
    have hdI : @LT.lt Nat _ dl I := hlt _ (.head _)
    have hmL : (rl, W.listOf vs.toArray nn) ∈ tl ++ news := List.mem_append.mpr (.inr hm)
    have hsz : us.toArray.size ≤ 100 := by
      have h9 := hDA.length
      have h8 := dueFrom_len n 0 (xs.take i)
      rw [List.length_map, h8, List.length_take] at h9
      rw [List.size_toArray, h9]; omega
    have F3 := fr_put3 F2 e1 e2 e3
    clear F2 N2 F1 N1
    refine hP0 ?_
    clear hP0 P0
    refine wpAny_assign_Name ?_
    k_steps
    unfold Held
    rename News _ _ _ _ => N4
    rename Fr _ _ _ (fun y => _) => F4
    refine if_meet (c := m = 0) (x := "goal") (g := g) (fun gv => gv = if m = 0 then g + n else g) F4 N4 rfl (fun hc => (if_neg hc).symm) ?arm ?cont
    case arm =>
      intro hc
      k_steps
      rename Fr _ _ _ (fun y => _) => F9
      rename News _ _ _ _ => N9
      exact ⟨rfl, _, _, _, _, rfl, (if_pos hc).symm, F9, N9⟩
    case cont =>
      intro gv tg h5 tk5 hgv F5 N5
      have hgb : 1 ≤ gv ∧ gv ≤ 8 := by rw [hgv]; split <;> omega
      clear F4 N4
      k_steps
      rename Fr _ _ _ (fun y => _) => F9
      rename News _ _ _ _ => N9
      simp only [List.push_toArray] at N9
      rename_i y1 u1 k1 hy1 D1 hE l2 hF tx1 y2 u2 k2 hy2 D2 hG l3 hH tx2 gI LI hJ BI XI TI tx3 nl hK FI NI l4 TcI kXI y3 u3 hy3 D3 hL l5 hM
      clear FI NI
      refine hTP _ _ ?_
      refine turn_post4 (fun x1 _ x3 x4 => (dl, W.listOf (us ++ [Value.ref D1] ++ [Value.ref D2] ++ [Value.ref D3]).toArray (c + 1 + 1 + 1)) :: ((x1 :: x3 :: x4 :: tl) ++ news)) F9 N9 ?sub ?hI ?hJ
      case sub => exact mem_resh2 [5, 6, 0, 2, 3] 6 rfl
      case hI =>
        intro p hp
        simp only [List.mem_cons, List.mem_append, List.cons_append] at hp
        rcases hp with rfl | rfl | rfl | rfl | hp | hp
        · exact neN (by dsimp only; omega)
        · exact neN (by dsimp only; omega)
        · exact neN (by dsimp only; omega)
        · exact neN (by dsimp only; omega)
        · exact hnI p (by simp only [List.mem_cons, List.mem_append]; exact .inr (.inl hp))
        · exact hnI p (by simp only [List.mem_cons, List.mem_append]; exact .inr (.inr hp))
      case hJ =>
        have hdue : dueOf n i xs[i] = [(List.replicate gv.toNat 46, (i : Int) + 1), (List.replicate s9.toNat 46, (i : Int) + 1), (namesL d, (i : Int) + 1)] := by
          simp only [rowD, Dat.tuple.injEq, List.cons.injEq, Dat.int.injEq] at hr
          obtain ⟨q1, q2, q3, q4, _⟩ := hr
          unfold dueOf
          rw [q1, q2, q3, q4, hgv]
        refine ⟨rfl, rfl, rfl, _, _, _, rfl, ?_, ?_, ?_, ?_⟩
        · rw [take_snoc _ _ hi, dueFrom_snoc, List.map_append, List.append_assoc, List.append_assoc]
          refine DatAll.append (hDA.mono fun p hp => .tail _ (.tail _ (.tail _ hp))) ?_
          have hlt9 : (xs.take i).length = i := by rw [List.length_take]; omega
          rw [hlt9, Nat.zero_add, hdue]
          rw [hy1.eq, hy2.eq, hy3.eq, name_text _ _ _ _ _ _ _ _ bd, show (0 : Int) + (i : Nat) + 1 = (i : Int) + 1 by omega]
          exact .cons (.tuple (.tail _ (.tail _ (.head _))) (.cons (.str _ _) (.cons (.int _ _) .nil))) (.cons (.tuple (.tail _ (.head _)) (.cons (.str _ _) (.cons (.int _ _) .nil))) (.cons (.tuple (.head _) (.cons (.str _ _) (.cons (.int _ _) .nil))) .nil))
        · intro p hp b hb
          rw [List.mem_singleton.mp hb]
          simp only [List.mem_cons] at hp
          rcases hp with rfl | rfl | rfl | hp
          · exact neN (by dsimp only; omega)
          · exact neN (by dsimp only; omega)
          · exact neN (by dsimp only; omega)
          · exact o1 p hp dl (.head _)
        · intro p hp q hq
          have hqd : @LT.lt Nat _ q.1 dl := l1 q hq
          simp only [List.mem_cons] at hp
          rcases hp with rfl | rfl | rfl | hp
          · show @LT.lt Nat _ q.1 D3; omega
          · show @LT.lt Nat _ q.1 D2; omega
          · show @LT.lt Nat _ q.1 D1; omega
          · exact o2 p hp q hq
        · intro p hp
          simp only [List.mem_cons] at hp
          rcases hp with rfl | rfl | rfl | hp
          · show @LT.lt Nat _ dl D3; omega
          · show @LT.lt Nat _ dl D2; omega
          · show @LT.lt Nat _ dl D1; omega
          · exact o3 p hp
  case done =>
    rintro m₁ nx h tk hJ0 F2 N2
    refine hide fun P0 hP0 => ?_
    obtain ⟨e1, e2, e3, us, c, tl, rfl, hDA, o1, o2, o3⟩ := hJ0
    have F3 := fr_put3 F2 e1 e2 e3
    clear F2 F1 N1
    refine hP0 ?_
    clear hP0 P0
    dsimp only
    have hmL : (rl, W.listOf vs.toArray nn) ∈ tl ++ news := List.mem_append.mpr (.inr hm)
    have hsz : us.toArray.size ≤ 100 := by
      have h9 := hDA.length
      have h8 := dueFrom_len n 0 (xs.take xs.length)
      rw [List.length_map, h8, List.length_take] at h9
      rw [List.size_toArray, h9]; omega
    have hsl : us.length ≤ 100 := by rw [List.size_toArray] at hsz; exact hsz
    k_steps
    rename_i tE tkE D1 hE l2 nl hF l3 D2 hG l4 D3 hH FI NI l5 kF kN TcI kXI
    rw [List.take_length] at hDA
    refine hret _ _ _ _ kF (news_14 kN) ⟨_ :: _ :: tl, rfl, ?_, ?_⟩
    · unfold dueAll
      rw [List.map_append]
      refine DatIn.list (.head _) (DatAll.append (hDA.mono fun p hp => .tail _ (.tail _ hp)) ?_)
      exact .cons (.tuple (.tail _ (.head _)) (.cons (.str _ _) (.cons (.int _ _) .nil))) (.cons (.tuple (.tail _ (.head _)) (.cons (.str _ _) (.cons (.int _ _) .nil))) .nil)
    · intro p hp q hq
      have hqd : @LT.lt Nat _ q.1 dl := l1 q hq
      simp only [List.mem_cons] at hp
      rcases hp with rfl | rfl | hp
      · show @LT.lt Nat _ q.1 D3; omega
      · show @LT.lt Nat _ q.1 D1; omega
      · exact o2 p hp q hq
end
end
-- PART-END Due

section
open PySem PySem.W PyProof.Rows
section
local macro_rules | `(tactic| walk_at "execs cons") => `(tactic| walk_at "my For")
local macro_rules | `(tactic| walk_at "execs cons For") => `(tactic| walk_at "my For")
local macro_rules | `(tactic| walk_at "execs cons For cons") => `(tactic| walk_at "my For")
local macro_rules | `(tactic| walk_at "subscriptTail") => `(tactic| walk_at "my item")

/-- the sum of two rows of bits, from the low end -/
def plusFrom : Int → List Int → List Int → List Int
  | c, x :: xs, y :: ys => (x + y + c) % 2 :: plusFrom ((x + y + c) / 2) xs ys
  | _, _, _ => []
/-- eight bits -/
def Bits (xs : List Int) : Prop := xs.length = 8 ∧ ∀ x ∈ xs, 0 ≤ x ∧ x ≤ 1
theorem Bits.at {xs : List Int} (h : Bits xs) {i : Nat} (hi : i < xs.length) : 0 ≤ xs[i] ∧ xs[i] ≤ 1 := h.2 _ (List.getElem_mem hi)

set_option maxRecDepth 100000 in
set_option maxHeartbeats 4000000 in
theorem plus_spec (w : World) (la lb : Addr) (va vb : List Value) (na nb : Nat) (xs ys : List Int) (c : Int) (tc : Tok) (news : List (Addr × Obj)) (hma : (la, W.listOf va.toArray na) ∈ news) (hmb : (lb, W.listOf vb.toArray nb) ∈ news) (ha : IntsAre va xs) (hb : IntsAre vb ys) (bx : Bits xs) (by' : Bits ys) (hc : 0 ≤ c ∧ c ≤ 1) :
    Spec2c w 20 100 233 [.ref la, .ref lb, .int c tc] (fun _ => True) news (fun r nx => ∃ D ws cc, r = .ref D ∧ nx = (D, W.listOf ws.toArray cc) :: news ∧ IntsAre ws (plusFrom c xs ys) ∧ (∀ q ∈ news, @LT.lt Nat _ q.1 D)) := by
  w_top off
  unfold Spec2c PRG KK
  k_fill
  intro p loose mean mg mb dp un gd cn cs a ccd cl outer A₀ base h₀ L m s Q E B F X N T hk hcd hdp hun hret
  cases cs
  cases hk
  have kM : KdMark := kdMark
  k_dflt k_enter
  rename Fr h₀ L _ m => FG
  k_steps
  rename News _ _ _ _ => N1
  rename Fr _ _ _ (fun y => _) => F1
  rename Below _ _ _ _ => B1
  rename Frag.In _ _ => X1
  rename Top _ _ _ _ _ _ => T1
  rename IsRange _ _ _ _ _ _ _ _ => R1
  rename_i names isg isc more g' L' hA dl hB l1 hC F0 N0 hD tkC t1 t2 t3 a1
  clear F0 N0
  refine for_rangeT (n := 8) (fun i m nx => m "told" = some (.ref dl) ∧ m "xs" = some (.ref la) ∧ m "ys" = some (.ref lb) ∧
      ∃ ws cc D c' tc', m "carry" = some (.int c' tc') ∧ nx = (dl, W.listOf ws.toArray cc) :: news ∧ IntsAre ws D ∧ D.length = i ∧ 0 ≤ c' ∧ c' ≤ 1 ∧ D ++ plusFrom c' (xs.drop i) (ys.drop i) = plusFrom c xs ys)
    (news := (dl, W.listOf [].toArray 0) :: news) rfl F1 N1 R1 ?small ?size ?j ?turn ?done
  case small => exact small_one (by omega) (by omega) (by omega) (by omega)
  case size => exact rangeSize_nat _ _
  case j => exact ⟨rfl, rfl, rfl, [], 0, [], c, tc, rfl, rfl, .nil, rfl, hc.1, hc.2, rfl⟩
  case turn =>
    rintro i m₁ nx h tk tv I oI hi hJ0 hnI hlt F2 N2 TP hTP
    refine hide fun P0 hP0 => ?_
    obtain ⟨e1, e2, e3, ws, cc, D, c', tc', e4, rfl, hD, hDl, hc0, hc1, hEq⟩ := hJ0
    have hix : i < xs.length := by rw [bx.1]; exact hi
    have hiy : i < ys.length := by rw [by'.1]; exact hi
    obtain ⟨tx, hx⟩ := ha.get i xs[i] (List.getElem?_eq_getElem hix)
    obtain ⟨ty, hy⟩ := hb.get i ys[i] (List.getElem?_eq_getElem hiy)
    have hx0 : va[((0 : Int) + (i : Nat)).toNat]? = some (.int xs[i] tx) := by rw [show ((0 : Int) + (i : Nat)).toNat = i by omega]; exact hx
    have hy0 : vb[((0 : Int) + (i : Nat)).toNat]? = some (.int ys[i] ty) := by rw [show ((0 : Int) + (i : Nat)).toNat = i by omega]; exact hy
    have bX := bx.at hix
    have bY := by'.at hiy
    have hdx : xs.drop i = xs[i] :: xs.drop (i + 1) := List.drop_eq_getElem_cons hix
    have hdy : ys.drop i = ys[i] :: ys.drop (i + 1) := List.drop_eq_getElem_cons hiy
    generalize hX : xs[i] = X at hx0 bX hdx
    generalize hY : ys[i] = Y at hy0 bY hdy
    rw [hdx, hdy, plusFrom] at hEq
    have hsz : ws.toArray.size ≤ 100 := by rw [List.size_toArray, hD.length]; omega
    have hdI : @LT.lt Nat _ dl I := hlt _ (.head _)
    have F3 := fr_put4 F2 e1 e2 e3 e4
    clear F2 N1 F1 hx hy
    refine hP0 ?_
    clear hP0 P0
    refine wpAny_assign_Name ?_
    k_steps
    rename Fr _ _ _ (fun y => _) => F9
    rename News _ _ _ _ => N9
    simp only [List.push_toArray] at N9
    have d1 := fdivE (X + Y + c') 2 (by decide)
    have d2 := fmodE (X + Y + c') 2 (by decide)
    refine hTP _ _ ?_
    refine turn_post0 F9 N9 ?_ ⟨rfl, rfl, rfl, _, _, D ++ [(X + Y + c').fmod 2], _, _, rfl, rfl, hD.append (.cons _ _ .nil), ?_, ?_, ?_, ?_⟩
    · intro p hp
      rcases List.mem_cons.mp hp with rfl | hp
      · exact Nat.ne_of_lt hdI
      · exact hnI p (.tail _ hp)
    · rw [List.length_append, hDl]; rfl
    · rw [d1]; omega
    · rw [d1]; omega
    · rw [d1, d2, List.append_assoc]; exact hEq
  case done =>
    rintro m₁ nx h tk hJ0 F2 N2
    refine hide fun P0 hP0 => ?_
    obtain ⟨e1, e2, e3, ws, cc, D, c', tc', e4, rfl, hD, hDl, hc0, hc1, hEq⟩ := hJ0
    have F3 := fr_put4 F2 e1 e2 e3 e4
    clear F2 F1 N1
    refine hP0 ?_
    clear hP0 P0
    dsimp only
    k_steps
    rename_i kF kN TcI kXI
    rw [List.drop_of_length_le (by rw [bx.1]; exact Nat.le_refl _), plusFrom, List.append_nil] at hEq
    · exact hret _ _ _ _ kF kN ⟨dl, ws, cc, rfl, rfl, hEq ▸ hD, fun q hq => l1 q hq⟩
    · intro _ _ _ _ h; cases h
end
end
-- PART-END Plus

section
open PySem PySem.W PyProof.Rows
section
section
variable {prog : Program} {w : World} {A : Around} {E : Value → Shared → Prop} {s : Shared} {h₀ : Heap} {L : Addr} {m : Str → Option Value} {env : Env}
/-- a comprehension, by a word that holds ahead of every turn -/
theorem comp_turns {elt : PySem.Expr} {x : Str} {scope : Scope} {cl : List (Str × Addr)} {S : List (Addr × Obj) → Prop} {P : Nat → Value → Prop} {Fin : List Value → List (Addr × Obj) → Prop} (n : Nat) (J : Nat → List Value → List (Addr × Obj) → Prop)
    (turn : ∀ i ys news v I oI C oC D m₂ h tk (E' : Value → Shared → Prop), i < n → P i v → J i ys news → LCg.NsObj oC m₂ → m₂ x = some v → Fr h₀ L h m → News h₀ L h ((I, oI) :: (C, oC) :: (D, LCg.lst ys) :: news) → LCg.Off3 I C D news → ((@Ne Nat I C) ∧ (@Ne Nat I D) ∧ (@Ne Nat C D)) →
      wpAny (model prog w) A (eval elt (compEnvC scope cl C env)) (LCg.CompEnd h₀ L m { s with heap := h, toks := tk } I oI C oC D (LCg.lst ys) S (fun y news' => J (i + 1) (ys ++ [y]) news')) E' { s with heap := h, toks := tk })
    (fin : ∀ ys news, J n ys news → Fin ys news) :
    ∀ k i ys news, i + k = n → J i ys news → LCg.CompRest prog w A h₀ L m env elt x scope cl s S P Fin k i ys news := by
  intro k
  induction k with
  | zero => intro i ys news hi hj; obtain rfl : i = n := by omega
            exact LCg.CompRest.zero (fin ys news hj)
  | succ k ih =>
    intro i ys news hi hj
    refine LCg.CompRest.succ fun v I oI C oC D m₂ h tk E' hP hC hx F N off ne => ?_
    refine wpAny_mono (turn i ys news v I oI C oC D m₂ h tk E' (by omega) hP hj hC hx F N off ne) (fun y s₂ h₂ => ?_) fun _ _ e => e
    obtain ⟨h', tk', news', e, F', N', off', hS, hJ⟩ := h₂
    exact ⟨h', tk', news', e, F', N', off', hS, ih (i + 1) (ys ++ [y]) news' (by omega) hJ⟩
theorem comp_turnsT {elt : PySem.Expr} {x : Str} {scope : Scope} {cl : List (Str × Addr)} {S : List (Addr × Obj) → Prop} {P : Nat → Value → Prop} {Fin : List Value → List (Addr × Obj) → Prop} (n : Nat) (J : Nat → List Value → List (Addr × Obj) → Prop)
    (turn : ∀ i ys news v I oI C oC D m₂ h tk (E' : Value → Shared → Prop), i < n → P i v → J i ys news → LCg.NsObj oC m₂ → m₂ x = some v → Fr h₀ L h m → News h₀ L h ((I, oI) :: (C, oC) :: (D, LCg.lst ys) :: news) → LCg.Off3 I C D news → ((@Ne Nat I C) ∧ (@Ne Nat I D) ∧ (@Ne Nat C D)) →
      ∀ CE : Value → Shared → Prop, (∀ y s', LCg.CompEnd h₀ L m { s with heap := h, toks := tk } I oI C oC D (LCg.lst ys) S (fun y news' => J (i + 1) (ys ++ [y]) news') y s' → CE y s') → wpAny (model prog w) A (eval elt (compEnvC scope cl C env)) CE E' { s with heap := h, toks := tk })
    (fin : ∀ ys news, J n ys news → Fin ys news) :
    ∀ k i ys news, i + k = n → J i ys news → LCg.CompRest prog w A h₀ L m env elt x scope cl s S P Fin k i ys news :=
  comp_turns n J (fun i ys news v I oI C oC D m₂ h tk E' a b c d e f g k l => turn i ys news v I oI C oC D m₂ h tk E' a b c d e f g k l _ fun _ _ x => x) fin
end
end
end
-- PART-END Comp

section
open PySem PySem.W PyProof.Rows
section
theorem off1_mem {D : Addr} : ∀ {l : List (Addr × Obj)}, LCg.Off1 D l → ∀ p ∈ l, @Ne Nat p.1 D
  | [], _, _, h => nomatch h
  | _ :: _, x, p, h => by
    rcases List.mem_cons.mp h with rfl | h
    · exact x.1
    · exact off1_mem x.2 p h
theorem plus_bits : ∀ (c : Int) (xs ys : List Int), (plusFrom c xs ys).length = min xs.length ys.length ∧ ∀ x ∈ plusFrom c xs ys, 0 ≤ x ∧ x ≤ 1
  | c, x :: xs, y :: ys => by
    have h := plus_bits ((x + y + c) / 2) xs ys
    simp only [plusFrom, List.length_cons, h.1]
    refine ⟨by omega, fun z hz => ?_⟩
    rcases List.mem_cons.mp hz with rfl | hz
    · omega
    · exact h.2 z hz
  | _, [], _ => by simp [plusFrom]
  | _, _ :: _, [] => by simp [plusFrom]
theorem Bits.plus {c : Int} {xs ys : List Int} (hx : Bits xs) (hy : Bits ys) : Bits (plusFrom c xs ys) :=
  ⟨by rw [(plus_bits c xs ys).1, hx.1, hy.1]; rfl, (plus_bits c xs ys).2⟩
theorem Bits.shift {xs : List Int} (hx : Bits xs) {k : Nat} (hk : k ≤ 8) : Bits (List.replicate k 0 ++ xs.take (8 - k)) :=
  ⟨by rw [List.length_append, List.length_replicate, List.length_take, hx.1]; omega, fun z hz => by
    rcases List.mem_append.mp hz with hz | hz
    · rw [(List.mem_replicate.mp hz).2]; omega
    · exact hx.2 z (List.mem_of_mem_take hz)⟩
theorem flat_zeros : ∀ k : Nat, (List.replicate k [(0 : Int)]).flatten = List.replicate k 0
  | 0 => rfl
  | k + 1 => by rw [List.replicate_succ, List.replicate_succ, List.flatten_cons, flat_zeros k]; rfl
theorem allLt_mem {d : Addr} : ∀ {l : List (Addr × Obj)}, AllLt d l → ∀ p ∈ l, @LT.lt Nat _ p.1 d
  | [], _, _, h => nomatch h
  | _ :: _, x, p, h => by
    rcases List.mem_cons.mp h with rfl | h
    · exact x.1
    · exact allLt_mem x.2 p h
theorem zeros_ints (k : Nat) (t : Tok) : IntsAre (List.replicate k [Value.int 0 t]).flatten (List.replicate k 0) := by
  induction k with
  | zero => exact .nil
  | succ k ih => rw [List.replicate_succ, List.replicate_succ, List.flatten_cons]; exact .cons _ _ ih
def mulStep (xs ys : List Int) (told : List Int) (k : Nat) : List Int := if ys.getD k 0 = 1 then plusFrom 0 told (List.replicate k 0 ++ xs.take (8 - k)) else told
def wiresL (d : Int) (xs ys : List Int) : List Int :=
  if d = 0 then plusFrom 0 xs ys
  else if d = 1 then plusFrom 1 xs (ys.map fun y => 1 - y)
  else if d = 2 then (List.range 8).foldl (mulStep xs ys) (List.replicate 8 0)
  else if d = 3 then (List.range 8).map fun k => xs.getD k 0 * ys.getD k 0
  else if d = 4 then (List.range 8).map fun k => max (xs.getD k 0) (ys.getD k 0)
  else if d = 5 then (List.range 8).map fun k => (xs.getD k 0 + ys.getD k 0) % 2
  else if d = 6 then plusFrom 1 (List.replicate 8 0) (ys.map fun y => 1 - y)
  else ys.map fun y => 1 - y
section
variable {d : Int} {xs ys : List Int}
theorem wires_0 (h : d = 0) : wiresL d xs ys = plusFrom 0 xs ys := by subst h; simp [wiresL]
theorem wires_1 (h : d = 1) : wiresL d xs ys = plusFrom 1 xs (ys.map fun y => 1 - y) := by subst h; simp [wiresL]
theorem wires_2 (h : d = 2) : wiresL d xs ys = (List.range 8).foldl (mulStep xs ys) (List.replicate 8 0) := by subst h; simp [wiresL]
theorem wires_3 (h : d = 3) : wiresL d xs ys = (List.range 8).map fun k => xs.getD k 0 * ys.getD k 0 := by subst h; simp [wiresL]
theorem wires_4 (h : d = 4) : wiresL d xs ys = (List.range 8).map fun k => max (xs.getD k 0) (ys.getD k 0) := by subst h; simp [wiresL]
theorem wires_5 (h : d = 5) : wiresL d xs ys = (List.range 8).map fun k => (xs.getD k 0 + ys.getD k 0) % 2 := by subst h; simp [wiresL]
theorem wires_6 (h : d = 6) : wiresL d xs ys = plusFrom 1 (List.replicate 8 0) (ys.map fun y => 1 - y) := by subst h; simp [wiresL]
theorem wires_7 (h0 : d ≠ 0) (h1 : d ≠ 1) (h2 : d ≠ 2) (h3 : d ≠ 3) (h4 : d ≠ 4) (h5 : d ≠ 5) (h6 : d ≠ 6) : wiresL d xs ys = ys.map fun y => 1 - y := by simp [wiresL, h0, h1, h2, h3, h4, h5, h6]
end

end
end
-- PART-END WiresA

section
open PySem PySem.W PyProof.Rows
section
local macro_rules | `(tactic| walk_at "execs cons") => `(tactic| walk_at "my For")
local macro_rules | `(tactic| walk_at "execs cons For") => `(tactic| walk_at "my For")
local macro_rules | `(tactic| walk_at "execs cons For cons") => `(tactic| walk_at "my For")
local macro_rules | `(tactic| walk_at "subscriptTail") => `(tactic| walk_at "my item")
local macro_rules | `(tactic| walk_at "call ref") => `(tactic| walk_at "my held")
local macro_rules | `(tactic| walk_at "exec Assign cons ListComp") => `(tactic| (k_here; k_dflt (refine LCg.Assign_ListComp_U (F₀ := by k_asm) (by rfl) (by with_unfolding_all rfl) (by with_unfolding_all rfl) (by decide) (by rfl) (by decide) (by rfl) (by rfl) (by rfl) ?_)))
local macro_rules | `(tactic| walk_at "CompSrc") => `(tactic| (k_here; refine held ?_))

local macro_rules | `(tactic| walk_at "subscriptTail Name Slice ref ref") => `(tactic| (k_here; (with_reducible show wpAny _ _ (subscriptTail _ (PySem.Expr.Slice _ _ none _) (Value.ref _) (Value.ref _)) _ _ _); k_dflt (refine' kmk_slice_ints ?gF ?gN ?gl ?gp ?gq ?gi ?gm ?gc ?_ ?gs ?gt ?gz; (case gF => k_asm); (case gN => k_asm); (case gl => exact News.isList (by k_asm) (by first | k_memK | (repeat' (first | assumption | refine List.Mem.tail _ ?_)))); (case gp => kmk_part); (case gq => kmk_part); (case gi => l_ints); (case gm => kmk_nums); (case gc => kmk_len); (case gs => with_unfolding_all rfl); (case gt => kmk_pure); (case gz => first | assumption | kmk_size)); intro D' ws' h' F' N' l1 hI' hC' hL'; (try simp only [Int.reduceNeg, Int.neg_neg, Int.reduceToNat] at hI' hC' hL'); (try k_lt l1); (try k_sweep)))
local macro_rules | `(tactic| walk_at "exec Assign") => `(tactic| k_fold)
local macro_rules | `(tactic| walk_at "eval BinOp") => `(tactic| k_fold)
local macro_rules | `(tactic| walk_at "eval Call") => `(tactic| k_fold)

set_option maxRecDepth 100000 in
set_option maxHeartbeats 4000000 in
theorem wires_spec (w : World) (la lb : Addr) (va vb : List Value) (na nb : Nat) (xs ys : List Int) (d : Int) (td : Tok) (news : List (Addr × Obj)) (hma : (la, W.listOf va.toArray na) ∈ news) (hmb : (lb, W.listOf vb.toArray nb) ∈ news) (ha : IntsAre va xs) (hb : IntsAre vb ys) (bx : Bits xs) (by' : Bits ys) (hd : 0 ≤ d ∧ d < 8) :
    Spec2c w 30 200 238 [.int d td, .ref la, .ref lb] (fun _ => True) news (fun r nx => ∃ R ws cc, r = .ref R ∧ nx = (R, W.listOf ws.toArray cc) :: news ∧ IntsAre ws (wiresL d xs ys) ∧ (∀ q ∈ news, @Ne Nat q.1 R)) := by
  w_top off
  unfold Spec2c PRG KK
  k_fill
  intro p loose mean mg mb dp un gd cn cs a ccd cl outer A₀ base h₀ L m s Q E B F X N T hk hcd hdp hun hret
  cases cs
  cases hk
  have kM : KdMark := kdMark
  k_dflt k_enter
  rename Fr h₀ L _ m => FG
  k_steps
  unfold Held
  rename News _ _ _ _ => N1
  rename Fr _ _ _ _ => F1
  rename Below _ _ _ _ => B1
  rename Frag.In _ _ => X1
  rename Top _ _ _ _ _ _ => T1
  rename_i names isg isc more g' L' hA tkA l1 o1 o2 d1 d2
  have hbl : vb.toArray.size = 8 := by rw [List.size_toArray, hb.length, by'.1]
  refine LCg.CompSrc.ledger rfl F1 N1 (List.Mem.tail _ (List.Mem.tail _ hmb)) (by rw [hbl]; decide) (fun g => comp_turnsT vb.toArray.size (fun i us nw => nw = _ ∧ IntsAre us ((ys.take i).map (fun y => 1 - y))) ?turn ?fin _ 0 [] _ (Nat.zero_add _) ⟨rfl, .nil⟩)
  case turn =>
    rintro i us nw v I oI C oC D m₂ h tk E' hi hv hJ0 hC hx F2 N2 off ne CE hCE
    refine hide fun P0 hP0 => ?_
    obtain ⟨rfl, hU⟩ := hJ0
    have hiy : i < ys.length := by rw [hbl] at hi; rw [by'.1]; exact hi
    obtain ⟨ty, hy⟩ := hb.get i ys[i] (List.getElem?_eq_getElem hiy)
    rw [List.getElem?_toArray, hy] at hv
    cases hv
    clear F1 N1
    refine hP0 ?_
    clear hP0 P0
    k_steps
    refine hCE _ _ ?_
    exact LCg.CompEnd.intro F2 N2 _ (fun p hp => hp) off (.inr ⟨_, List.Mem.tail _ (List.Mem.tail _ hmb), rfl, _, rfl⟩) ⟨rfl, by
      rw [take_snoc _ _ hiy, List.map_append]; exact hU.append (.cons _ _ .nil)⟩
  case fin =>
    rintro us nw hJ0
    refine hide fun P0 hP0 => ?_
    obtain ⟨rfl, hU⟩ := hJ0
    refine hP0 ?_
    clear hP0 P0
    intro D h tk F2 N2 off
    have hT : IntsAre us (ys.map (fun y => 1 - y)) := by rw [List.take_of_length_le (by rw [hbl, by'.1]; exact Nat.le_refl _)] at hU; exact hU
    have bT : Bits (ys.map (fun y => 1 - y)) := ⟨by rw [List.length_map, by'.1], fun x hx => by
      obtain ⟨y, hy, rfl⟩ := List.mem_map.mp hx
      have := by'.2 y hy
      omega⟩
    have hDn : ∀ q ∈ news, @Ne Nat q.1 D := fun q hq => off1_mem off q (.tail _ (.tail _ hq))
    clear F1 N1
    k_steps
    · unfold Held
      rename Fr _ _ _ _ => F3
      rename News _ _ _ _ => N3
      refine wpAny_call (plus_spec w la lb va vb _ _ xs ys 0 _ _ (.tail _ (.tail _ (.tail _ hma))) (.tail _ (.tail _ (.tail _ hmb))) ha hb bx by' (by omega) _ _ _ _ _ _ _ _ _ _ _ _ _ _ _ _ _ _ _ _ _ _ B1 F3 X1 N3 T1 rfl trivial (by ktr_room) (by ktr_units) ?_)
      rintro r nx h7 tk7 F6 N6 hJ0
      refine hide fun P0 hP0 => ?_
      obtain ⟨R, ws, cc, rfl, rfl, hW, hR⟩ := hJ0
      refine hP0 ?_
      clear hP0 P0
      k_steps
      rename_i kF kN TcI kXI
      exact hret _ _ _ _ kF (by first | exact news_resh [0] 3 kN | exact news_resh [0] 5 kN | exact news_resh [0] 2 kN) ⟨R, ws, cc, rfl, rfl, by rw [wires_0 (by assumption)]; exact hW, fun q hq => Nat.ne_of_lt (hR q (by simp only [List.mem_cons]; grind))⟩
    · unfold Held
      rename Fr _ _ _ _ => F3
      rename News _ _ _ _ => N3
      refine wpAny_call (plus_spec w la D va us _ _ xs _ 1 _ _ (.tail _ (.tail _ (.tail _ hma))) (.head _) ha hT bx bT (by omega) _ _ _ _ _ _ _ _ _ _ _ _ _ _ _ _ _ _ _ _ _ _ B1 F3 X1 N3 T1 rfl trivial (by ktr_room) (by ktr_units) ?_)
      rintro r nx h7 tk7 F6 N6 hJ0
      refine hide fun P0 hP0 => ?_
      obtain ⟨R, ws, cc, rfl, rfl, hW, hR⟩ := hJ0
      refine hP0 ?_
      clear hP0 P0
      k_steps
      rename_i kF kN TcI kXI
      exact hret _ _ _ _ kF (by first | exact news_resh [0] 3 kN | exact news_resh [0] 5 kN | exact news_resh [0] 2 kN) ⟨R, ws, cc, rfl, rfl, by rw [wires_1 (by assumption)]; exact hW, fun q hq => Nat.ne_of_lt (hR q (by simp only [List.mem_cons]; grind))⟩
    · rename IsRange _ _ _ _ _ _ _ _ => R3
      rename News _ _ _ _ => N3
      rename Fr _ _ _ _ => F3
      rename IntsAre (List.replicate _ _).flatten _ => i1
      have hZ : IntsAre _ (List.replicate 8 (0 : Int)) := i1
      refine for_rangeT (n := 8) (fun i m nx => ∃ dl ws cc ds, m "told" = some (.ref dl) ∧ nx = (dl, W.listOf ws.toArray cc) :: (D, LCg.lst us) :: (L' + 1 + 1, o1) :: (L' + 1, o2) :: news ∧ IntsAre ws ds ∧ Bits ds ∧ ds = ((List.range i).foldl (mulStep xs ys) (List.replicate 8 0)) ∧ (∀ q ∈ news, @Ne Nat q.1 dl)) (news := (_, W.listOf _ 0) :: (D, LCg.lst us) :: (L' + 1 + 1, o1) :: (L' + 1, o2) :: news) rfl F3 (fun p hp => N3 p (by rcases List.mem_cons.mp hp with rfl | hp; exact .head _; exact .tail _ (.tail _ hp))) R3 ?small ?size ?j ?turn ?done
      case small => exact small_one (by omega) (by omega) (by omega) (by omega)
      case size => exact rangeSize_nat _ _
      case j => exact ⟨_, _, _, List.replicate 8 0, rfl, rfl, hZ, ⟨rfl, by decide⟩, rfl, fun q hq => Nat.ne_of_lt (by rename _ ∧ _ ∧ _ ∧ _ ∧ AllLt _ _ => hl; exact allLt_mem hl.2.2.2.2 q hq)⟩
      case turn =>
        rintro i m₁ nx h tk tv I oI hi hJ0 hnI hlt F2 N2 TP hTP
        refine hide fun P0 hP0 => ?_
        obtain ⟨dl, ws, cc, ds, e1, rfl, hD, bD, hDs, o5⟩ := hJ0
        have hix : i < xs.length := by rw [bx.1]; exact hi
        have hiy : i < ys.length := by rw [by'.1]; exact hi
        obtain ⟨ty, hyv⟩ := hb.get i ys[i] (List.getElem?_eq_getElem hiy)
        have hy0 : vb[((0 : Int) + (i : Nat)).toNat]? = some (.int ys[i] ty) := by rw [show ((0 : Int) + (i : Nat)).toNat = i by omega]; exact hyv
        have bY := by'.at hiy
        have gY : ys.getD i 0 = ys[i] := by rw [List.getD_eq_getElem?_getD, List.getElem?_eq_getElem hiy]; rfl
        generalize hY : ys[i] = Y at hy0 bY gY
        have F5 := fr_put F2 e1
        have hvz : va.toArray.size ≤ sizeLine := by rw [List.size_toArray, ha.length, bx.1]; decide
        have hne := hnI
        clear F3 N3 hyv F2
        refine hP0 ?_
        clear hP0 P0
        refine wpAny_assign_Name ?_
        k_steps
        · unfold Held
          rename Fr _ _ _ _ => F8
          rename News _ _ _ _ => N8
          rename IntsAre _ (_ ++ _) => i8
          rw [flat_zeros, show ((0 : Int) + (i : Nat)).toNat = i by omega, show ((8 : Int) - (0 + (i : Nat))).toNat = 8 - i by omega] at i8
          refine wpAny_call (plus_spec w dl _ ws _ _ _ ds _ 0 _ _ (.tail _ (.tail _ (.tail _ (.tail _ (.tail _ (.head _)))))) (.head _) hD i8 bD (bx.shift (by omega)) (by omega) _ _ _ _ _ _ _ _ _ _ _ _ _ _ _ _ _ _ _ _ _ _ B1 F8 X1 N8 T1 rfl trivial (by ktr_room) (by ktr_units) ?_)
          rintro r nx h7 tk7 F6 N6 hJ0
          refine hide fun P0 hP0 => ?_
          obtain ⟨R, ws7, cc7, rfl, rfl, hW, hR⟩ := hJ0
          refine hP0 ?_
          clear hP0 P0
          k_steps
          rename Fr _ _ _ (fun y => _) => F9
          rename News _ _ _ _ => N9
          refine hTP _ _ ?_
          refine turn_post ((R, W.listOf ws7.toArray cc7) :: (D, LCg.lst us) :: (L' + 1 + 1, o1) :: (L' + 1, o2) :: news) F9 N9 (fun p hp => ?_) (fun p hp => ?_) ⟨R, ws7, cc7, _, rfl, rfl, hW, bD.plus (bx.shift (by omega)), ?_, fun q hq => Nat.ne_of_lt (hR q ?_)⟩
          · simp only [List.mem_cons] at hp ⊢
            rcases hp with h | h | h | h | h | h <;> simp [h]
          · rcases List.mem_cons.mp hp with rfl | hp
            · exact (Nat.ne_of_lt (hR (I, oI) (.tail _ (.tail _ (.tail _ (.tail _ (.head _))))))).symm
            · exact hne p (.tail _ hp)
          · rw [List.range_succ, List.foldl_append, List.foldl_cons, List.foldl_nil, ← hDs]
            unfold mulStep
            rw [if_pos (by rw [gY]; assumption)]
          · exact .tail _ (.tail _ (.tail _ (.tail _ (.tail _ (.tail _ (.tail _ (.tail _ (.tail _ hq))))))))
        · rename Fr _ _ _ (fun y => _) => F9
          rename News _ _ _ _ => N9
          refine hTP _ _ ?_
          refine turn_post0 F9 N9 hne ⟨dl, ws, cc, ds, rfl, rfl, hD, bD, ?_, o5⟩
          rw [List.range_succ, List.foldl_append, List.foldl_cons, List.foldl_nil, ← hDs]
          unfold mulStep
          rw [if_neg (by rw [gY]; assumption)]
      case done =>
        rintro m₁ nx h tk hJ0 F2 N2
        refine hide fun P0 hP0 => ?_
        obtain ⟨dl, ws, cc, ds, e1, rfl, hD, bD, hDs, o5⟩ := hJ0
        have F5 := fr_put F2 e1
        clear F3 N3 F2
        refine hP0 ?_
        clear hP0 P0
        dsimp only
        k_steps
        rename_i kF kN TcI kXI
        exact hret _ _ _ _ kF (fun p hp => kN p (by rcases List.mem_cons.mp hp with rfl | hp; exact .head _; exact .tail _ (.tail _ (.tail _ (.tail _ hp))))) ⟨dl, ws, _, rfl, rfl, by rw [wires_2 (by assumption), ← hDs]; exact hD, o5⟩
    · unfold Held
      rename IsRange _ _ _ _ _ _ _ _ => R3
      rename News _ _ _ _ => N3
      rename Fr _ _ _ _ => F3
      refine LCg.CompSrc.range (n := 8) rfl F3 N3 R3 (small_one (by omega) (by omega) (by omega) (by omega)) (rangeSize_nat _ _) (by decide) (fun g => comp_turnsT 8 (fun i us nw => nw = _ ∧ IntsAre us ((List.range i).map fun k => xs.getD k 0 * ys.getD k 0)) ?turn ?fin _ 0 [] _ (Nat.zero_add _) ⟨rfl, .nil⟩)
      case turn =>
        rintro i us nw v I oI C oC D m₂ h tk E' hi hJ0 hJ1 hC hx F2 N2 off ne CE hCE
        refine hide fun P0 hP0 => ?_
        obtain ⟨tv, rfl⟩ := hJ0
        obtain ⟨rfl, hU⟩ := hJ1
        have hix : i < xs.length := by rw [bx.1]; exact hi
        have hiy : i < ys.length := by rw [by'.1]; exact hi
        obtain ⟨tx, hxv⟩ := ha.get i xs[i] (List.getElem?_eq_getElem hix)
        obtain ⟨ty, hyv⟩ := hb.get i ys[i] (List.getElem?_eq_getElem hiy)
        have hx0 : va[((0 : Int) + (i : Nat)).toNat]? = some (.int xs[i] tx) := by rw [show ((0 : Int) + (i : Nat)).toNat = i by omega]; exact hxv
        have hy0 : vb[((0 : Int) + (i : Nat)).toNat]? = some (.int ys[i] ty) := by rw [show ((0 : Int) + (i : Nat)).toNat = i by omega]; exact hyv
        have bX := bx.at hix
        have bY := by'.at hiy
        have gX : xs.getD i 0 = xs[i] := by rw [List.getD_eq_getElem?_getD, List.getElem?_eq_getElem hix]; rfl
        have gY : ys.getD i 0 = ys[i] := by rw [List.getD_eq_getElem?_getD, List.getElem?_eq_getElem hiy]; rfl
        generalize hX : xs[i] = X at hx0 bX gX
        generalize hY : ys[i] = Y at hy0 bY gY
        have hm := fmodE (X + Y) 2 (by decide)
        clear F3 N3 hxv hyv
        refine hP0 ?_
        clear hP0 P0
        k_steps
        refine hCE _ _ ?_
        exact LCg.CompEnd.intro F2 N2 _ (fun p hp => hp) off True.intro ⟨rfl, by
          rw [List.range_succ, List.map_append]; refine hU.append ?_
          simp only [List.map_cons, List.map_nil]
          rw [gX, gY]
          exact .cons _ _ .nil⟩
      case fin =>
        rintro us nw hJ0
        refine hide fun P0 hP0 => ?_
        obtain ⟨rfl, hU⟩ := hJ0
        refine hP0 ?_
        clear hP0 P0
        dsimp only
        intro D2 h2 tk2 F2 N2 off2
        clear F3 N3
        k_steps
        rename_i kF kN TcI kXI
        exact hret _ _ _ _ kF (fun p hp => kN p (by rcases List.mem_cons.mp hp with rfl | hp; exact .head _; exact .tail _ (.tail _ (.tail _ (.tail _ hp))))) ⟨D2, us, _, rfl, rfl, by rw [wires_3 (by assumption)]; exact hU, fun q hq => off1_mem off2 q (.tail _ (.tail _ (.tail _ hq)))⟩
    · unfold Held
      rename IsRange _ _ _ _ _ _ _ _ => R3
      rename News _ _ _ _ => N3
      rename Fr _ _ _ _ => F3
      refine LCg.CompSrc.range (n := 8) rfl F3 N3 R3 (small_one (by omega) (by omega) (by omega) (by omega)) (rangeSize_nat _ _) (by decide) (fun g => comp_turnsT 8 (fun i us nw => nw = _ ∧ IntsAre us ((List.range i).map fun k => max (xs.getD k 0) (ys.getD k 0))) ?turn ?fin _ 0 [] _ (Nat.zero_add _) ⟨rfl, .nil⟩)
      case turn =>
        rintro i us nw v I oI C oC D m₂ h tk E' hi hJ0 hJ1 hC hx F2 N2 off ne CE hCE
        refine hide fun P0 hP0 => ?_
        obtain ⟨tv, rfl⟩ := hJ0
        obtain ⟨rfl, hU⟩ := hJ1
        have hix : i < xs.length := by rw [bx.1]; exact hi
        have hiy : i < ys.length := by rw [by'.1]; exact hi
        obtain ⟨tx, hxv⟩ := ha.get i xs[i] (List.getElem?_eq_getElem hix)
        obtain ⟨ty, hyv⟩ := hb.get i ys[i] (List.getElem?_eq_getElem hiy)
        have hx0 : va[((0 : Int) + (i : Nat)).toNat]? = some (.int xs[i] tx) := by rw [show ((0 : Int) + (i : Nat)).toNat = i by omega]; exact hxv
        have hy0 : vb[((0 : Int) + (i : Nat)).toNat]? = some (.int ys[i] ty) := by rw [show ((0 : Int) + (i : Nat)).toNat = i by omega]; exact hyv
        have bX := bx.at hix
        have bY := by'.at hiy
        have gX : xs.getD i 0 = xs[i] := by rw [List.getD_eq_getElem?_getD, List.getElem?_eq_getElem hix]; rfl
        have gY : ys.getD i 0 = ys[i] := by rw [List.getD_eq_getElem?_getD, List.getElem?_eq_getElem hiy]; rfl
        generalize hX : xs[i] = X at hx0 bX gX
        generalize hY : ys[i] = Y at hy0 bY gY
        have hm := fmodE (X + Y) 2 (by decide)
        clear F3 N3 hxv hyv
        refine hP0 ?_
        clear hP0 P0
        k_steps
        rename News _ _ _ _ => N9
        rename Fr _ _ _ _ => F9
        refine hCE _ _ ?_
        exact LCg.CompEnd.intro F9 N9 _ (fun p hp => hp) off True.intro ⟨rfl, by
          rw [List.range_succ, List.map_append]; refine hU.append ?_
          simp only [List.map_cons, List.map_nil]
          rw [gX, gY]
          rw [show max X Y = (if Y > X then Y else X) by split <;> omega]; exact .cons _ _ .nil⟩
      case fin =>
        rintro us nw hJ0
        refine hide fun P0 hP0 => ?_
        obtain ⟨rfl, hU⟩ := hJ0
        refine hP0 ?_
        clear hP0 P0
        dsimp only
        intro D2 h2 tk2 F2 N2 off2
        clear F3 N3
        k_steps
        rename_i kF kN TcI kXI
        exact hret _ _ _ _ kF (fun p hp => kN p (by rcases List.mem_cons.mp hp with rfl | hp; exact .head _; exact .tail _ (.tail _ (.tail _ (.tail _ hp))))) ⟨D2, us, _, rfl, rfl, by rw [wires_4 (by assumption)]; exact hU, fun q hq => off1_mem off2 q (.tail _ (.tail _ (.tail _ hq)))⟩
    · unfold Held
      rename IsRange _ _ _ _ _ _ _ _ => R3
      rename News _ _ _ _ => N3
      rename Fr _ _ _ _ => F3
      refine LCg.CompSrc.range (n := 8) rfl F3 N3 R3 (small_one (by omega) (by omega) (by omega) (by omega)) (rangeSize_nat _ _) (by decide) (fun g => comp_turnsT 8 (fun i us nw => nw = _ ∧ IntsAre us ((List.range i).map fun k => (xs.getD k 0 + ys.getD k 0) % 2)) ?turn ?fin _ 0 [] _ (Nat.zero_add _) ⟨rfl, .nil⟩)
      case turn =>
        rintro i us nw v I oI C oC D m₂ h tk E' hi hJ0 hJ1 hC hx F2 N2 off ne CE hCE
        refine hide fun P0 hP0 => ?_
        obtain ⟨tv, rfl⟩ := hJ0
        obtain ⟨rfl, hU⟩ := hJ1
        have hix : i < xs.length := by rw [bx.1]; exact hi
        have hiy : i < ys.length := by rw [by'.1]; exact hi
        obtain ⟨tx, hxv⟩ := ha.get i xs[i] (List.getElem?_eq_getElem hix)
        obtain ⟨ty, hyv⟩ := hb.get i ys[i] (List.getElem?_eq_getElem hiy)
        have hx0 : va[((0 : Int) + (i : Nat)).toNat]? = some (.int xs[i] tx) := by rw [show ((0 : Int) + (i : Nat)).toNat = i by omega]; exact hxv
        have hy0 : vb[((0 : Int) + (i : Nat)).toNat]? = some (.int ys[i] ty) := by rw [show ((0 : Int) + (i : Nat)).toNat = i by omega]; exact hyv
        have bX := bx.at hix
        have bY := by'.at hiy
        have gX : xs.getD i 0 = xs[i] := by rw [List.getD_eq_getElem?_getD, List.getElem?_eq_getElem hix]; rfl
        have gY : ys.getD i 0 = ys[i] := by rw [List.getD_eq_getElem?_getD, List.getElem?_eq_getElem hiy]; rfl
        generalize hX : xs[i] = X at hx0 bX gX
        generalize hY : ys[i] = Y at hy0 bY gY
        have hm := fmodE (X + Y) 2 (by decide)
        clear F3 N3 hxv hyv
        refine hP0 ?_
        clear hP0 P0
        k_steps
        refine hCE _ _ ?_
        exact LCg.CompEnd.intro F2 N2 _ (fun p hp => hp) off True.intro ⟨rfl, by
          rw [List.range_succ, List.map_append]; refine hU.append ?_
          simp only [List.map_cons, List.map_nil]
          rw [gX, gY]
          rw [← hm]; exact .cons _ _ .nil⟩
      case fin =>
        rintro us nw hJ0
        refine hide fun P0 hP0 => ?_
        obtain ⟨rfl, hU⟩ := hJ0
        refine hP0 ?_
        clear hP0 P0
        dsimp only
        intro D2 h2 tk2 F2 N2 off2
        clear F3 N3
        k_steps
        rename_i kF kN TcI kXI
        exact hret _ _ _ _ kF (fun p hp => kN p (by rcases List.mem_cons.mp hp with rfl | hp; exact .head _; exact .tail _ (.tail _ (.tail _ (.tail _ hp))))) ⟨D2, us, _, rfl, rfl, by rw [wires_5 (by assumption)]; exact hU, fun q hq => off1_mem off2 q (.tail _ (.tail _ (.tail _ hq)))⟩
    · unfold Held
      rename Fr _ _ _ _ => F3
      rename News _ _ _ _ => N3
      rename IntsAre (List.replicate _ _).flatten _ => i1
      have hZ : IntsAre _ (List.replicate 8 (0 : Int)) := i1
      have bZ : Bits (List.replicate 8 (0 : Int)) := ⟨rfl, by decide⟩
      refine wpAny_call (plus_spec w _ D _ us _ _ (List.replicate 8 0) _ 1 _ _ (.head _) (.tail _ (.tail _ (.head _))) hZ hT bZ bT (by omega) _ _ _ _ _ _ _ _ _ _ _ _ _ _ _ _ _ _ _ _ _ _ B1 F3 X1 N3 T1 rfl trivial (by ktr_room) (by ktr_units) ?_)
      rintro r nx h7 tk7 F6 N6 hJ0
      refine hide fun P0 hP0 => ?_
      obtain ⟨R, ws, cc, rfl, rfl, hW, hR⟩ := hJ0
      refine hP0 ?_
      clear hP0 P0
      k_steps
      rename_i kF kN TcI kXI
      exact hret _ _ _ _ kF (by first | exact news_resh [0] 3 kN | exact news_resh [0] 5 kN | exact news_resh [0] 2 kN) ⟨R, ws, cc, rfl, rfl, by rw [wires_6 (by assumption)]; exact hW, fun q hq => Nat.ne_of_lt (hR q (by simp only [List.mem_cons]; grind))⟩
    · rename_i kF kN TcI kXI
      exact hret _ _ _ _ kF (by first | exact news_resh [0] 3 kN | exact news_resh [0] 5 kN | exact news_resh [0] 2 kN) ⟨D, us, us.length, rfl, rfl, by rw [wires_7 (by assumption) (by assumption) (by assumption) (by assumption) (by assumption) (by assumption) (by assumption)]; exact hT, hDn⟩
end
end
-- PART-END Wires

section
open PySem PySem.W PyProof.Rows
section
/-- the ints of a list of ints -/
def intOf : Value → Int
  | .int x _ => x
  | _ => 0
theorem ints_of : ∀ {vs : List Value} {ns : List Int}, IntsAre vs ns → ∀ {zs : List Value}, (∀ z ∈ zs, z ∈ vs) → IntsAre zs (zs.map intOf)
  | vs, ns, h, [], _ => .nil
  | vs, ns, h, z :: zs, hz => by
    have hi : ∃ x t, z = .int x t := by
      obtain ⟨i, hi, e⟩ := List.mem_iff_getElem.mp (hz z List.mem_cons_self)
      obtain ⟨t, ht⟩ := h.get i (ns[i]'(by rw [← h.length]; exact hi)) (List.getElem?_eq_getElem (by rw [← h.length]; exact hi))
      rw [List.getElem?_eq_getElem hi, e] at ht
      cases ht
      exact ⟨_, _, rfl⟩
    obtain ⟨x, t, rfl⟩ := hi
    rw [List.map_cons]
    exact .cons x t (ints_of h fun y hy => hz y (List.mem_cons_of_mem _ hy))
theorem pick_mem {items : Array Value} {lo hi st : Option Int} {z : Value} (h : z ∈ (slicePick items lo hi st).toList) : z ∈ items.toList := by
  unfold slicePick at h
  rw [List.mem_filterMap] at h
  obtain ⟨i, _, hi⟩ := h
  have := Array.mem_of_getElem? hi
  simpa using this
theorem ints_one {a b : Int} {t : Tok} (h : a = b) : IntsAre [.int a t] [b] := h ▸ .cons _ _ .nil
/-- every fourth of the first 24, from a place on -/
def partL (vs : List Value) (k : Nat) : List Int := ((slicePick vs.toArray (some (0 + (k : Nat))) (some 24) (some 4)).toList).map intOf
def startL (vs : List Value) : List Int := (List.range 4).map fun k => (([77, -3, 100, 6] : List Int).getD k 0 + (partL vs k).sum + 1000000000) % 2000000000 - 1000000000
section
variable {prog : Program} {w : World} {A : Around} {E : Value → Shared → Prop} {s : Shared} {h₀ : Heap} {L l : Addr} {m : Str → Option Value} {news : List (Addr × Obj)} {vs : List Value} {ns : List Int} {value slice : PySem.Expr} {vl vu : Value} {lo hi : Option Int}
theorem slice_step {vk : Value} {st : Option Int} {Q : Value → Shared → Prop} {ops : List Value} (F : Fr h₀ L s.heap m) (N : News h₀ L s.heap news) (hl : h₀.IsList l vs.toArray) (hI : IntsAre vs ns) (pl : IsPart vl lo) (pu : IsPart vu hi) (pk : IsPart vk st) (h0 : st ≠ some 0) (hz : vs.toArray.size ≤ sizeLine)
    (h : ∀ D h', Fr h₀ L h' m → News h₀ L h' ((D, W.listOf (slicePick vs.toArray lo hi st).toList.toArray 0) :: news) → (∀ p ∈ news, p.1 < D) → IntsAre (slicePick vs.toArray lo hi st).toList ((slicePick vs.toArray lo hi st).toList.map intOf) → (slicePick vs.toArray lo hi st).toList.length ≤ vs.length → Q (.ref D) { s with heap := h' })
    (hs : subscripted slice false (.ref l) (.ref s.heap.objs.size) = operate ops (getItem (.ref l) (.ref s.heap.objs.size))) (ht : ∀ r, letTemporaryGo value (.ref l) r = pure ()) :
    wpAny (model prog w) A (subscriptTail value slice (.ref l) (.ref s.heap.objs.size)) Q E { s with heap := s.heap.push { cls := .type "slice", data := .fields #[vl, vu, vk] } } := by
  refine kmk_slice3_lit F N (F.lst hl) pl pu pk h0 rfl (fun D h' F' N' l1 => h D h' F' N' l1 (ints_of hI fun z hz => by simpa using pick_mem hz) ?_) hs ht hz
  have := slicePick_size_le vs.toArray lo hi st
  simpa using this
end
end
end
-- PART-END StartA

section
open PySem PySem.W PyProof.Rows
section
local macro_rules | `(tactic| walk_at "exec Return some") => `(tactic| (k_here; (with_reducible show wpAny _ _ (exec (Stmt.Return (some (PySem.Expr.ListComp _ _ _ _)) _) _) _ _ _); k_dflt (refine wpAny_exec_Return (LCg.ListComp_U (F₀ := by k_asm) (by with_unfolding_all rfl) (by decide) (by rfl) (by decide) (by rfl) ?_))))
local macro_rules | `(tactic| walk_at "eval ListComp") => `(tactic| walk_at "my comp")
local macro_rules | `(tactic| walk_at "CompSrc") => `(tactic| (k_here; refine held ?_))
local macro_rules | `(tactic| walk_at "subscriptTail") => `(tactic| walk_at "my item")
local macro_rules | `(tactic| walk_at "subscriptTail Name Slice ref ref") => `(tactic| (k_here; (with_reducible show wpAny _ _ (subscriptTail _ (PySem.Expr.Slice _ _ (some _) _) (Value.ref _) (Value.ref _)) _ _ _); k_dflt (refine' slice_step ?gF ?gN ?gl ?gi ?gp ?gq ?gk ?g0 ?gz ?_ ?gs ?gt; (case gF => k_asm); (case gN => k_asm); (case gl => k_asm); (case gi => k_asm); (case gp => kmk_part); (case gq => kmk_part); (case gk => kmk_part); (case g0 => decide); (case gz => k_asm); (case gs => with_unfolding_all rfl); (case gt => kmk_pure)); intro D' h' F' N' l1 i1 n1; (try k_lt l1); (try k_sweep)))
local macro_rules | `(tactic| walk_at "exec Assign") => `(tactic| k_fold)
local macro_rules | `(tactic| walk_at "eval BinOp") => `(tactic| k_fold)
local macro_rules | `(tactic| walk_at "eval Call") => `(tactic| k_fold)
set_option maxRecDepth 100000 in
set_option maxHeartbeats 4000000 in
theorem start_spec (w : World) (l : Addr) (vs : List Value) (ns : List Int) (news : List (Addr × Obj)) (hI : IntsAre vs ns) (hn : vs.length ≤ 63) :
    Spec2c w 10 100 186 [.ref l] (fun h => h.IsList l vs.toArray) news (fun r nx => ∃ R us cc, r = .ref R ∧ nx = (R, W.listOf us.toArray cc) :: news ∧ IntsAre us (startL vs) ∧ (∀ q ∈ news, @Ne Nat q.1 R)) := by
  w_top off
  unfold Spec2c PRG KK
  k_fill
  intro p loose mean mg mb dp un gd cn cs a ccd cl outer A₀ base h₀ L m s Q E B F X N T hk hl hdp hun hret
  cases cs
  cases hk
  have kM : KdMark := kdMark
  k_dflt k_enter
  rename Fr h₀ L _ m => FG
  have hl' := Heap.IsList.at hl (fun o e => FG.keep l o e)
  rename ∀ p ∈ news, _ => l1
  have hvz : vs.toArray.size ≤ sizeLine := by rw [List.size_toArray]; exact Nat.le_trans hn (by decide)
  have b0 := allLt_of l1
  have b1 := allLt_up (Nat.le_add_right _ 1) b0
  have b2 := allLt_up (Nat.le_add_right _ 1) b1
  have b3 := allLt_up (Nat.le_add_right _ 1) b2
  k_steps
  unfold Held
  rename IsRange _ _ _ _ _ _ _ _ => R3
  rename News _ _ _ _ => N3
  rename Fr _ _ _ _ => F3
  refine LCg.CompSrc.range (n := 4) rfl F3 N3 R3 (small_one (by omega) (by omega) (by omega) (by omega)) (rangeSize_nat _ _) (by decide) (fun g => comp_turnsT 4 (fun i us nw => nw = _ ∧ IntsAre us ((List.range i).map fun k => (([77, -3, 100, 6] : List Int).getD k 0 + (partL vs k).sum + 1000000000) % 2000000000 - 1000000000)) ?turn ?fin _ 0 [] _ (Nat.zero_add _) ⟨rfl, .nil⟩)
  case turn =>
    rintro i us nw v I oI C oC D m₂ h tk E' hi hJ0 hJ1 hC hx F2 N2 off ne CE hCE
    refine hide fun P0 hP0 => ?_
    obtain ⟨tv, rfl⟩ := hJ0
    obtain ⟨rfl, hU⟩ := hJ1
    clear F3 N3
    refine hP0 ?_
    clear hP0 P0
    k_steps
    rename News _ _ _ _ => N9
    rename Fr _ _ _ _ => F9
    refine hCE _ _ ?_
    refine LCg.CompEnd.intro F9 N9 _ (fun p hp => .tail _ hp) off True.intro ⟨rfl, ?_⟩
    rw [List.range_succ, List.map_append]
    refine hU.append (ints_one ?_)
    rw [show ((0 : Int) + (i : Nat)).toNat = i by omega, show (10 : Int) ^ Int.toNat 9 = 1000000000 by decide, fmodE _ _ (by decide)]
    rfl
  case fin =>
    rintro us nw hJ0
    refine hide fun P0 hP0 => ?_
    obtain ⟨rfl, hU⟩ := hJ0
    refine hP0 ?_
    clear hP0 P0
    dsimp only
    intro D2 h2 tk2 F2 N2 off2
    clear F3 N3
    k_steps
    rename_i kF kN TcI kXI
    exact hret _ _ _ _ kF (fun p hp => kN p (by rcases List.mem_cons.mp hp with rfl | hp; exact .head _; exact .tail _ (.tail _ (.tail _ (.tail _ (.tail _ hp)))))) ⟨D2, us, _, rfl, rfl, hU, fun q hq => off1_mem off2 q (.tail _ (.tail _ (.tail _ (.tail _ hq))))⟩
end
end
-- PART-END Start

section
open PySem PySem.W PyProof.Rows
section
/-- line ends made one kind -/
def normL : List Nat → List Nat
  | [] => []
  | 13 :: 10 :: r => 13 :: 10 :: normL r
  | c :: r => (if c = 13 ∨ c = 10 then [13, 10] else [c]) ++ normL r
theorem norm_cons {c : Nat} {r : List Nat} (h : c = 13 → r.head? ≠ some 10) : normL (c :: r) = (if c = 13 ∨ c = 10 then [13, 10] else [c]) ++ normL r := by
  rw [normL]
  intro r' e1 e2
  exact h e1 (by rw [e2]; rfl)
/-- a dot doubled at the head of a line -/
def dotsL : Bool → List Nat → List Nat
  | _, [] => []
  | b, c :: r => (if b = true ∧ c = 46 then [46, 46] else [c]) ++ dotsL (c == 10) r
theorem isEnd_iff (c : Nat) : isEnd c = true ↔ c = 10 ∨ c = 13 := by simp [isEnd]
theorem isEnd_not {c : Nat} (h : isEnd c = false) : c ≠ 10 ∧ c ≠ 13 := by
  have := mt (isEnd_iff c).mpr (by rw [h]; simp)
  omega
theorem norm_app : ∀ (a b : List Nat), (∀ c ∈ a, c ≠ 10 ∧ c ≠ 13) → normL (a ++ b) = a ++ normL b
  | [], _, _ => rfl
  | c :: a, b, h => by
    have hc := h c List.mem_cons_self
    rw [List.cons_append, norm_cons (fun e => absurd e hc.2), if_neg (by omega), norm_app a b fun x hx => h x (List.mem_cons_of_mem _ hx)]; rfl
theorem norm_10 (r : List Nat) : normL (10 :: r) = 13 :: 10 :: normL r := by rw [norm_cons (fun e => absurd e (by decide)), if_pos (.inr rfl)]; rfl
theorem norm_1310 (r : List Nat) : normL (13 :: 10 :: r) = 13 :: 10 :: normL r := by rw [normL]
theorem norm_13 {r : List Nat} (h : r.head? ≠ some 10) : normL (13 :: r) = 13 :: 10 :: normL r := by rw [norm_cons (fun _ => h), if_pos (.inl rfl)]; rfl
theorem drop_get {T : List Nat} {p : Nat} (h : p < T.length) : T.drop p = (T.toArray[p]?.getD 0) :: T.drop (p + 1) := by
  rw [List.drop_eq_getElem_cons h, List.getElem?_toArray, List.getElem?_eq_getElem h]; rfl
theorem mem_cut {T : List Nat} {d p c : Nat} (h : c ∈ (T.drop d).take (p - d)) : ∃ q, d ≤ q ∧ q < p ∧ q < T.length ∧ T.toArray[q]?.getD 0 = c := by
  obtain ⟨i, hi, rfl⟩ := List.mem_iff_getElem.mp h
  rw [List.length_take, List.length_drop] at hi
  refine ⟨d + i, by omega, by omega, by omega, ?_⟩
  rw [List.getElem_take, List.getElem_drop, List.getElem?_toArray, List.getElem?_eq_getElem (by omega)]; rfl
theorem cut_app {T : List Nat} {d p : Nat} (h : d ≤ p) : T.drop d = (T.drop d).take (p - d) ++ T.drop p := by
  have e := List.take_append_drop (p - d) (T.drop d)
  rw [List.drop_drop, show d + (p - d) = p by omega] at e
  exact e.symm
theorem sub_norm {x : List Nat} {d : Nat} {out : List Nat} (h : SubTo (found2 x.toArray) (never2 x.toArray) x [13, 10] d out) : out = normL (x.drop d) := by
  induction h with
  | @stop d hn =>
    have := norm_app (x.drop d) [] fun c hc => by
      obtain ⟨q, h1, h2, h3, rfl⟩ := mem_cut (T := x) (d := d) (p := x.length) (by rw [List.take_of_length_le (by rw [List.length_drop]; omega)]; exact hc)
      exact isEnd_not (hn q h1 (by simpa using h3))
    rw [List.append_nil] at this
    rw [this, normL, List.append_nil]
  | @step d p e out hf h1 h2 h3 _ ih =>
    obtain ⟨hE, hno, he⟩ := hf
    have hp : p < x.length := by omega
    have e0 : normL (x.drop d) = (x.drop d).take (p - d) ++ normL (x.drop p) := by
      conv => lhs; rw [cut_app (T := x) h1]
      exact norm_app _ _ fun c hc => by
        obtain ⟨q, h1, h2, h3, rfl⟩ := mem_cut hc
        exact isEnd_not (hno q h1 h2)
    rw [e0, ih, List.append_assoc, drop_get hp]
    refine congrArg ((x.drop d).take (p - d) ++ ·) ?_
    rcases (isEnd_iff _).mp hE with hc | hc
    · rw [hc, norm_10]
      have : e = p + 1 := by rw [he]; unfold endLen; rw [if_neg]; omega
      rw [this]; rfl
    · by_cases h10 : x.toArray[p + 1]?.getD 0 = 10
      · have hp2 : p + 1 < x.length := by
          apply Decidable.byContradiction; intro hh
          rw [List.getElem?_toArray, List.getElem?_eq_none (by omega)] at h10; cases h10
        have : e = p + 2 := by rw [he]; unfold endLen; rw [if_pos ⟨hc, h10⟩]
        rw [hc, drop_get hp2, h10, norm_1310, this]; rfl
      · have : e = p + 1 := by rw [he]; unfold endLen; rw [if_neg]; omega
        rw [hc, norm_13, this]; rfl
        intro hh
        apply h10
        rw [List.head?_drop] at hh
        rw [List.getElem?_toArray, hh]; rfl
theorem dots_app : ∀ (b : Bool) (r r' : List Nat), dotsL b (r ++ r') = dotsL b r ++ dotsL (match r.getLast? with | some c => c == 10 | none => b) r'
  | b, [], r' => rfl
  | b, c :: r, r' => by
    rw [List.cons_append, dotsL, dots_app, dotsL, List.append_assoc]
    congr 3
    cases r with
    | nil => rfl
    | cons c2 r => simp [List.getLast?_cons]
/-- the head of a line at a place -/
def bolB (T : List Nat) (p : Nat) : Bool := decide (p = 0) || (T.toArray[p - 1]?.getD 0 == 10)
theorem bol_iff (T : List Nat) (p : Nat) : bol T.toArray p ↔ bolB T p = true := by simp [bol, bolB]
theorem dots_run {T : List Nat} : ∀ (k d : Nat), d + k ≤ T.length → (∀ q, d ≤ q → q < d + k → ¬ dotAt T.toArray q) → dotsL (bolB T d) (T.drop d) = (T.drop d).take k ++ dotsL (bolB T (d + k)) (T.drop (d + k))
  | 0, d, _, _ => by simp
  | k + 1, d, h, hn => by
    have ih := dots_run k (d + 1) (by omega) fun q h1 h2 => hn q (by omega) (by omega)
    rw [drop_get (by omega), dotsL, if_neg, List.take_succ_cons]
    · have e : bolB T (d + 1) = (T.toArray[d]?.getD 0 == 10) := by simp [bolB]
      rw [show d + (k + 1) = d + 1 + k by omega, ← e, ih]
      rfl
    · intro hh
      exact hn d (Nat.le_refl _) (by omega) ⟨(bol_iff T d).mpr hh.1, hh.2⟩
theorem sub_dots {T : List Nat} {d : Nat} {out : List Nat} (h : SubTo (found1 T.toArray) (never1 T.toArray) T [46, 46] d out) (hd : d ≤ T.length) : out = dotsL (bolB T d) (T.drop d) := by
  induction h with
  | @stop d hn =>
    rw [dots_run (T.length - d) d (by omega) fun q h1 h2 => hn q h1 (by simp; omega), List.take_of_length_le (by rw [List.length_drop]; omega)]
    rw [List.drop_of_length_le (by omega : T.length ≤ d + (T.length - d)), dotsL, List.append_nil]
  | @step d p e out hf h1 h2 h3 _ ih =>
    obtain ⟨hD, hno, rfl⟩ := hf
    have hp : p < T.length := by omega
    rw [dots_run (p - d) d (by omega) fun q a b => hno q a (by omega), show d + (p - d) = p by omega, ih h3, List.append_assoc]
    congr 1
    rw [drop_get hp, dotsL, if_pos ⟨(bol_iff T p).mp hD.1, hD.2⟩, show bolB T (p + 1) = (T.toArray[p]?.getD 0 == 10) by simp [bolB]]
theorem Quoted.eq {x y : List Nat} (h : Quoted x y) : y = dotsL true (normL x) := by
  obtain ⟨mid, h1, h2⟩ := h
  have e1 := sub_norm h1
  have e2 := sub_dots h2 (Nat.zero_le _)
  rw [List.drop_zero] at e1 e2
  rw [e2, e1]; rfl

/-- a row's text but its end; with more dots at the goal -/
def rowB (d g m s q : Int) : List Nat :=
  headsL m ++ List.replicate g.toNat 46 ++ (if m = 1 then [34] else []) ++ [32] ++ List.replicate q.toNat 34 ++ List.replicate s.toNat 46 ++ List.replicate q.toNat 34 ++ [32] ++ namesL d
def bodyOf (n : Nat) (x : Int) : List Nat := rowB (x % 1000000 % 8) (if x % 1000000 / 32 % 4 = 0 then (1 + x % 1000000 / 8 % 4) + n else 1 + x % 1000000 / 8 % 4) (x % 1000000 / 32 % 4) (1 + x % 1000000 / 128 % 4) (x % 1000000 / 512 % 2)
theorem rowText_body (x : Int) : rowText x = bodyOf 0 x ++ endsL (x % 1000000 / 1024 % 3) := by
  unfold rowText bodyOf rowT rowB
  rw [show (if x % 1000000 / 32 % 4 = 0 then (1 + x % 1000000 / 8 % 4) + ((0 : Nat) : Int) else 1 + x % 1000000 / 8 % 4) = 1 + x % 1000000 / 8 % 4 by split <;> omega]
theorem names_ok {d : Int} (h : 0 ≤ d ∧ d < 8) : (∀ c ∈ namesL d, c ≠ 10 ∧ c ≠ 13 ∧ plainC c) ∧ namesL d ≠ [] := by
  have : d = 0 ∨ d = 1 ∨ d = 2 ∨ d = 3 ∨ d = 4 ∨ d = 5 ∨ d = 6 ∨ d = 7 := eight (by first | assumption | exact ⟨by omega, by omega⟩)
  unfold plainC isWs
  rcases this with rfl | rfl | rfl | rfl | rfl | rfl | rfl | rfl <;> exact ⟨by decide, by decide⟩
theorem heads_ok {m : Int} (h : 0 ≤ m ∧ m < 4) : ∀ c ∈ headsL m, c ≠ 10 ∧ c ≠ 13 := by
  have : m = 0 ∨ m = 1 ∨ m = 2 ∨ m = 3 := four (by first | assumption | exact ⟨by omega, by omega⟩)
  rcases this with rfl | rfl | rfl | rfl <;> decide
theorem rowB_noend {d g m s q : Int} (hd : 0 ≤ d ∧ d < 8) (hm : 0 ≤ m ∧ m < 4) : ∀ c ∈ rowB d g m s q, c ≠ 10 ∧ c ≠ 13 := by
  intro c hc
  unfold rowB at hc
  simp only [List.mem_append, List.mem_replicate, List.mem_singleton] at hc
  rcases hc with (((((((hc | hc) | hc) | hc) | hc) | hc) | hc) | hc) | hc
  · exact heads_ok hm c hc
  · omega
  · split at hc
    · rw [List.mem_singleton] at hc; omega
    · cases hc
  · omega
  · omega
  · omega
  · omega
  · omega
  · exact ⟨((names_ok hd).1 c hc).1, ((names_ok hd).1 c hc).2.1⟩
/-- the head of a row's text: a dot where the row is bare -/
theorem rowB_head {d g m s q : Int} (hm : 0 ≤ m ∧ m < 4) (hg : 1 ≤ g) : ∃ c r, rowB d g m s q = c :: r ∧ (c = 46 ↔ m = 0) ∧ c ≠ 10 := by
  obtain ⟨k, rfl⟩ : ∃ k : Nat, g = (k : Int) + 1 := ⟨(g - 1).toNat, by omega⟩
  have hk : ((k : Int) + 1).toNat = k + 1 := by omega
  have : m = 0 ∨ m = 1 ∨ m = 2 ∨ m = 3 := four (by first | assumption | exact ⟨by omega, by omega⟩)
  unfold rowB
  rw [hk, List.replicate_succ]
  rcases this with rfl | rfl | rfl | rfl
  · exact ⟨_, _, rfl, by decide, by decide⟩
  · exact ⟨_, _, rfl, by decide, by decide⟩
  · exact ⟨_, _, rfl, by decide, by decide⟩
  · exact ⟨_, _, rfl, by decide, by decide⟩
theorem ends_norm {e : Int} (h : 0 ≤ e ∧ e < 3) {r : List Nat} (hr : r.head? ≠ some 10) : normL (endsL e ++ r) = 13 :: 10 :: normL r := by
  have : e = 0 ∨ e = 1 ∨ e = 2 := three (by first | assumption | exact ⟨by omega, by omega⟩)
  rcases this with rfl | rfl | rfl
  · exact norm_10 r
  · exact norm_13 hr
  · exact norm_1310 r
theorem body_noend (n : Nat) (x : Int) : ∀ c ∈ bodyOf n x, c ≠ 10 ∧ c ≠ 13 := rowB_noend (by omega) (by omega)
theorem body_head (n : Nat) (x : Int) : ∃ c r, bodyOf n x = c :: r ∧ (c = 46 ↔ x % 1000000 / 32 % 4 = 0) ∧ c ≠ 10 := rowB_head (by omega) (by split <;> omega)
theorem body_more (n : Nat) (x : Int) : bodyOf (n + 1) x = (if x % 1000000 / 32 % 4 = 0 then [46] else []) ++ bodyOf n x := by
  unfold bodyOf
  by_cases h : x % 1000000 / 32 % 4 = 0
  · rw [if_pos h, if_pos h, if_pos h, h]
    unfold rowB
    rw [show (1 + x % 1000000 / 8 % 4 + ((n + 1 : Nat) : Int)).toNat = (1 + x % 1000000 / 8 % 4 + (n : Int)).toNat + 1 by omega, List.replicate_succ]
    rfl
  · rw [if_neg h, if_neg h, if_neg h]; rfl
/-- the rows' text with line ends of one kind -/
def sentText (n : Nat) (xs : List Int) : List Nat := xs.flatMap fun x => bodyOf n x ++ [13, 10]
theorem head_sent (n : Nat) : ∀ (xs : List Int), (sentText n xs).head? ≠ some 10
  | [] => by simp [sentText]
  | x :: xs => by
    obtain ⟨c, r, e, _, h⟩ := body_head n x
    simp only [sentText, List.flatMap_cons, e, List.cons_append, List.head?_cons]
    intro q; cases q; exact h rfl
theorem head_rows : ∀ (xs : List Int), (xs.flatMap rowText).head? ≠ some 10
  | [] => by simp
  | x :: xs => by
    obtain ⟨c, r, e, _, h⟩ := body_head 0 x
    rw [List.flatMap_cons, rowText_body, e]
    simp only [List.cons_append, List.head?_cons]
    intro q; cases q; exact h rfl
theorem norm_rows : ∀ xs : List Int, normL (xs.flatMap rowText) = sentText 0 xs
  | [] => by rw [List.flatMap_nil, normL]; rfl
  | x :: xs => by
    rw [List.flatMap_cons, rowText_body, List.append_assoc, norm_app _ _ (body_noend 0 x), ends_norm (by omega) (head_rows xs), norm_rows xs]
    simp [sentText]
theorem norm_sent (n : Nat) : ∀ xs : List Int, normL (sentText n xs) = sentText n xs
  | [] => by rw [sentText, List.flatMap_nil, normL]
  | x :: xs => by
    have ih := norm_sent n xs
    unfold sentText at ih ⊢
    rw [List.flatMap_cons, List.append_assoc, norm_app _ _ (body_noend n x)]
    have e := norm_1310 (xs.flatMap fun x => bodyOf n x ++ [13, 10])
    rw [ih] at e
    exact congrArg (bodyOf n x ++ ·) e
theorem dots_false : ∀ (r : List Nat), (∀ c ∈ r, c ≠ 10) → ∀ r', dotsL false (r ++ 13 :: 10 :: r') = r ++ 13 :: 10 :: dotsL true r'
  | [], _, r' => by simp [dotsL]
  | c :: r, h, r' => by
    have hc := h c List.mem_cons_self
    have e : (c == 10) = false := by simpa using hc
    rw [List.cons_append, dotsL, e, dots_false r (fun x hx => h x (List.mem_cons_of_mem _ hx)) r']
    rfl
theorem dots_sent (n : Nat) : ∀ xs : List Int, dotsL true (sentText n xs) = sentText (n + 1) xs
  | [] => rfl
  | x :: xs => by
    have ih := dots_sent n xs
    unfold sentText at ih ⊢
    obtain ⟨c, r, e, h1, h2⟩ := body_head n x
    have hno := body_noend n x
    have e2 : (c == 10) = false := by simpa using h2
    rw [List.flatMap_cons, List.flatMap_cons, body_more, e]
    rw [e] at hno
    have hd := dots_false r (fun y hy => (hno y (List.mem_cons_of_mem _ hy)).1) (xs.flatMap fun x => bodyOf n x ++ [13, 10])
    rw [List.append_assoc, List.cons_append, show ([13, 10] : List Nat) ++ (xs.flatMap fun x => bodyOf n x ++ [13, 10]) = 13 :: 10 :: (xs.flatMap fun x => bodyOf n x ++ [13, 10]) from rfl, dotsL, e2, hd, ih]
    by_cases hh : x % 1000000 / 32 % 4 = 0
    · rw [if_pos ⟨rfl, h1.mpr hh⟩, if_pos hh, h1.mpr hh]; simp
    · rw [if_neg (fun q => hh (h1.mp q.2)), if_neg hh]; simp
theorem qn_text : ∀ {n : Nat} {xs : List Int} {z : List Nat}, QN (n + 1) (xs.flatMap rowText) z → z = sentText (n + 1) xs
  | 0, xs, z, ⟨y, hy, hz⟩ => by
    cases hy
    rw [hz.eq, norm_rows, dots_sent]
  | n + 1, xs, z, ⟨y, hy, hz⟩ => by
    have := qn_text hy
    subst this
    rw [hz.eq, norm_sent, dots_sent]
theorem tok_word {wd : List Nat} {d : Nat} {rest : List Nat} {ln : Int} (h : ∀ c ∈ wd, plainC c) (hne : wd ≠ []) (hd : isWs d) (hd' : d ≠ 10) : TokA (wd ++ d :: rest) ln wd rest ln := by
  cases wd with
  | nil => exact absurd rfl hne
  | cons c cs => exact .word (h c List.mem_cons_self) (fun x hx => h x (List.mem_cons_of_mem _ hx)) hd hd'
theorem tok_blank {r wd rest : List Nat} {ln ln' : Int} (h : TokA r ln wd rest ln') : TokA (32 :: r) ln wd rest ln' := .skip (by unfold isWs; omega) (by simpa using h)
theorem dot_plain (k : Nat) : ∀ c ∈ List.replicate k 46, plainC c := by
  intro c hc
  rw [(List.mem_replicate.mp hc).2]; unfold plainC isWs; omega
theorem tok_goal {m g : Int} (hm : 0 ≤ m ∧ m < 4) (hg : 1 ≤ g) (r : List Nat) (ln : Int) : ∃ r', (r' = r ∨ r' = 32 :: r) ∧ TokA (headsL m ++ (List.replicate g.toNat 46 ++ ((if m = 1 then [34] else []) ++ 32 :: r))) ln (List.replicate g.toNat 46) r' ln := by
  obtain ⟨k, hk⟩ : ∃ k : Nat, g.toNat = k + 1 := ⟨(g - 1).toNat, by omega⟩
  have : m = 0 ∨ m = 1 ∨ m = 2 ∨ m = 3 := four (by first | assumption | exact ⟨by omega, by omega⟩)
  have ws : isWs 32 := by unfold isWs; omega
  rcases this with rfl | rfl | rfl | rfl
  · exact ⟨r, .inl rfl, tok_word (dot_plain _) (by rw [hk]; simp) ws (by decide)⟩
  · exact ⟨32 :: r, .inr rfl, .quote (dot_plain _)⟩
  · refine ⟨r, .inl rfl, ?_⟩
    rw [hk, List.replicate_succ]
    exact .esc (by decide) (dot_plain _) ws (by decide)
  · exact ⟨r, .inl rfl, tok_blank (tok_word (dot_plain _) (by rw [hk]; simp) ws (by decide))⟩
theorem tok_source {q s : Int} (hq : 0 ≤ q ∧ q < 2) (hs : 1 ≤ s) (r : List Nat) (ln : Int) : ∃ r', (r' = r ∨ r' = 32 :: r) ∧ TokA (List.replicate q.toNat 34 ++ (List.replicate s.toNat 46 ++ (List.replicate q.toNat 34 ++ 32 :: r))) ln (List.replicate s.toNat 46) r' ln := by
  obtain ⟨k, hk⟩ : ∃ k : Nat, s.toNat = k + 1 := ⟨(s - 1).toNat, by omega⟩
  have : q = 0 ∨ q = 1 := by omega
  have ws : isWs 32 := by unfold isWs; omega
  rcases this with rfl | rfl
  · exact ⟨r, .inl rfl, tok_word (dot_plain _) (by rw [hk]; simp) ws (by decide)⟩
  · exact ⟨32 :: r, .inr rfl, .quote (dot_plain _)⟩
theorem tok_any {r r' wd rest : List Nat} {ln ln' : Int} (h : r' = r ∨ r' = 32 :: r) (t : TokA r ln wd rest ln') : TokA r' ln wd rest ln' := by
  rcases h with rfl | rfl
  · exact t
  · exact tok_blank t
theorem tokn_feed {n : Nat} {r : List Nat} {ln : Int} {out : List (List Nat × Int)} (h : TokN (n + 1) r (ln + 1) out) : TokN (n + 1) (10 :: r) ln out := by
  cases h with
  | cons t rest => exact .cons (.skip (by unfold isWs; omega) (by simpa using t)) rest
theorem toks_rows (n : Nat) : ∀ (xs : List Int) (k : Nat), TokN (3 * xs.length + 2) (sentText n xs) ((k : Int) + 1) (dueFrom n k xs ++ [([], ((k + xs.length : Nat) : Int) + 1), ([], ((k + xs.length : Nat) : Int) + 1)])
  | [], k => .cons .eof (.cons .eof .nil)
  | x :: xs, k => by
    have ih := toks_rows n xs (k + 1)
    rw [show 3 * (x :: xs).length + 2 = 3 * xs.length + 1 + 1 + 1 + 1 + 1 by simp; omega]
    rw [show k + (x :: xs).length = k + 1 + xs.length by simp; omega]
    rw [dueFrom, List.append_assoc]
    unfold sentText at ih ⊢
    rw [List.flatMap_cons]
    generalize hT : (xs.flatMap fun x => bodyOf n x ++ [13, 10]) = T at ih ⊢
    unfold bodyOf rowB dueOf
    generalize hG : (if x % 1000000 / 32 % 4 = 0 then (1 + x % 1000000 / 8 % 4) + (n : Int) else 1 + x % 1000000 / 8 % 4) = G
    have hG1 : 1 ≤ G := by rw [← hG]; split <;> omega
    obtain ⟨r1, h1, t1⟩ := tok_goal (m := x % 1000000 / 32 % 4) (by omega) hG1 (List.replicate (x % 1000000 / 512 % 2).toNat 34 ++ (List.replicate (1 + x % 1000000 / 128 % 4).toNat 46 ++ (List.replicate (x % 1000000 / 512 % 2).toNat 34 ++ 32 :: (namesL (x % 1000000 % 8) ++ 13 :: 10 :: T)))) ((k : Int) + 1)
    obtain ⟨r2, h2, t2⟩ := tok_source (q := x % 1000000 / 512 % 2) (s := 1 + x % 1000000 / 128 % 4) (by omega) (by omega) (namesL (x % 1000000 % 8) ++ 13 :: 10 :: T) ((k : Int) + 1)
    have hn := names_ok (d := x % 1000000 % 8) (by omega)
    have t3 : TokA (namesL (x % 1000000 % 8) ++ 13 :: 10 :: T) ((k : Int) + 1) (namesL (x % 1000000 % 8)) (10 :: T) ((k : Int) + 1) := tok_word (fun c hc => (hn.1 c hc).2.2) hn.2 (by unfold isWs; omega) (by decide)
    have main := TokN.cons t1 (.cons (tok_any h1 t2) (.cons (tok_any h2 t3) (tokn_feed (by rw [show ((k : Int) + 1 + 1) = ((k + 1 : Nat) : Int) + 1 by push_cast; rfl]; exact ih))))
    simp only [List.append_assoc, List.cons_append, List.nil_append] at main ⊢
    exact main
theorem toks_due {n : Nat} {xs : List Int} {z : List Nat} (h : QN (n + 1) (xs.flatMap rowText) z) : TokN (3 * xs.length + 2) z 1 (dueAll (n + 1) xs) := by
  rw [qn_text h]
  have := toks_rows (n + 1) xs 0
  rw [show ((0 : Nat) : Int) + 1 = 1 by rfl] at this
  rw [Nat.zero_add] at this
  exact this
end
end
-- PART-END Plain1

section
open PySem PySem.W PyProof.Rows
section
/-- the lowest figures of a number to the base 2 -/
def bitsN : Nat → Int → List Int
  | 0, _ => []
  | n + 1, z => z % 2 :: bitsN n (z / 2)
theorem bitsN_len : ∀ (n : Nat) (z : Int), (bitsN n z).length = n
  | 0, _ => rfl
  | n + 1, z => by rw [bitsN, List.length_cons, bitsN_len n]
theorem bitsN_01 : ∀ (n : Nat) (z : Int), ∀ x ∈ bitsN n z, 0 ≤ x ∧ x ≤ 1
  | 0, _, _, h => nomatch h
  | n + 1, z, x, h => by
    rcases List.mem_cons.mp h with rfl | h
    · omega
    · exact bitsN_01 n _ x h
theorem bits8 (z : Int) : Bits (bitsN 8 z) := ⟨bitsN_len 8 z, bitsN_01 8 z⟩
theorem half_half (z : Int) (k : Nat) : z / 2 / 2 ^ k = z / 2 ^ (k + 1) := by
  rw [Int.pow_succ, Int.mul_comm (2 ^ k), Int.ediv_ediv_of_nonneg (by decide)]
theorem bitsN_at : ∀ (n : Nat) (z : Int) (k : Nat), k < n → (bitsN n z).getD k 0 = z / 2 ^ k % 2
  | n + 1, z, 0, _ => by simp [bitsN]
  | n + 1, z, k + 1, h => by
    rw [bitsN, List.getD_cons_succ, bitsN_at n _ k (by omega), half_half]
theorem bitsN_eq {n : Nat} {l : List Int} {z : Int} (hl : l.length = n) (h : ∀ k, k < n → l.getD k 0 = z / 2 ^ k % 2) : l = bitsN n z := by
  apply List.ext_getElem (by rw [hl, bitsN_len])
  intro k h1 h2
  have a := h k (by omega)
  have b := bitsN_at n z k (by omega)
  rw [List.getD_eq_getElem?_getD, List.getElem?_eq_getElem h1] at a
  rw [List.getD_eq_getElem?_getD, List.getElem?_eq_getElem h2] at b
  simp only [Option.getD_some] at a b
  rw [a, b]
theorem map_range_bits {n : Nat} {f : Nat → Int} {z : Int} (h : ∀ k, k < n → f k = z / 2 ^ k % 2) : (List.range n).map f = bitsN n z :=
  bitsN_eq (by simp) fun k hk => by
    rw [List.getD_eq_getElem?_getD, List.getElem?_eq_getElem (by simpa using hk)]
    simp [h k hk]
theorem plus_bitsN : ∀ (n : Nat) (c a b : Int), 0 ≤ c ∧ c ≤ 1 → plusFrom c (bitsN n a) (bitsN n b) = bitsN n (a + b + c)
  | 0, _, _, _, _ => rfl
  | n + 1, c, a, b, h => by
    rw [bitsN, bitsN, bitsN, plusFrom, plus_bitsN n _ _ _ (by omega)]
    congr 1
    · omega
    · congr 1; omega
theorem turn_bitsN : ∀ (n : Nat) (y : Int), ((bitsN n y).map fun y => 1 - y) = bitsN n (-1 - y)
  | 0, _ => rfl
  | n + 1, y => by
    rw [bitsN, bitsN, List.map_cons, turn_bitsN n]
    congr 1
    · omega
    · congr 1; omega
theorem zero_bitsN : ∀ n : Nat, List.replicate n 0 = bitsN n 0
  | 0 => rfl
  | n + 1 => by rw [bitsN, List.replicate_succ, zero_bitsN n]; rfl
theorem take_bitsN : ∀ (n m : Nat) (z : Int), m ≤ n → (bitsN n z).take m = bitsN m z
  | _, 0, _, _ => by simp [bitsN]
  | n + 1, m + 1, z, h => by rw [bitsN, bitsN, List.take_succ_cons, take_bitsN n m _ (by omega)]
theorem shift_bitsN (z : Int) : ∀ k j : Nat, List.replicate k 0 ++ bitsN j z = bitsN (k + j) (z * 2 ^ k)
  | 0, j => by simp
  | k + 1, j => by
    rw [List.replicate_succ, List.cons_append, shift_bitsN z k j, show k + 1 + j = (k + j) + 1 by omega, bitsN]
    have e : z * 2 ^ (k + 1) = 2 * (z * 2 ^ k) := by rw [Int.pow_succ, ← Int.mul_assoc]; omega
    rw [e]
    congr 1
    · omega
    · congr 1; omega
theorem mod_bitsN (b : Int) : ∀ (n : Nat) (a : Int), bitsN n (a + b * 2 ^ n) = bitsN n a
  | 0, _ => rfl
  | n + 1, a => by
    have e : b * 2 ^ (n + 1) = 2 * (b * 2 ^ n) := by rw [Int.pow_succ, ← Int.mul_assoc]; omega
    rw [bitsN, bitsN, e, ← mod_bitsN b n (a / 2)]
    congr 1
    · omega
    · congr 1; omega
theorem mod_pow_succ (y : Int) (k : Nat) : y % 2 ^ (k + 1) = y % 2 ^ k + (y / 2 ^ k % 2) * 2 ^ k := by
  have h1 := Int.emod_add_mul_ediv y (2 ^ k)
  have h2 := Int.emod_add_mul_ediv (y / 2 ^ k) 2
  have h3 := Int.emod_add_mul_ediv y (2 ^ (k + 1))
  have h4 : y / 2 ^ (k + 1) = y / 2 ^ k / 2 := by rw [Int.pow_succ, Int.ediv_ediv_of_nonneg (Int.le_of_lt (Int.pow_pos (by decide)))]
  rw [h4] at h3
  generalize y / 2 ^ k / 2 = q at *
  generalize y / 2 ^ k % 2 = r at *
  rw [Int.pow_succ] at h3 ⊢
  generalize (2 : Int) ^ k = P at *
  rw [← h2] at h1
  have e1 : P * (r + 2 * q) = r * P + P * 2 * q := by rw [Int.mul_add, Int.mul_comm P r, ← Int.mul_assoc]
  rw [e1] at h1
  omega
theorem mul_bits (x y : Int) : ∀ i : Nat, i ≤ 8 → (List.range i).foldl (mulStep (bitsN 8 x) (bitsN 8 y)) (List.replicate 8 0) = bitsN 8 (x * (y % 2 ^ i))
  | 0, _ => by simp [zero_bitsN 8]
  | i + 1, h => by
    rw [List.range_succ, List.foldl_append, List.foldl_cons, List.foldl_nil, mul_bits x y i (by omega)]
    unfold mulStep
    rw [bitsN_at 8 y i (by omega), mod_pow_succ, take_bitsN 8 (8 - i) x (by omega), shift_bitsN x i (8 - i), show i + (8 - i) = 8 by omega]
    have : y / 2 ^ i % 2 = 0 ∨ y / 2 ^ i % 2 = 1 := by omega
    rcases this with e | e
    · rw [e, if_neg (by decide)]; simp
    · rw [e, if_pos rfl, plus_bitsN 8 0 _ _ (by omega), Int.one_mul, Int.mul_add, Int.add_zero]
theorem mul_bits8 (x y : Int) : (List.range 8).foldl (mulStep (bitsN 8 x) (bitsN 8 y)) (List.replicate 8 0) = bitsN 8 (x * y) := by
  rw [mul_bits x y 8 (Nat.le_refl _), ← mod_bitsN (x * (y / 2 ^ 8)) 8]
  congr 1
  rw [Int.mul_assoc, ← Int.mul_add, Int.mul_comm (y / 2 ^ 8), Int.emod_add_mul_ediv]
theorem and_half (x y : Int) : Builtin.bitAnd x y / 2 = Builtin.bitAnd (x / 2) (y / 2) := by
  have := kbt_halves x y
  split at this <;> omega
theorem and_low (x y : Int) : Builtin.bitAnd x y % 2 = (x % 2) * (y % 2) := by
  have := kbt_halves x y
  have h1 : x % 2 = 0 ∨ x % 2 = 1 := by omega
  have h2 : y % 2 = 0 ∨ y % 2 = 1 := by omega
  rcases h1 with h1 | h1 <;> rcases h2 with h2 | h2 <;> rw [h1, h2] at this ⊢ <;> simp at this <;> omega
theorem or_half (x y : Int) : Builtin.bitOr x y / 2 = Builtin.bitOr (x / 2) (y / 2) := by
  have a := bitOr_and x y
  have b := bitOr_and (x / 2) (y / 2)
  have c := kbt_halves x y
  split at c <;> omega
theorem or_low (x y : Int) : Builtin.bitOr x y % 2 = max (x % 2) (y % 2) := by
  have a := bitOr_and x y
  have c := kbt_halves x y
  have h1 : x % 2 = 0 ∨ x % 2 = 1 := by omega
  have h2 : y % 2 = 0 ∨ y % 2 = 1 := by omega
  rcases h1 with h1 | h1 <;> rcases h2 with h2 | h2 <;> rw [h1, h2] at c ⊢ <;> simp at c ⊢ <;> omega
theorem xor_half (x y : Int) : Builtin.bitXor x y / 2 = Builtin.bitXor (x / 2) (y / 2) := by
  have a := bitXor_and x y
  have b := bitXor_and (x / 2) (y / 2)
  have c := kbt_halves x y
  split at c <;> omega
theorem xor_low (x y : Int) : Builtin.bitXor x y % 2 = (x % 2 + y % 2) % 2 := by
  have a := bitXor_and x y
  omega
theorem down {f : Int → Int → Int} (hf : ∀ x y, f x y / 2 = f (x / 2) (y / 2)) : ∀ (k : Nat) (x y : Int), f x y / 2 ^ k = f (x / 2 ^ k) (y / 2 ^ k)
  | 0, x, y => by simp
  | k + 1, x, y => by rw [← half_half, hf, down hf k, half_half, half_half]
/-- what a deed makes of two numbers -/
def opI (d : Int) (x y : Int) : Int :=
  if d = 0 then x + y else if d = 1 then x - y else if d = 2 then x * y else if d = 3 then Builtin.bitAnd x y else if d = 4 then Builtin.bitOr x y
  else if d = 5 then Builtin.bitXor x y else if d = 6 then -y else Builtin.bitNot y
theorem wires_bits {d : Int} (hd : 0 ≤ d ∧ d < 8) (x y : Int) : wiresL d (bitsN 8 x) (bitsN 8 y) = bitsN 8 (opI d x y) := by
  have : d = 0 ∨ d = 1 ∨ d = 2 ∨ d = 3 ∨ d = 4 ∨ d = 5 ∨ d = 6 ∨ d = 7 := eight (by first | assumption | exact ⟨by omega, by omega⟩)
  rcases this with rfl | rfl | rfl | rfl | rfl | rfl | rfl | rfl
  · rw [wires_0 rfl, plus_bitsN 8 0 _ _ (by omega), Int.add_zero]; rfl
  · rw [wires_1 rfl, turn_bitsN, plus_bitsN 8 1 _ _ (by omega)]
    show _ = bitsN 8 (x - y)
    congr 1; omega
  · rw [wires_2 rfl, mul_bits8]; rfl
  · rw [wires_3 rfl]
    refine map_range_bits fun k hk => ?_
    rw [bitsN_at 8 x k hk, bitsN_at 8 y k hk, ← and_low, ← down and_half]; rfl
  · rw [wires_4 rfl]
    refine map_range_bits fun k hk => ?_
    rw [bitsN_at 8 x k hk, bitsN_at 8 y k hk, ← or_low, ← down or_half]; rfl
  · rw [wires_5 rfl]
    refine map_range_bits fun k hk => ?_
    rw [bitsN_at 8 x k hk, bitsN_at 8 y k hk, ← xor_low, ← down xor_half]; rfl
  · rw [wires_6 rfl, turn_bitsN, zero_bitsN, plus_bitsN 8 1 _ _ (by omega)]
    show _ = bitsN 8 (-y)
    congr 1; omega
  · rw [wires_7 (by decide) (by decide) (by decide) (by decide) (by decide) (by decide) (by decide), turn_bitsN]
    show _ = bitsN 8 (-y - 1)
    congr 1; omega
/-- eight figures told as a number with a sign -/
def signed (l : List Int) : Int := ((List.range 7).map fun k => l.getD k 0 * 2 ^ k).sum - 128 * l.getD 7 0
theorem signed_bits (z : Int) : signed (bitsN 8 z) = Builtin.bitXor (Builtin.bitAnd z 255) 128 - 128 := by
  rw [bitAnd_m8, bitXor_and]
  have h := kbt_bit (z % 256) 7
  rw [show (2 : Int) ^ 7 = 128 by decide] at h
  rw [h]
  unfold signed
  rw [show List.range 7 = [0, 1, 2, 3, 4, 5, 6] from rfl]
  simp only [List.map_cons, List.map_nil, List.sum_cons, List.sum_nil]
  rw [bitsN_at 8 z 0 (by decide), bitsN_at 8 z 1 (by decide), bitsN_at 8 z 2 (by decide), bitsN_at 8 z 3 (by decide), bitsN_at 8 z 4 (by decide), bitsN_at 8 z 5 (by decide), bitsN_at 8 z 6 (by decide), bitsN_at 8 z 7 (by decide)]
  simp only [Int.reducePow]
  omega
theorem xor_back_aux : ∀ (k : Nat) (x y : Int), -(2 ^ k) ≤ x → x < 2 ^ k → -(2 ^ k) ≤ y → y < 2 ^ k → Builtin.bitXor (Builtin.bitXor x y) y = x
  | 0, x, y, a, b, c, d => by
    simp only [Int.pow_zero] at a b c d
    have h1 : x = -1 ∨ x = 0 := by omega
    have h2 : y = -1 ∨ y = 0 := by omega
    rcases h1 with rfl | rfl <;> rcases h2 with rfl | rfl <;> decide
  | k + 1, x, y, a, b, c, d => by
    rw [Int.pow_succ] at a b c d
    have ih := xor_back_aux k (x / 2) (y / 2) (by omega) (by omega) (by omega) (by omega)
    have e1 := xor_half (Builtin.bitXor x y) y
    rw [xor_half x y, ih] at e1
    have e2 := xor_low (Builtin.bitXor x y) y
    have e3 := xor_low x y
    omega
theorem xor_back (x y : Int) : Builtin.bitXor (Builtin.bitXor x y) y = x := by
  have h : ∀ z : Int, (z.natAbs : Int) < 2 ^ z.natAbs := fun z => by
    have := @Nat.lt_two_pow_self z.natAbs
    have e : ((2 ^ z.natAbs : Nat) : Int) = (2 : Int) ^ z.natAbs := by push_cast; rfl
    omega
  have hp : ∀ a b : Nat, (2 : Int) ^ a ≤ 2 ^ (a + b) := fun a b => by
    have := Nat.pow_le_pow_right (n := 2) (by decide) (Nat.le_add_right a b)
    have e : ((2 ^ a : Nat) : Int) = (2 : Int) ^ a := by push_cast; rfl
    have e' : ((2 ^ (a + b) : Nat) : Int) = (2 : Int) ^ (a + b) := by push_cast; rfl
    omega
  have h1 := h x
  have h2 := h y
  have h3 := hp x.natAbs y.natAbs
  have h4 := hp y.natAbs x.natAbs
  rw [Nat.add_comm] at h4
  exact xor_back_aux (x.natAbs + y.natAbs) x y (by omega) (by omega) (by omega) (by omega)
end
end
-- PART-END Plain2

section
open PySem PySem.W PyProof.Rows PySem.Spec PySem.Calls
section
open LCg
section
variable {M : Model} {A : Around} {E : Value → Shared → Prop} {s : Shared} {env : Env}
abbrev cellNone : Obj := { cls := .type "cell", data := .cell none }
abbrev dictNone : Obj := { cls := .type "dict", data := .dict #[] }
/-- the names hold one cell -/
def OneCell (scope : Scope) (x : Str) : Prop := ∀ (h : Heap) (n : Nat) (acc : List (Str × Addr)), pushCells h scope.names = h.push cellNone ∧ cellsFrom n scope.names acc = (x, n) :: acc
theorem newEnv_X {scope : Scope} {x : Str} {cl : List (Str × Addr)} {Q : Env → Shared → Prop} (hc : OneCell scope x)
    (h : Q { scope := scope, locals := s.heap.objs.size, globals := env.globals, cells := (x, s.heap.objs.size + 1) :: cl, qual := env.qual, func := none, code := env.code, frame := env.frame, builtins := env.builtins } { s with heap := (s.heap.push dictNone).push cellNone }) :
    wpAny M A (newFunctionEnv scope env.globals cl [] env.qual none .none (some env)) Q E s := by
  simp only [newFunctionEnv, Option.isSome_some, if_true]
  refine wpAny_bind (wpAny_alloc ?_)
  refine wpAny_bind (wpAny_layCells _ (fun name kind cells => by cases hkc : kind == NameKind.cell <;> simp [hkc]) _ _ _ _ ?_)
  rw [(hc _ 0 []).1, (hc (s.heap.push dictNone) _ cl).2, show ({ s with heap := s.heap.push dictNone } : Shared).heap.objs.size = s.heap.objs.size + 1 from Heap.size_push ..]
  refine wpAny_bind ?_
  rw [List.forIn_nil]
  exact wpAny_pure (wpAny_pure h)
end

def CompEndX (h₀ : Heap) (L : Addr) (m : Str → Option Value) (s₁ : Shared) (I : Addr) (oI : Obj) (C : Addr) (oC : Obj) (D : Addr) (oD : Obj) (K : Addr) (oK : Obj) (S : List (Addr × Obj) → Prop) (rest : Value → List (Addr × Obj) → Prop) (y : Value) (s₂ : Shared) : Prop :=
  ∃ h' tk news', s₂ = { s₁ with heap := h', toks := tk } ∧ Fr h₀ L h' m ∧ News h₀ L h' ((I, oI) :: (C, oC) :: (D, oD) :: (K, oK) :: news') ∧ Off3 I C D ((K, oK) :: news') ∧ Off1 K news' ∧ S news' ∧ rest y news'
theorem CompEndX.intro {h₀ : Heap} {L I C D K : Addr} {m : Str → Option Value} {s₁ : Shared} {oI oC oD oK : Obj} {S : List (Addr × Obj) → Prop} {rest : Value → List (Addr × Obj) → Prop} {y : Value} {h' : Heap} {tk : Nat} {all : List (Addr × Obj)}
    (F : Fr h₀ L h' m) (N : News h₀ L h' all) (news' : List (Addr × Obj)) (sub : ∀ p ∈ (I, oI) :: (C, oC) :: (D, oD) :: (K, oK) :: news', p ∈ all) (off : Off3 I C D ((K, oK) :: news')) (offK : Off1 K news') (hS : S news') (r : rest y news') :
    CompEndX h₀ L m s₁ I oI C oC D oD K oK S rest y { s₁ with heap := h', toks := tk } := ⟨h', tk, news', rfl, F, fun p hp => N p (sub p hp), off, offK, hS, r⟩

def CompRestX (prog : Program) (w : World) (A : Around) (h₀ : Heap) (L : Addr) (m : Str → Option Value) (env : Env) (elt : PySem.Expr) (x : Str) (scope : Scope) (cl : List (Str × Addr)) (K : Addr) (s : Shared) (S : List (Addr × Obj) → Prop) (P : Nat → Value → Prop)
    (Fin : List Value → List (Addr × Obj) → Prop) : Nat → Nat → List Value → List (Addr × Obj) → Prop
  | 0, _, ys, news => Fin ys news
  | k + 1, i, ys, news => ∀ v I oI C oC D oK h tk (E' : Value → Shared → Prop), P i v → oK.data = .cell (some v) → Fr h₀ L h m → News h₀ L h ((I, oI) :: (C, oC) :: (D, lst ys) :: (K, oK) :: news) → Off3 I C D ((K, oK) :: news) → Off1 K news → ((@Ne Nat I C) ∧ (@Ne Nat I D) ∧ (@Ne Nat C D)) →
      wpAny (model prog w) A (eval elt (compEnvC scope ((x, K) :: cl) C env)) (CompEndX h₀ L m { s with heap := h, toks := tk } I oI C oC D (lst ys) K oK S (fun y news' => CompRestX prog w A h₀ L m env elt x scope cl K s S P Fin k (i + 1) (ys ++ [y]) news')) E' { s with heap := h, toks := tk }
theorem Off1.mem' {D : Addr} : ∀ {l : List (Addr × Obj)}, Off1 D l → ∀ p ∈ l, p.1 ≠ D
  | [], _, _, h => nomatch h
  | _ :: _, x, p, h => by
    rcases List.mem_cons.mp h with rfl | h
    · exact x.1
    · exact Off1.mem' x.2 p h
theorem Off1.of' {D : Addr} : ∀ {l : List (Addr × Obj)}, (∀ p ∈ l, p.1 ≠ D) → Off1 D l
  | [], _ => trivial
  | _ :: _, h => ⟨h _ List.mem_cons_self, Off1.of' fun p hp => h p (List.mem_cons_of_mem _ hp)⟩
section
variable {prog : Program} {w : World} {A : Around} {E : Value → Shared → Prop} {s : Shared} {h₀ : Heap} {L : Addr} {m : Str → Option Value} {env : Env}
set_option maxHeartbeats 1000000 in
theorem block_X {elt iter : PySem.Expr} {x : Str} {px : Pos} {scope : Scope} {cl : List (Str × Addr)} {pos : Pos} {s₂ : Shared} {I : Addr} {fp : List Addr} {n : Nat} {P : Nat → Value → Prop} {St : Nat → Heap → Prop} {S : List (Addr × Obj) → Prop} {news : List (Addr × Obj)}
    {Fin : List Value → List (Addr × Obj) → Prop} {RR : Value → Addr → Result → Shared → Prop}
    (W : Walks prog w A I fp [I] n P St) (hsz : n ≤ sizeLine) (hIo : ∀ i h, St i h → ∃ o, h.get? I = some o)
    (hSt : ∀ i h h' o nw, St i h → h.get? I = some o → h'.get? I = some o → (∀ b o, h₀.get? b = some o → h'.get? b = some o) → News h₀ L h' nw → S nw → St i h')
    (hcell : OneCell scope x) (hkind : scope.kind = .function) (hx : ∀ K C, (compEnvC scope ((x, K) :: cl) C env).kindOf x = some .cell) (hst : St 0 s₂.heap) (hfp : ∀ b ∈ fp, b < s₂.heap.objs.size)
    (F : Fr h₀ L s₂.heap m) (N : News h₀ L s₂.heap news) (hIL : L ≠ I) (hI₀ : h₀.get? I = none) (off : ∀ p ∈ news, p.1 ≠ I) (hS : S news)
    (R : ∀ K, CompRestX prog w A h₀ L m env elt x scope cl K s₂ S P Fin n 0 [] news)
    (hRR : ∀ D C h tk m' ys news', Fr h₀ L h m → News h₀ L h ((D, lst ys) :: news') → Off1 D news' → h.Ns C m' → h₀.get? C = none → h₀.get? D = none → C ≠ L → D ≠ L → C ≠ D → (∀ p ∈ news', p.1 ≠ C) → Fin ys news' → RR (.ref D) C (.ok .next) { s₂ with heap := h, toks := tk }) :
    wpAny (model prog w) A (newList []) (fun acc s₃ => wpAny (model prog w) A (newFunctionEnv scope env.globals cl [] env.qual none .none (some env)) (fun cenv s₄ =>
      codeAny (model prog w) A (.compStart (.ListComp elt [⟨.Name x px, iter, [], 0⟩] scope pos) 0 (.ref I) acc { cenv with scope := relabel scope env }) (RR acc cenv.locals) s₄) E s₃) E s₂ := by
  refine wpAny_newObj_type (newEnv_X hcell ?_)
  dsimp only
  generalize hH2 : s₂.heap.push { cls := .type "list", dict := none, data := .seq ([] : List Value).toArray } = H2
  have hC : H2.objs.size = s₂.heap.objs.size + 1 := by rw [← hH2, Heap.size_push]
  generalize hH1 : (H2.push dictNone).push cellNone = h₁
  have hKs : (H2.push dictNone).objs.size = H2.objs.size + 1 := Heap.size_push ..
  generalize hK : H2.objs.size + 1 = K at *
  have hDC : s₂.heap.objs.size ≠ H2.objs.size := by rw [hC]; exact Nat.ne_of_lt (Nat.lt_succ_self _)
  have hCK : H2.objs.size ≠ K := by rw [← hK]; exact Nat.ne_of_lt (Nat.lt_succ_self _)
  have hDK : s₂.heap.objs.size ≠ K := by rw [← hK, hC]; exact Nat.ne_of_lt (Nat.lt_succ_of_lt (Nat.lt_succ_self _))
  have below : ∀ b, b < s₂.heap.objs.size → b ≠ H2.objs.size ∧ b ≠ s₂.heap.objs.size ∧ b ≠ K := fun b hb => ⟨by rw [hC]; exact Nat.ne_of_lt (Nat.lt_succ_of_lt hb), Nat.ne_of_lt hb, by rw [← hK, hC]; exact Nat.ne_of_lt (Nat.lt_succ_of_lt (Nat.lt_succ_of_lt hb))⟩
  have hDf : s₂.heap.objs.size ∉ fp := fun hm => Nat.lt_irrefl _ (hfp _ hm)
  have hKf : K ∉ fp := fun hm => (below _ (hfp _ hm)).2.2 rfl
  have hIf : I ∈ fp := W.sub I (List.mem_singleton.mpr rfl)
  have hIlt : I < s₂.heap.objs.size := hfp I hIf
  have up : ∀ b o, H2.get? b = some o → h₁.get? b = some o := fun b o e => by rw [← hH1]; exact Heap.get?_push_of_some _ (Heap.get?_push_of_some _ e)
  have old : ∀ b o, s₂.heap.get? b = some o → h₁.get? b = some o := fun b o e => up b o (hH2 ▸ Heap.get?_push_of_some _ e)
  have hacc : h₁.get? s₂.heap.objs.size = some (lst []) := up _ _ (hH2 ▸ Heap.get?_push_size _ rfl)
  have hns₁ : h₁.Ns H2.objs.size (fun _ => none) := by
    rw [← hH1]
    exact (Heap.Ns.new H2 (.type "dict")).keeps fun b o e => Heap.get?_push_of_some _ e
  have hcl₁ : h₁.IsCell K none := ⟨_, by rw [← hH1, ← hKs]; exact Heap.get?_push_size _ rfl, rfl⟩
  have hst₁ : St 0 h₁ := W.frame _ _ _ hst fun b _ o e => old b o e
  have fresh : ∀ a, s₂.heap.objs.size ≤ a → s₂.heap.get? a = none := fun a ha => by
    cases e : s₂.heap.get? a with
    | none => rfl
    | some o' => exact absurd (Heap.lt_size e) (Nat.not_lt.mpr ha)
  have fresh₀ : ∀ a, s₂.heap.objs.size ≤ a → h₀.get? a = none := fun a ha => by
    cases e : h₀.get? a with
    | none => rfl
    | some o' => have := F.keep a o' e; rw [fresh a ha] at this; cases this
  have hD₀ : h₀.get? s₂.heap.objs.size = none := fresh₀ _ (Nat.le_refl _)
  have hC₀ : h₀.get? H2.objs.size = none := fresh₀ _ (by rw [hC]; exact Nat.le_succ _)
  have hK₀ : h₀.get? K = none := fresh₀ _ (by rw [← hK, hC]; exact Nat.le_succ_of_le (Nat.le_succ _))
  have hLlt : L < s₂.heap.objs.size := F.ns.lt
  have hDL : s₂.heap.objs.size ≠ L := Ne.symm (below L hLlt).2.1
  have hCL : H2.objs.size ≠ L := Ne.symm (below L hLlt).1
  have hKL : K ≠ L := Ne.symm (below L hLlt).2.2
  have hCI : I ≠ H2.objs.size := (below I hIlt).1
  have hDI : I ≠ s₂.heap.objs.size := (below I hIlt).2.1
  have hKI : I ≠ K := (below I hIlt).2.2
  have off₀ : Off3 I H2.objs.size s₂.heap.objs.size news := Off3.of fun p hp => ⟨off p hp, (below _ (Heap.lt_size (N p hp).1)).1, (below _ (Heap.lt_size (N p hp).1)).2.1⟩
  have offK₀ : Off1 K news := Off1.of' fun p hp => (below _ (Heap.lt_size (N p hp).1)).2.2
  have loop : ∀ s₃ : Shared, s₃ = { s₂ with heap := h₁, toks := s₂.toks } →
      codeAny (model prog w) A (.compLoop (.ListComp elt [⟨.Name x px, iter, [], 0⟩] scope pos) 0 (.ref I) (.ref s₂.heap.objs.size) (compEnvC scope ((x, K) :: cl) H2.objs.size env))
        (RR (.ref s₂.heap.objs.size) H2.objs.size) s₃ := by
    rintro s₃ rfl
    refine codeAny_compLoop_tests
      (fun k s' => ∃ h' tk i ys m' news' vK, s' = { s₂ with heap := h', toks := tk } ∧ i ≤ n ∧ k = n + 1 - i ∧ ys.length = i ∧ St i h' ∧ Fr h₀ L h' m ∧ h'.Ns H2.objs.size m' ∧ h'.IsCell K vK ∧ News h₀ L h' ((s₂.heap.objs.size, lst ys) :: news') ∧
        Off3 I H2.objs.size s₂.heap.objs.size news' ∧ Off1 K news' ∧ S news' ∧ CompRestX prog w A h₀ L m env elt x scope cl K s₂ S P Fin (n - i) i ys news') ?_ (n + 1)
      ⟨h₁, _, 0, [], _, news, none, rfl, Nat.zero_le _, rfl, rfl, hst₁, F.keeps old, hns₁, hcl₁, fun p hp => ?_, off₀, offK₀, hS, R K⟩
    · rintro k s' ⟨h', tk, i, ys, m', news', vK, rfl, hi, rfl, hyl, hst', F', hn', hk', N', off', offK', hS', R'⟩
      have off3 := off'.mem
      have offK1 := Off1.mem' offK'
      by_cases hlt : i < n
      · obtain ⟨j, hj⟩ : ∃ j, n - i = j + 1 := ⟨n - i - 1, by omega⟩
        rw [hj] at R'
        refine W.item i _ _ _ hlt hst' fun v h₂ tk₂ hPv hst₂ hk₂ => ?_
        have hk₂' : h₂.IsCell K vK := by
          obtain ⟨o, e, d⟩ := hk'
          exact ⟨o, hk₂ K o (by simpa using Ne.symm hKI) e, d⟩
        refine wpAny_assign_Name (wpAny_storeName_cell (by simp [compEnvC, relabel, hkind]) (hx K H2.objs.size) (by simp [compEnvC]) hk₂' fun h₃ hc₃ hs₃ => ?_)
        refine wpAny_tests_nil ?_
        simp only [if_true]
        have hst₃ : St (i + 1) h₃ := W.frame _ _ _ hst₂ fun b hb o e => hs₃.extBut b o (fun q => hKf (q ▸ hb)) e
        obtain ⟨oI, heI⟩ := hIo _ _ hst₃
        have hn₂ : h₂.Ns H2.objs.size m' := hn'.at' fun o e => hk₂ _ o (by simpa using Ne.symm hCI) e
        have hn₃ : h₃.Ns H2.objs.size m' := hn₂.sameBut hs₃ hCK
        obtain ⟨oC, heC, hoC⟩ := ns_obj hn₃
        obtain ⟨oK, heK, hdK⟩ := hc₃
        have F₃ : Fr h₀ L h₃ m := (fr_but F' hk₂ hIL hI₀).change hs₃ hKL hK₀
        have N₂ : News h₀ L h₂ ((s₂.heap.objs.size, lst ys) :: news') := news_but N' hk₂ fun p hp => by
          rcases List.mem_cons.mp hp with rfl | hp
          · exact Ne.symm hDI
          · exact (off3 p hp).1
        have N₃ : News h₀ L h₃ ((I, oI) :: (H2.objs.size, oC) :: (s₂.heap.objs.size, lst ys) :: (K, oK) :: news') := fun p hp => by
          rcases List.mem_cons.mp hp with rfl | hp
          · exact ⟨heI, Ne.symm hIL, hI₀⟩
          rcases List.mem_cons.mp hp with rfl | hp
          · exact ⟨heC, hCL, hC₀⟩
          rcases List.mem_cons.mp hp with rfl | hp
          · have z := N₂ _ (List.Mem.head _)
            exact ⟨hs₃.extBut _ _ hDK z.1, z.2⟩
          rcases List.mem_cons.mp hp with rfl | hp
          · exact ⟨heK, hKL, hK₀⟩
          · have z := N₂ p (List.mem_cons_of_mem _ hp)
            exact ⟨hs₃.extBut _ _ (offK1 p hp) z.1, z.2⟩
        have offX : Off3 I H2.objs.size s₂.heap.objs.size ((K, oK) :: news') := ⟨⟨Ne.symm hKI, Ne.symm hCK, Ne.symm hDK⟩, off'⟩
        refine wpAny_mono (R' v I oI H2.objs.size oC s₂.heap.objs.size oK h₃ _ _ hPv hdK F₃ N₃ offX offK' ⟨hCI, hDI, Ne.symm hDC⟩) (fun y s₄ h₄ => ?_) fun _ _ e => e
        obtain ⟨h₄, tk₄, news₄, rfl, F₄, N₄, off₄, offK₄, hS₄, R₄⟩ := h₄
        have zI := (N₄ (I, oI) List.mem_cons_self).1
        have zC := (N₄ (H2.objs.size, oC) (List.mem_cons_of_mem _ List.mem_cons_self)).1
        have zD := (N₄ (s₂.heap.objs.size, lst ys) (List.mem_cons_of_mem _ (List.mem_cons_of_mem _ List.mem_cons_self))).1
        have zK := (N₄ (K, oK) (List.mem_cons_of_mem _ (List.mem_cons_of_mem _ (List.mem_cons_of_mem _ List.mem_cons_self)))).1
        have N₄' : News h₀ L h₄ news₄ := fun p hp => N₄ p (List.mem_cons_of_mem _ (List.mem_cons_of_mem _ (List.mem_cons_of_mem _ (List.mem_cons_of_mem _ hp))))
        have hst₄ : St (i + 1) h₄ := hSt _ _ _ _ _ hst₃ heI zI F₄.keep N₄' hS₄
        refine append_at (hsz := by show ys.toArray.size ≤ sizeLine; rw [List.size_toArray, hyl]; exact Nat.le_trans hi hsz) zD fun h₅ hs₅ hD₅ => ?_
        have off4 := off₄.2.mem
        refine ⟨n + 1 - (i + 1), by omega, h₅, tk₄, i + 1, ys ++ [y], _, news₄, some v, rfl, hlt, rfl, by rw [List.length_append, List.length_singleton, hyl], W.frame _ _ _ hst₄ fun b hb o e => hs₅.extBut b o (fun q => hDf (q ▸ hb)) e, F₄.change hs₅ hDL hD₀,
          (hoC.ns zC).sameBut hs₅ (Ne.symm hDC), ⟨oK, hs₅.extBut _ _ (Ne.symm hDK) zK, hdK⟩, fun p hp => ?_, off₄.2, offK₄, hS₄, ?_⟩
        · rcases List.mem_cons.mp hp with rfl | hp
          · exact ⟨hD₅.trans (congrArg some (lst_snoc ys y)), hDL, hD₀⟩
          · exact ⟨hs₅.extBut _ _ (off4 p hp).2.2 (N₄' p hp).1, (N₄' p hp).2⟩
        · rw [show n - (i + 1) = j by omega]
          exact R₄
      · obtain rfl : i = n := Nat.le_antisymm hi (Nat.not_lt.mp hlt)
        rw [Nat.sub_self] at R'
        refine W.done _ _ _ hst' fun h₂ tk₂ hk₂ => ?_
        exact hRR _ _ h₂ tk₂ _ ys news' (fr_but F' hk₂ hIL hI₀) (news_but N' hk₂ fun p hp => by
          rcases List.mem_cons.mp hp with rfl | hp
          · exact Ne.symm hDI
          · exact (off3 p hp).1) off'.one (hn'.at' fun o e => hk₂ _ o (by simpa using Ne.symm hCI) e) hC₀ hD₀ hCL hDL (Ne.symm hDC) (fun p hp => (off3 p hp).2.1) R'
    · rcases List.mem_cons.mp hp with rfl | hp
      · exact ⟨hacc, hDL, hD₀⟩
      · exact ⟨old _ _ (N p hp).1, (N p hp).2⟩
  exact codeAny_compStart_list (loop _ rfl) (W.self 0 _ _ _ hst₁ (loop _ rfl))

def SrcX (prog : Program) (w : World) (A : Around) (h₀ : Heap) (L : Addr) (m : Str → Option Value) (env : Env) (elt : PySem.Expr) (x : Str) (scope : Scope) (cl : List (Str × Addr)) (Fin : Shared → List Value → List (Addr × Obj) → Prop) (xv : Value) (s₁ : Shared) : Prop :=
  ∃ ax its news, xv = .ref ax ∧ A.handled = none ∧ Fr h₀ L s₁.heap m ∧ News h₀ L s₁.heap news ∧ SrcAt h₀ ax its news ∧ its.size ≤ sizeLine ∧
    ∀ (s₂ : Shared) (K : Addr), (∃ h, s₂ = { s₁ with heap := h }) → CompRestX prog w A h₀ L m env elt x scope cl K s₂ (SrcAt h₀ ax its) (fun i v => its[i]? = some v) (Fin s₂) its.size 0 [] news
theorem SrcX.ledger {elt : PySem.Expr} {x : Str} {scope : Scope} {cl : List (Str × Addr)} {Fin : Shared → List Value → List (Addr × Obj) → Prop} {ax : Addr} {its : Array Value} {k : Nat} {news : List (Addr × Obj)} {s₁ : Shared}
    (hh : A.handled = none) (F : Fr h₀ L s₁.heap m) (N : News h₀ L s₁.heap news) (hm : (ax, ({ cls := .type "list", data := .seq its k } : Obj)) ∈ news) (hsz : its.size ≤ sizeLine)
    (h : ∀ g K, CompRestX prog w A h₀ L m env elt x scope cl K { s₁ with heap := g } (SrcAt h₀ ax its) (fun i v => its[i]? = some v) (Fin { s₁ with heap := g }) its.size 0 [] news) :
    SrcX prog w A h₀ L m env elt x scope cl Fin (.ref ax) s₁ := ⟨ax, its, news, rfl, hh, F, N, .inr ⟨_, hm, rfl, _, rfl⟩, hsz, fun _ K ⟨g, e⟩ => e ▸ h g K⟩
theorem compX_turns {elt : PySem.Expr} {x : Str} {scope : Scope} {cl : List (Str × Addr)} {K : Addr} {S : List (Addr × Obj) → Prop} {P : Nat → Value → Prop} {Fin : List Value → List (Addr × Obj) → Prop} (n : Nat) (J : Nat → List Value → List (Addr × Obj) → Prop)
    (turn : ∀ i ys news v I oI C oC D oK h tk (E' : Value → Shared → Prop), i < n → P i v → J i ys news → oK.data = .cell (some v) → Fr h₀ L h m → News h₀ L h ((I, oI) :: (C, oC) :: (D, lst ys) :: (K, oK) :: news) → Off3 I C D ((K, oK) :: news) → Off1 K news → ((@Ne Nat I C) ∧ (@Ne Nat I D) ∧ (@Ne Nat C D)) →
      wpAny (model prog w) A (eval elt (compEnvC scope ((x, K) :: cl) C env)) (CompEndX h₀ L m { s with heap := h, toks := tk } I oI C oC D (lst ys) K oK S (fun y news' => J (i + 1) (ys ++ [y]) news')) E' { s with heap := h, toks := tk })
    (fin : ∀ ys news, J n ys news → Fin ys news) :
    ∀ k i ys news, i + k = n → J i ys news → CompRestX prog w A h₀ L m env elt x scope cl K s S P Fin k i ys news := by
  intro k
  induction k with
  | zero => intro i ys news hi hj; obtain rfl : i = n := by omega
            exact fin ys news hj
  | succ k ih =>
    intro i ys news hi hj
    intro v I oI C oC D oK h tk E' hP hK F N off offK ne
    refine wpAny_mono (turn i ys news v I oI C oC D oK h tk E' (by omega) hP hj hK F N off offK ne) (fun y s₂ h₂ => ?_) fun _ _ e => e
    obtain ⟨h', tk', news', e, F', N', off', offK', hS, hJ⟩ := h₂
    exact ⟨h', tk', news', e, F', N', off', offK', hS, ih (i + 1) (ys ++ [y]) news' (by omega) hJ⟩
theorem compX_turnsT {elt : PySem.Expr} {x : Str} {scope : Scope} {cl : List (Str × Addr)} {K : Addr} {S : List (Addr × Obj) → Prop} {P : Nat → Value → Prop} {Fin : List Value → List (Addr × Obj) → Prop} (n : Nat) (J : Nat → List Value → List (Addr × Obj) → Prop)
    (turn : ∀ i ys news v I oI C oC D oK h tk (E' : Value → Shared → Prop), i < n → P i v → J i ys news → oK.data = .cell (some v) → Fr h₀ L h m → News h₀ L h ((I, oI) :: (C, oC) :: (D, lst ys) :: (K, oK) :: news) → Off3 I C D ((K, oK) :: news) → Off1 K news → ((@Ne Nat I C) ∧ (@Ne Nat I D) ∧ (@Ne Nat C D)) →
      ∀ CE : Value → Shared → Prop, (∀ y s', CompEndX h₀ L m { s with heap := h, toks := tk } I oI C oC D (lst ys) K oK S (fun y news' => J (i + 1) (ys ++ [y]) news') y s' → CE y s') → wpAny (model prog w) A (eval elt (compEnvC scope ((x, K) :: cl) C env)) CE E' { s with heap := h, toks := tk })
    (fin : ∀ ys news, J n ys news → Fin ys news) :
    ∀ k i ys news, i + k = n → J i ys news → CompRestX prog w A h₀ L m env elt x scope cl K s S P Fin k i ys news :=
  compX_turns n J (fun i ys news v I oI C oC D oK h tk E' a b c d e f g k l => turn i ys news v I oI C oC D oK h tk E' a b c d e f g k l _ fun _ _ x => x) fin
theorem ListComp_X {elt iter : PySem.Expr} {x : Str} {px : Pos} {scope : Scope} {cl : List (Str × Addr)} {pos : Pos} {Q : Value → Shared → Prop} (_F₀ : Fr h₀ L s.heap m)
    (hclos : closureFor scope env = pure cl) (hcell : OneCell scope x) (hkind : scope.kind = .function)
    (hnames : ∀ y ∈ scope.names, y.2 = .local → scope.names.lookup y.1 = some .local) (hx : ∀ K C, (compEnvC scope ((x, K) :: cl) C env).kindOf x = some .cell)
    (h : wpAny (model prog w) A (eval iter env) (SrcX prog w A h₀ L m env elt x scope cl (fun s₂ => FinE h₀ L m s₂ Q)) E s)
    (hs : ∀ x, foldedSetIterable iter env x = pure x := by intro _; rfl) :
    wpAny (model prog w) A (eval (.ListComp elt [⟨.Name x px, iter, [], 0⟩] scope pos) env) Q E s := by
  rw [eval_ListComp]
  refine wpAny_comprehension_free (use := none) rfl hs hclos hkind hnames (wpAny_mono h (fun xv s₁ h₁ => ?_) fun _ _ e => e)
  obtain ⟨ax, its, news, rfl, hh, F, N, S, hsz, R⟩ := h₁
  have hl := S.list F.keep N
  have hlt : ax < s₁.heap.objs.size := by obtain ⟨_, e, _⟩ := hl; exact Heap.lt_size e
  refine wpAny_pyIter_list hl ?_
  have up : ∀ b o, s₁.heap.get? b = some o → (s₁.heap.push { cls := .type "list_iterator", data := .fields #[.ref ax, .int 0 0] }).get? b = some o := fun b o e => Heap.get?_push_of_some _ e
  refine block_X (Walks.list hh s₁.heap.objs.size ax (Nat.ne_of_lt hlt) its) hsz (fun i h st => by obtain ⟨o, e, _⟩ := st.1; exact ⟨o, e⟩) list_st hcell hkind hx ⟨⟨_, Heap.get?_push_size _ rfl, rfl, rfl⟩, hl.push _⟩ (fun b hb => ?_)
    (F.keeps up) (N.grown up) (Nat.ne_of_lt F.ns.lt) (next_is_new F) (fun p hp => Nat.ne_of_lt (Heap.lt_size (N p hp).1)) S (fun K => R _ K ⟨_, rfl⟩) ?_
  · show b < (s₁.heap.push _).objs.size
    rw [Heap.size_push]
    rcases List.mem_cons.mp hb with rfl | hb
    · exact Nat.lt_succ_self _
    · rw [List.mem_singleton.mp hb]; exact Nat.lt_succ_of_lt hlt
  · intro D C h tk m' ys news' F' N' o1 hn hC₀ hD₀ hCL hDL hCD offC fin
    refine ⟨m', hn, fun h'' hs'' => fin D h'' tk (F'.change hs'' hCL hC₀) (fun p hp => ?_) o1⟩
    refine ⟨hs''.extBut _ _ ?_ (N' p hp).1, (N' p hp).2⟩
    rcases List.mem_cons.mp hp with rfl | hp
    · exact Ne.symm hCD
    · exact offC p hp
theorem Assign_ListComp_X {elt iter : PySem.Expr} {x y : Str} {px py : Pos} {scope : Scope} {cl : List (Str × Addr)} {pos spos : Pos} {Q : Flow → Shared → Prop} (_F₀ : Fr h₀ L s.heap m) (hLe : env.locals = L)
    (hsw : swapsWith (.ListComp elt [⟨.Name x px, iter, [], 0⟩] scope pos) (some (.Name y py)) spos.line env = pure true)
    (hclos : closureFor scope env = pure cl) (hcell : OneCell scope x) (hkind : scope.kind = .function)
    (hnames : ∀ z ∈ scope.names, z.2 = .local → scope.names.lookup z.1 = some .local) (hx : ∀ K C, (compEnvC scope ((x, K) :: cl) C env).kindOf x = some .cell)
    (hy : env.kindOf y = some .local) (hp : (env.scope.kind == .class || (env.scope.kind == .module && env.locals != env.globals)) = false)
    (h : wpAny (model prog w) A (eval iter env) (SrcX prog w A h₀ L m env elt x scope cl (fun s₂ => FinA h₀ L m s₂ y Q)) E s)
    (hs : ∀ x, foldedSetIterable iter env x = pure x := by intro _; rfl) :
    wpAny (model prog w) A (exec (.Assign [.Name y py] (.ListComp elt [⟨.Name x px, iter, [], 0⟩] scope pos) spos) env) Q E s := by
  subst hLe
  rw [exec_Assign_Name_used _ _ _ _ hsw]
  refine wpAny_bind (wpAny_standAt (wpAny_bind ?_))
  show wpAny _ A (do let _ ← comprehension (.ListComp elt [⟨.Name x px, iter, [], 0⟩] scope pos) scope env _ (newList []) false (eval iter env) (some (assign (.Name y py) env))) _ _ s
  refine wpAny_bind (wpAny_mono (wpAny_comprehension_free (use := some (assign (.Name y py) env)) (Q := fun _ s' => Q .next s') rfl hs hclos hkind hnames
    (wpAny_mono h (fun xv s₁ h₁ => ?_) fun _ _ e => e)) (fun _ s' hq => wpAny_pure (wpAny_pure hq)) fun _ _ e => e)
  obtain ⟨ax, its, news, rfl, hh, F, N, S, hsz, R⟩ := h₁
  have hl := S.list F.keep N
  have hlt : ax < s₁.heap.objs.size := by obtain ⟨_, e, _⟩ := hl; exact Heap.lt_size e
  refine wpAny_pyIter_list hl ?_
  have up : ∀ b o, s₁.heap.get? b = some o → (s₁.heap.push { cls := .type "list_iterator", data := .fields #[.ref ax, .int 0 0] }).get? b = some o := fun b o e => Heap.get?_push_of_some _ e
  refine block_X (Walks.list hh s₁.heap.objs.size ax (Nat.ne_of_lt hlt) its) hsz (fun i h st => by obtain ⟨o, e, _⟩ := st.1; exact ⟨o, e⟩) list_st hcell hkind hx ⟨⟨_, Heap.get?_push_size _ rfl, rfl, rfl⟩, hl.push _⟩ (fun b hb => ?_)
    (F.keeps up) (N.grown up) (Nat.ne_of_lt F.ns.lt) (next_is_new F) (fun p hp => Nat.ne_of_lt (Heap.lt_size (N p hp).1)) S (fun K => R _ K ⟨_, rfl⟩) ?_
  · show b < (s₁.heap.push _).objs.size
    rw [Heap.size_push]
    rcases List.mem_cons.mp hb with rfl | hb
    · exact Nat.lt_succ_self _
    · rw [List.mem_singleton.mp hb]; exact Nat.lt_succ_of_lt hlt
  · intro D C h' tk m' ys news' F' N' o1 hn hC₀ hD₀ hCL hDL hCD offC fin
    show wpAny _ A (assign (.Name y py) env (.ref D)) _ _ _
    refine wpAny_assign_Name (wpAny_storeName_local hy F'.ns (fun h₂ hn₂ hs₂ => ?_) hp)
    have hL₀ : h₀.get? env.locals = none := Heap.get?_none_of_le F'.above
    have F₂ : Fr h₀ env.locals h₂ (fun z => if z = y then some (.ref D) else m z) := ⟨hn₂, fun b o e => hs₂.extBut b o (fun q => by rw [q, hL₀] at e; cases e) (F'.keep b o e), F'.above⟩
    refine ⟨m', hn.sameBut hs₂ hCL, fun h'' hs'' => fin D h'' _ (F₂.change hs'' hCL hC₀) (fun p hp => ?_) o1⟩
    have z : h₂.get? p.1 = some p.2 := hs₂.extBut _ _ (N' p hp).2.1 (N' p hp).1
    refine ⟨hs''.extBut _ _ ?_ z, (N' p hp).2⟩
    rcases List.mem_cons.mp hp with rfl | hp
    · exact Ne.symm hCD
    · exact offC p hp
end
end
end
-- PART-END CompX

section
open PySem PySem.W PyProof.Rows
section
section
variable {prog : Program} {w : World} {A : Around} {E : Value → Shared → Prop} {s : Shared} {h₀ : Heap} {L D : Addr} {m : Str → Option Value} {news news' : List (Addr × Obj)} {vs : List Value} {n : Nat} {k : Int} {t : Tok} {v : Value}
theorem set_val {Q : Unit → Shared → Prop} (F : Fr h₀ L s.heap m) (N : News h₀ L s.heap news) (U : Upd D (W.listOf vs.toArray n) (W.listOf (vs.set k.toNat v).toArray n) news news') (h0 : 0 ≤ k) (h1 : k < vs.length) (hfit : k < 2 ^ 63)
    (h : ∀ h', Fr h₀ L h' m → News h₀ L h' news' → Q () { s with heap := h' }) :
    wpAny (model prog w) A (setItem (.ref D) (.int k t) v) Q E s := by
  obtain ⟨pre, post, rfl, rfl, a, b⟩ := U.split
  have z := N (D, W.listOf vs.toArray n) (List.mem_append.mpr (.inr (.head _)))
  have hs : vs.toArray.size = vs.length := List.size_toArray
  refine ki_setAt z.1 h0 hfit (by omega) (h _ (F.change (Heap.SameBut.update ..) z.2.1 z.2.2) (ki_turn _ N a b ?_ ?_))
  · show vs.toArray.setIfInBounds k.toNat v = (vs.set k.toNat v).toArray
    apply Array.toList_inj.mp
    simp
  · simp
end
local macro_rules | `(tactic| walk_at "subscriptTail") => `(tactic| walk_at "my item")
set_option maxRecDepth 100000 in
set_option maxHeartbeats 4000000 in
theorem add_op (w : World) (x y : Int) (t u : Tok) (news : List (Addr × Obj)) :
    Spec2c w 4 40 104 [.int x t, .int y u] (fun _ => True) news (fun r nx => ∃ t, r = .int (x + y) t ∧ nx = news) := by
  w_top off
  unfold Spec2c PRG KK
  k_fill
  intro p loose mean mg mb dp un gd cn cs a ccd cl outer A₀ base h₀ L m s Q E B F X N T hk hcd hdp hun hret
  cases cs
  cases hk
  have kM : KdMark := kdMark
  k_dflt k_enter
  rename Fr h₀ L _ m => FG
  k_steps
  rename_i kF kN TcI kXI
  exact hret _ _ _ _ kF kN ⟨_, rfl, rfl⟩
set_option maxRecDepth 100000 in
set_option maxHeartbeats 4000000 in
theorem and_op (w : World) (x y : Int) (t u : Tok) (news : List (Addr × Obj)) :
    Spec2c w 4 40 111 [.int x t, .int y u] (fun _ => True) news (fun r nx => ∃ t, r = .int (Builtin.bitAnd x y) t ∧ nx = news) := by
  w_top off
  unfold Spec2c PRG KK
  k_fill
  intro p loose mean mg mb dp un gd cn cs a ccd cl outer A₀ base h₀ L m s Q E B F X N T hk hcd hdp hun hret
  cases cs
  cases hk
  have kM : KdMark := kdMark
  k_dflt k_enter
  rename Fr h₀ L _ m => FG
  k_steps
  rename_i kF kN TcI kXI
  exact hret _ _ _ _ kF kN ⟨_, rfl, rfl⟩
set_option maxRecDepth 100000 in
set_option maxHeartbeats 4000000 in
theorem mul_op (w : World) (x y : Int) (t u : Tok) (news : List (Addr × Obj)) (hxy : IntMulOk x y) :
    Spec2c w 4 40 125 [.int x t, .int y u] (fun _ => True) news (fun r nx => ∃ t, r = .int (x * y) t ∧ nx = news) := by
  w_top off
  unfold Spec2c PRG KK
  k_fill
  intro p loose mean mg mb dp un gd cn cs a ccd cl outer A₀ base h₀ L m s Q E B F X N T hk hcd hdp hun hret
  cases cs
  cases hk
  have kM : KdMark := kdMark
  k_dflt k_enter
  rename Fr h₀ L _ m => FG
  k_steps
  rename_i kF kN TcI kXI
  exact hret _ _ _ _ kF kN ⟨_, rfl, rfl⟩
set_option maxRecDepth 100000 in
set_option maxHeartbeats 4000000 in
theorem or_op (w : World) (x y : Int) (t u : Tok) (news : List (Addr × Obj)) :
    Spec2c w 4 40 139 [.int x t, .int y u] (fun _ => True) news (fun r nx => ∃ t, r = .int (Builtin.bitOr x y) t ∧ nx = news) := by
  w_top off
  unfold Spec2c PRG KK
  k_fill
  intro p loose mean mg mb dp un gd cn cs a ccd cl outer A₀ base h₀ L m s Q E B F X N T hk hcd hdp hun hret
  cases cs
  cases hk
  have kM : KdMark := kdMark
  k_dflt k_enter
  rename Fr h₀ L _ m => FG
  k_steps
  rename_i kF kN TcI kXI
  exact hret _ _ _ _ kF kN ⟨_, rfl, rfl⟩
set_option maxRecDepth 100000 in
set_option maxHeartbeats 4000000 in
theorem sub_op (w : World) (x y : Int) (t u : Tok) (news : List (Addr × Obj)) :
    Spec2c w 4 40 146 [.int x t, .int y u] (fun _ => True) news (fun r nx => ∃ t, r = .int (x - y) t ∧ nx = news) := by
  w_top off
  unfold Spec2c PRG KK
  k_fill
  intro p loose mean mg mb dp un gd cn cs a ccd cl outer A₀ base h₀ L m s Q E B F X N T hk hcd hdp hun hret
  cases cs
  cases hk
  have kM : KdMark := kdMark
  k_dflt k_enter
  rename Fr h₀ L _ m => FG
  k_steps
  rename_i kF kN TcI kXI
  exact hret _ _ _ _ kF kN ⟨_, rfl, rfl⟩
set_option maxRecDepth 100000 in
set_option maxHeartbeats 4000000 in
theorem xor_op (w : World) (x y : Int) (t u : Tok) (news : List (Addr × Obj)) :
    Spec2c w 4 40 153 [.int x t, .int y u] (fun _ => True) news (fun r nx => ∃ t, r = .int (Builtin.bitXor x y) t ∧ nx = news) := by
  w_top off
  unfold Spec2c PRG KK
  k_fill
  intro p loose mean mg mb dp un gd cn cs a ccd cl outer A₀ base h₀ L m s Q E B F X N T hk hcd hdp hun hret
  cases cs
  cases hk
  have kM : KdMark := kdMark
  k_dflt k_enter
  rename Fr h₀ L _ m => FG
  k_steps
  rename_i kF kN TcI kXI
  exact hret _ _ _ _ kF kN ⟨_, rfl, rfl⟩
set_option maxRecDepth 100000 in
set_option maxHeartbeats 4000000 in
theorem inv_op (w : World) (x : Int) (t : Tok) (news : List (Addr × Obj)) :
    Spec2c w 4 40 118 [.int x t] (fun _ => True) news (fun r nx => ∃ t, r = .int (Builtin.bitNot x) t ∧ nx = news) := by
  w_top off
  unfold Spec2c PRG KK
  k_fill
  intro p loose mean mg mb dp un gd cn cs a ccd cl outer A₀ base h₀ L m s Q E B F X N T hk hcd hdp hun hret
  cases cs
  cases hk
  have kM : KdMark := kdMark
  k_dflt k_enter
  rename Fr h₀ L _ m => FG
  k_steps
  rename_i kF kN TcI kXI
  exact hret _ _ _ _ kF kN ⟨_, rfl, rfl⟩
set_option maxRecDepth 100000 in
set_option maxHeartbeats 4000000 in
theorem neg_op (w : World) (x : Int) (t : Tok) (news : List (Addr × Obj)) :
    Spec2c w 4 40 132 [.int x t] (fun _ => True) news (fun r nx => ∃ t, r = .int (-x) t ∧ nx = news) := by
  w_top off
  unfold Spec2c PRG KK
  k_fill
  intro p loose mean mg mb dp un gd cn cs a ccd cl outer A₀ base h₀ L m s Q E B F X N T hk hcd hdp hun hret
  cases cs
  cases hk
  have kM : KdMark := kdMark
  k_dflt k_enter
  rename Fr h₀ L _ m => FG
  k_steps
  rename_i kF kN TcI kXI
  exact hret _ _ _ _ kF kN ⟨_, rfl, rfl⟩
set_option maxRecDepth 100000 in
set_option maxHeartbeats 4000000 in
theorem getitem_op (w : World) (nl : Addr) (vs : List Value) (nn : Nat) (i : Int) (v : Value) (u : Tok) (news : List (Addr × Obj)) (hm : (nl, W.listOf vs.toArray nn) ∈ news) (hi : 0 ≤ i ∧ i < 100) (hv : vs[i.toNat]? = some v) :
    Spec2c w 4 40 160 [.ref nl, .int i u] (fun _ => True) news (fun r nx => r = v ∧ nx = news) := by
  w_top off
  unfold Spec2c PRG KK
  k_fill
  intro p loose mean mg mb dp un gd cn cs a ccd cl outer A₀ base h₀ L m s Q E B F X N T hk hcd hdp hun hret
  cases cs
  cases hk
  have kM : KdMark := kdMark
  k_dflt k_enter
  rename Fr h₀ L _ m => FG
  k_steps
  rename_i kF kN TcI kXI
  exact hret _ _ _ _ kF kN ⟨rfl, rfl⟩
set_option maxRecDepth 100000 in
set_option maxHeartbeats 4000000 in
theorem setitem_op (w : World) (nl : Addr) (vs : List Value) (nn : Nat) (i : Int) (v : Value) (u : Tok) (news : List (Addr × Obj)) (hi : 0 ≤ i ∧ i < vs.length) (hl : vs.length ≤ 100) (hne : ∀ p ∈ news, p.1 ≠ nl) :
    Spec2c w 4 40 167 [.ref nl, .int i u, v] (fun _ => True) ((nl, W.listOf vs.toArray nn) :: news) (fun r nx => r = .none ∧ nx = (nl, W.listOf (vs.set i.toNat v).toArray nn) :: news) := by
  w_top off
  unfold Spec2c PRG KK
  k_fill
  intro p loose mean mg mb dp un gd cn cs a ccd cl outer A₀ base h₀ L m s Q E B F X N T hk hcd hdp hun hret
  cases cs
  cases hk
  have kM : KdMark := kdMark
  k_dflt k_enter
  rename Fr h₀ L _ m => FG
  k_steps
  rename News _ _ _ _ => N2
  rename Fr _ _ _ _ => F2
  refine set_val F2 N2 (.head hne) hi.1 hi.2 (by omega) fun h' F3 N3 => ?_
  k_steps
  rename_i kF kN TcI kXI
  exact hret _ _ _ _ kF kN ⟨rfl, rfl⟩
end
end
-- PART-END Ops

section
open PySem PySem.W PyProof.Rows
section
local macro_rules | `(tactic| walk_at "my 0") => `(tactic| skip)
local macro_rules | `(tactic| walk_at "call ref") => `(tactic| walk_at "my held")
theorem pylong_no {x y : Int} (h : y.natAbs ≤ 2 ^ 8000) : Builtin.divisionGoesByPylong x y = false := by
  have h1 : y.natAbs.log2 ≤ 8000 := by
    by_cases h0 : y.natAbs = 0
    · rw [h0]; decide
    · have := (Nat.log2_lt h0 (k := 8001)).mpr (Nat.lt_of_le_of_lt h (Nat.pow_lt_pow_right (by decide) (by decide)))
      omega
  unfold Builtin.divisionGoesByPylong
  have h2 : ¬ ((if (y == 0) = true then 0 else y.natAbs.log2 / 30 + 1) > 300) := by split <;> omega
  simp only [decide_eq_false h2, Bool.false_and]
set_option maxRecDepth 100000 in
set_option maxHeartbeats 4000000 in
theorem undone_0 (w : World) (x y : Int) (t t1 t2 t3 : Tok) (news : List (Addr × Obj)) :
    Spec2c w 10 100 221 [.str "add" t, .int (x + y) t1, .int x t2, .int y t3] (fun _ => True) news (fun r nx => r = .bool true ∧ nx = news) := by
  w_top off
  unfold Spec2c PRG KK
  k_fill
  intro p loose mean mg mb dp un gd cn cs a ccd cl outer A₀ base h₀ L m s Q E B F X N T hk hcd hdp hun hret
  cases cs
  cases hk
  have kM : KdMark := kdMark
  k_dflt k_enter
  rename Fr h₀ L _ m => FG
  k_steps
  rename_i kF kN TcI kXI
  exact hret _ _ _ _ kF kN ⟨congrArg Value.bool (beq_iff_eq.mpr (by omega)), rfl⟩
set_option maxRecDepth 100000 in
set_option maxHeartbeats 4000000 in
theorem undone_1 (w : World) (x y : Int) (t t1 t2 t3 : Tok) (news : List (Addr × Obj)) :
    Spec2c w 10 100 221 [.str "sub" t, .int (x - y) t1, .int x t2, .int y t3] (fun _ => True) news (fun r nx => r = .bool true ∧ nx = news) := by
  w_top off
  unfold Spec2c PRG KK
  k_fill
  intro p loose mean mg mb dp un gd cn cs a ccd cl outer A₀ base h₀ L m s Q E B F X N T hk hcd hdp hun hret
  cases cs
  cases hk
  have kM : KdMark := kdMark
  k_dflt k_enter
  rename Fr h₀ L _ m => FG
  k_steps
  rename_i kF kN TcI kXI
  exact hret _ _ _ _ kF kN ⟨congrArg Value.bool (beq_iff_eq.mpr (by omega)), rfl⟩
set_option maxRecDepth 100000 in
set_option maxHeartbeats 4000000 in
theorem undone_2 (w : World) (x y : Int) (t t1 t2 t3 : Tok) (news : List (Addr × Obj)) (hy : y.natAbs ≤ 2 ^ 8000) :
    Spec2c w 10 100 221 [.str "mul" t, .int (x * y) t1, .int x t2, .int y t3] (fun _ => True) news (fun r nx => r = .bool true ∧ nx = news) := by
  w_top off
  unfold Spec2c PRG KK
  k_fill
  intro p loose mean mg mb dp un gd cn cs a ccd cl outer A₀ base h₀ L m s Q E B F X N T hk hcd hdp hun hret
  cases cs
  cases hk
  have kM : KdMark := kdMark
  k_dflt k_enter
  rename Fr h₀ L _ m => FG
  k_steps
  · rename_i kF kN TcI kXI
    rename y = 0 => hy0
    exact hret _ _ _ _ kF kN ⟨congrArg Value.bool (beq_iff_eq.mpr (by rw [hy0, Int.mul_zero])), rfl⟩
  · rename News _ _ _ _ => N3
    rename Fr _ _ _ _ => F3
    rename ¬ y = 0 => hy0
    refine divmod_N F3 N3 hy0 (fun h' F4 N4 => ?_) (.inl (pylong_no hy))
    rw [show (x * y).fdiv y = x from Int.mul_fdiv_cancel x hy0, show (x * y).fmod y = 0 from Int.mul_fmod_left x y] at N4
    k_steps
    rename_i kF kN TcI kXI
    exact hret _ _ _ _ kF (fun p hp => kN p (.tail _ (.tail _ hp))) ⟨rfl, rfl⟩
set_option maxRecDepth 100000 in
set_option maxHeartbeats 4000000 in
theorem undone_3 (w : World) (x y : Int) (t t1 t2 t3 : Tok) (news : List (Addr × Obj)) :
    Spec2c w 10 100 221 [.str "and_" t, .int (Builtin.bitAnd x y) t1, .int x t2, .int y t3] (fun _ => True) news (fun r nx => r = .bool true ∧ nx = news) := by
  w_top off
  unfold Spec2c PRG KK
  k_fill
  intro p loose mean mg mb dp un gd cn cs a ccd cl outer A₀ base h₀ L m s Q E B F X N T hk hcd hdp hun hret
  cases cs
  cases hk
  have kM : KdMark := kdMark
  k_dflt k_enter
  rename Fr h₀ L _ m => FG
  k_steps
  unfold Held
  rename News _ _ _ _ => N3
  rename Fr _ _ _ _ => F3
  rename Below _ _ _ _ => B1
  rename Frag.In _ _ => X1
  rename Top _ _ _ _ _ _ => T1
  refine wpAny_call (or_op w x y _ _ _ _ _ _ _ _ _ _ _ _ _ _ _ _ _ _ _ _ _ _ _ _ _ B1 F3 X1 N3 T1 rfl trivial (by ktr_room) (by ktr_units) ?_)
  rintro r nx h7 tk7 F6 N6 hJ0
  refine hide fun P0 hP0 => ?_
  obtain ⟨t7, rfl, rfl⟩ := hJ0
  refine hP0 ?_
  clear hP0 P0
  k_steps
  rename_i kF kN TcI kXI
  exact hret _ _ _ _ kF kN ⟨congrArg Value.bool (beq_iff_eq.mpr (by have := bitOr_and x y; omega)), rfl⟩
set_option maxRecDepth 100000 in
set_option maxHeartbeats 4000000 in
theorem undone_4 (w : World) (x y : Int) (t t1 t2 t3 : Tok) (news : List (Addr × Obj)) :
    Spec2c w 10 100 221 [.str "or_" t, .int (Builtin.bitOr x y) t1, .int x t2, .int y t3] (fun _ => True) news (fun r nx => r = .bool true ∧ nx = news) := by
  w_top off
  unfold Spec2c PRG KK
  k_fill
  intro p loose mean mg mb dp un gd cn cs a ccd cl outer A₀ base h₀ L m s Q E B F X N T hk hcd hdp hun hret
  cases cs
  cases hk
  have kM : KdMark := kdMark
  k_dflt k_enter
  rename Fr h₀ L _ m => FG
  k_steps
  unfold Held
  rename News _ _ _ _ => N3
  rename Fr _ _ _ _ => F3
  rename Below _ _ _ _ => B1
  rename Frag.In _ _ => X1
  rename Top _ _ _ _ _ _ => T1
  refine wpAny_call (and_op w x y _ _ _ _ _ _ _ _ _ _ _ _ _ _ _ _ _ _ _ _ _ _ _ _ _ B1 F3 X1 N3 T1 rfl trivial (by ktr_room) (by ktr_units) ?_)
  rintro r nx h7 tk7 F6 N6 hJ0
  refine hide fun P0 hP0 => ?_
  obtain ⟨t7, rfl, rfl⟩ := hJ0
  refine hP0 ?_
  clear hP0 P0
  k_steps
  rename_i kF kN TcI kXI
  exact hret _ _ _ _ kF kN ⟨congrArg Value.bool (beq_iff_eq.mpr (by have := bitOr_and x y; omega)), rfl⟩
set_option maxRecDepth 100000 in
set_option maxHeartbeats 4000000 in
theorem undone_5 (w : World) (x y : Int) (t t1 t2 t3 : Tok) (news : List (Addr × Obj)) :
    Spec2c w 10 100 221 [.str "xor" t, .int (Builtin.bitXor x y) t1, .int x t2, .int y t3] (fun _ => True) news (fun r nx => r = .bool true ∧ nx = news) := by
  w_top off
  unfold Spec2c PRG KK
  k_fill
  intro p loose mean mg mb dp un gd cn cs a ccd cl outer A₀ base h₀ L m s Q E B F X N T hk hcd hdp hun hret
  cases cs
  cases hk
  have kM : KdMark := kdMark
  k_dflt k_enter
  rename Fr h₀ L _ m => FG
  k_steps
  unfold Held
  rename News _ _ _ _ => N3
  rename Fr _ _ _ _ => F3
  rename Below _ _ _ _ => B1
  rename Frag.In _ _ => X1
  rename Top _ _ _ _ _ _ => T1
  refine wpAny_call (xor_op w (Builtin.bitXor x y) y _ _ _ _ _ _ _ _ _ _ _ _ _ _ _ _ _ _ _ _ _ _ _ _ _ B1 F3 X1 N3 T1 rfl trivial (by ktr_room) (by ktr_units) ?_)
  rintro r nx h7 tk7 F6 N6 hJ0
  refine hide fun P0 hP0 => ?_
  obtain ⟨t7, rfl, rfl⟩ := hJ0
  refine hP0 ?_
  clear hP0 P0
  k_steps
  rename_i kF kN TcI kXI
  exact hret _ _ _ _ kF kN ⟨congrArg Value.bool (beq_iff_eq.mpr (by exact xor_back x y)), rfl⟩
set_option maxRecDepth 100000 in
set_option maxHeartbeats 4000000 in
theorem undone_6 (w : World) (x y : Int) (t t1 t2 t3 : Tok) (news : List (Addr × Obj)) :
    Spec2c w 10 100 221 [.str "neg" t, .int (-y) t1, .int x t2, .int y t3] (fun _ => True) news (fun r nx => r = .bool true ∧ nx = news) := by
  w_top off
  unfold Spec2c PRG KK
  k_fill
  intro p loose mean mg mb dp un gd cn cs a ccd cl outer A₀ base h₀ L m s Q E B F X N T hk hcd hdp hun hret
  cases cs
  cases hk
  have kM : KdMark := kdMark
  k_dflt k_enter
  rename Fr h₀ L _ m => FG
  k_steps
  rename_i kF kN TcI kXI
  exact hret _ _ _ _ kF kN ⟨congrArg Value.bool (beq_iff_eq.mpr (by omega)), rfl⟩
set_option maxRecDepth 100000 in
set_option maxHeartbeats 4000000 in
theorem undone_7 (w : World) (x y : Int) (t t1 t2 t3 : Tok) (news : List (Addr × Obj)) :
    Spec2c w 10 100 221 [.str "inv" t, .int (Builtin.bitNot y) t1, .int x t2, .int y t3] (fun _ => True) news (fun r nx => r = .bool true ∧ nx = news) := by
  w_top off
  unfold Spec2c PRG KK
  k_fill
  intro p loose mean mg mb dp un gd cn cs a ccd cl outer A₀ base h₀ L m s Q E B F X N T hk hcd hdp hun hret
  cases cs
  cases hk
  have kM : KdMark := kdMark
  k_dflt k_enter
  rename Fr h₀ L _ m => FG
  k_steps
  rename_i kF kN TcI kXI
  exact hret _ _ _ _ kF kN ⟨congrArg Value.bool (beq_iff_eq.mpr (by rw [kbt_not]; omega)), rfl⟩

theorem undone_spec (w : World) {d : Int} (hd : 0 ≤ d ∧ d < 8) (x y : Int) (t t1 t2 t3 : Tok) (news : List (Addr × Obj)) (hy : y.natAbs ≤ 2 ^ 8000) :
    Spec2c w 10 100 221 [.str ⟨(namesL d).toArray⟩ t, .int (opI d x y) t1, .int x t2, .int y t3] (fun _ => True) news (fun r nx => r = .bool true ∧ nx = news) := by
  have : d = 0 ∨ d = 1 ∨ d = 2 ∨ d = 3 ∨ d = 4 ∨ d = 5 ∨ d = 6 ∨ d = 7 := eight (by first | assumption | exact ⟨by omega, by omega⟩)
  rcases this with rfl | rfl | rfl | rfl | rfl | rfl | rfl | rfl
  · rw [show (⟨(namesL 0).toArray⟩ : Str) = "add" by decide +kernel]
    exact undone_0 w x y t t1 t2 t3 news
  · rw [show (⟨(namesL 1).toArray⟩ : Str) = "sub" by decide +kernel]
    exact undone_1 w x y t t1 t2 t3 news
  · rw [show (⟨(namesL 2).toArray⟩ : Str) = "mul" by decide +kernel]
    exact undone_2 w x y t t1 t2 t3 news hy
  · rw [show (⟨(namesL 3).toArray⟩ : Str) = "and_" by decide +kernel]
    exact undone_3 w x y t t1 t2 t3 news
  · rw [show (⟨(namesL 4).toArray⟩ : Str) = "or_" by decide +kernel]
    exact undone_4 w x y t t1 t2 t3 news
  · rw [show (⟨(namesL 5).toArray⟩ : Str) = "xor" by decide +kernel]
    exact undone_5 w x y t t1 t2 t3 news
  · rw [show (⟨(namesL 6).toArray⟩ : Str) = "neg" by decide +kernel]
    exact undone_6 w x y t t1 t2 t3 news
  · rw [show (⟨(namesL 7).toArray⟩ : Str) = "inv" by decide +kernel]
    exact undone_7 w x y t t1 t2 t3 news
end
end
-- PART-END Undone

section
open PySem PySem.W PyProof.Rows
section
/-- where a row's deed stands in the program's memory -/
def opRef (d : Int) : Addr := if d = 0 then 104 else if d = 1 then 146 else if d = 2 then 125 else if d = 3 then 111 else if d = 4 then 139 else if d = 5 then 153 else if d = 6 then 132 else 118
def bothL : List (Str × Value) := [("add", .ref 104), ("sub", .ref 146), ("mul", .ref 125), ("and_", .ref 111), ("or_", .ref 139), ("xor", .ref 153)]
def loneL : List (Str × Value) := [("neg", .ref 132), ("inv", .ref 118)]
theorem deeds8 {d : Int} {P : Int → Prop} (hd : 0 ≤ d ∧ d < 8) (h0 : P 0) (h1 : P 1) (h2 : P 2) (h3 : P 3) (h4 : P 4) (h5 : P 5) (h6 : P 6) (h7 : P 7) : P d := by
  have : d = 0 ∨ d = 1 ∨ d = 2 ∨ d = 3 ∨ d = 4 ∨ d = 5 ∨ d = 6 ∨ d = 7 := eight (by first | assumption | exact ⟨by omega, by omega⟩)
  rcases this with rfl | rfl | rfl | rfl | rfl | rfl | rfl | rfl <;> assumption
theorem lone_has {d : Int} (hd : 0 ≤ d ∧ d < 8) : (valueAt loneL (⟨(namesL d).toArray⟩ : Str)).isSome = decide (6 ≤ d) :=
  deeds8 (P := fun d => (valueAt loneL (⟨(namesL d).toArray⟩ : Str)).isSome = decide (6 ≤ d)) hd (by decide +kernel) (by decide +kernel) (by decide +kernel) (by decide +kernel) (by decide +kernel) (by decide +kernel) (by decide +kernel) (by decide +kernel)
theorem lone_at {d : Int} (hd : 6 ≤ d ∧ d < 8) : valueAt loneL (⟨(namesL d).toArray⟩ : Str) = some (.ref (opRef d)) := by
  have : d = 6 ∨ d = 7 := by omega
  rcases this with rfl | rfl <;> rfl
theorem six {d : Int} (h : 0 ≤ d ∧ d < 6) : d = 0 ∨ d = 1 ∨ d = 2 ∨ d = 3 ∨ d = 4 ∨ d = 5 := by omega
theorem both_at {d : Int} (hd : 0 ≤ d ∧ d < 6) : valueAt bothL (⟨(namesL d).toArray⟩ : Str) = some (.ref (opRef d)) := by
  have := six hd
  rcases this with rfl | rfl | rfl | rfl | rfl | rfl <;> rfl
section
variable {w : World} {A : Around} {E : Value → Shared → Prop} {s : Shared} {h₀ : Heap} {L D : Addr} {m : Str → Option Value} {news : List (Addr × Obj)} {o : Obj} {d : Int} {t : Tok}
theorem lone_in {Q : Value → Shared → Prop} (N : News h₀ L s.heap news) (hp : (D, o) ∈ news) (hd : o.IsDictOf (PySem.strKind PRG w) loneL) (lo : (D == sysModules) = false) (h8 : 0 ≤ d ∧ d < 8) (h : Q (.bool (decide (6 ≤ d))) { s with toks := s.toks + 1 }) :
    wpAny (model PRG w) A (compareOp .In (.str ⟨(namesL d).toArray⟩ t) (.ref D)) Q E s :=
  kda_in N hp hd lo (strKind_is _ _ _ _) _ (lone_has h8) h
theorem lone_item {value slice : PySem.Expr} {Q : Value → Shared → Prop} (N : News h₀ L s.heap news) (hp : (D, o) ∈ news) (hd : o.IsDictOf (PySem.strKind PRG w) loneL) (h8 : 6 ≤ d ∧ d < 8) (h : Q (.ref (opRef d)) { s with toks := s.toks + 1 })
    (hs : subscripted slice false (.ref D) (.str ⟨(namesL d).toArray⟩ t) = operate [.ref D, .str ⟨(namesL d).toArray⟩ t] (getItem (.ref D) (.str ⟨(namesL d).toArray⟩ t)) := by with_unfolding_all rfl) (hg : ∀ r, letTemporaryGo value (.ref D) r = pure () := by intro _; with_unfolding_all rfl) :
    wpAny (model PRG w) A (subscriptTail value slice (.ref D) (.str ⟨(namesL d).toArray⟩ t)) Q E s :=
  kda_item N hp hd (strKind_is _ _ _ _) (lone_at h8) h hs hg
theorem both_item {value slice : PySem.Expr} {Q : Value → Shared → Prop} (N : News h₀ L s.heap news) (hp : (D, o) ∈ news) (hd : o.IsDictOf (PySem.strKind PRG w) bothL) (h8 : 0 ≤ d ∧ d < 6) (h : Q (.ref (opRef d)) { s with toks := s.toks + 1 })
    (hs : subscripted slice false (.ref D) (.str ⟨(namesL d).toArray⟩ t) = operate [.ref D, .str ⟨(namesL d).toArray⟩ t] (getItem (.ref D) (.str ⟨(namesL d).toArray⟩ t)) := by with_unfolding_all rfl) (hg : ∀ r, letTemporaryGo value (.ref D) r = pure () := by intro _; with_unfolding_all rfl) :
    wpAny (model PRG w) A (subscriptTail value slice (.ref D) (.str ⟨(namesL d).toArray⟩ t)) Q E s :=
  kda_item N hp hd (strKind_is _ _ _ _) (both_at h8) h hs hg
end
theorem both_op (w : World) {d : Int} (hd : 0 ≤ d ∧ d < 6) (x y : Int) (t u : Tok) (news : List (Addr × Obj)) (hxy : IntMulOk x y) :
    Spec2c w 4 40 (opRef d) [.int x t, .int y u] (fun _ => True) news (fun r nx => ∃ t, r = .int (opI d x y) t ∧ nx = news) := by
  have := six hd
  rcases this with rfl | rfl | rfl | rfl | rfl | rfl
  · exact add_op w x y t u news
  · exact sub_op w x y t u news
  · exact mul_op w x y t u news hxy
  · exact and_op w x y t u news
  · exact or_op w x y t u news
  · exact xor_op w x y t u news
theorem lone_op (w : World) {d : Int} (hd : 6 ≤ d ∧ d < 8) (x y : Int) (u : Tok) (news : List (Addr × Obj)) :
    Spec2c w 4 40 (opRef d) [.int y u] (fun _ => True) news (fun r nx => ∃ t, r = .int (opI d x y) t ∧ nx = news) := by
  have : d = 6 ∨ d = 7 := by omega
  rcases this with rfl | rfl
  · exact neg_op w y u news
  · exact inv_op w y u news
/-- the places of a row -/
def goalOf (n : Nat) (x : Int) : Int := if x % 1000000 / 32 % 4 = 0 then (1 + x % 1000000 / 8 % 4) + n else 1 + x % 1000000 / 8 % 4
def srcOf (x : Int) : Int := 1 + x % 1000000 / 128 % 4
/-- the numbers behind a row -/
def stepN (n : Nat) (ns : List Int) (x : Int) : List Int :=
  ns.set (goalOf n x % 4).toNat (opI (x % 1000000 % 8) (ns.getD (goalOf n x % 4).toNat 0) (ns.getD (srcOf x % 4).toNat 0))
def low8 (z : Int) : Int := Builtin.bitXor (Builtin.bitAnd z 255) 128 - 128
/-- the states behind each row -/
def statesL (n : Nat) : List Int → List Int → List (List Int)
  | _, [] => []
  | ns, x :: xs => (stepN n ns x).map low8 :: statesL n (stepN n ns x) xs
theorem statesL_snoc (n : Nat) (x : Int) : ∀ (ns xs : List Int), statesL n ns (xs ++ [x]) = statesL n ns xs ++ [(stepN n (xs.foldl (stepN n) ns) x).map low8]
  | _, [] => rfl
  | ns, y :: xs => by rw [List.cons_append, statesL, statesL, statesL_snoc n x, List.cons_append]; rfl
theorem statesL_len (n : Nat) : ∀ (ns xs : List Int), (statesL n ns xs).length = xs.length
  | _, [] => rfl
  | ns, x :: xs => by rw [statesL, List.length_cons, statesL_len n, List.length_cons]
theorem stepN_len (n : Nat) (ns : List Int) (x : Int) : (stepN n ns x).length = ns.length := List.length_set ..
/-- numbers of at most so many figures -/
def Fits (k : Nat) (ns : List Int) : Prop := ∀ z ∈ ns, z.natAbs ≤ 2 ^ k
theorem Fits.getD {k : Nat} {ns : List Int} (h : Fits k ns) (i : Nat) : (ns.getD i 0).natAbs ≤ 2 ^ k := by
  rw [List.getD_eq_getElem?_getD]
  cases e : ns[i]? with
  | none => exact Nat.zero_le _
  | some z => exact h z (List.mem_of_getElem? e)
theorem and_fits : ∀ (k : Nat) (x y : Int), -(2 ^ k) ≤ x → x < 2 ^ k → -(2 ^ k) ≤ y → y < 2 ^ k → -(2 ^ k) ≤ Builtin.bitAnd x y ∧ Builtin.bitAnd x y < 2 ^ k
  | 0, x, y, a, b, c, d => by
    simp only [Int.pow_zero] at a b c d
    have h1 : x = -1 ∨ x = 0 := by omega
    have h2 : y = -1 ∨ y = 0 := by omega
    rcases h1 with rfl | rfl <;> rcases h2 with rfl | rfl <;> decide
  | k + 1, x, y, a, b, c, d => by
    rw [Int.pow_succ] at a b c d ⊢
    have ih := and_fits k (x / 2) (y / 2) (by omega) (by omega) (by omega) (by omega)
    have e := kbt_halves x y
    split at e <;> omega
theorem pow_cast (k : Nat) : ((2 ^ k : Nat) : Int) = (2 : Int) ^ k := by push_cast; rfl
theorem fit_sum {x y : Int} {a b M : Nat} (hx : x.natAbs ≤ a) (hy : y.natAbs ≤ b) (hM : a + b ≤ M) : (x + y).natAbs ≤ M := Nat.le_trans (Int.natAbs_add_le x y) (Nat.le_trans (Nat.add_le_add hx hy) hM)
theorem fit_neg {y : Int} {a : Nat} (hy : y.natAbs ≤ a) : (-y).natAbs ≤ a := Int.natAbs_neg y ▸ hy
theorem and_fit {k : Nat} {x y : Int} (hx : x.natAbs ≤ 2 ^ k) (hy : y.natAbs ≤ 2 ^ k) : (Builtin.bitAnd x y).natAbs ≤ 2 * 2 ^ k := by
  have h0 : 1 ≤ 2 ^ k := Nat.one_le_two_pow
  have e := pow_cast (k + 1)
  have e2 : 2 ^ (k + 1) = 2 * 2 ^ k := by rw [Nat.pow_succ, Nat.mul_comm]
  have := and_fits (k + 1) x y
  rw [← e, e2] at this
  generalize 2 ^ k = a at *
  clear e e2
  omega
theorem opI_fits {d : Int} {k : Nat} {x y : Int} (hk : 4 ≤ k) (hx : x.natAbs ≤ 2 ^ k) (hy : y.natAbs ≤ 2 ^ k) : (opI d x y).natAbs ≤ 2 ^ (2 * k) := by
  have h1 : 16 * 2 ^ k ≤ 2 ^ (2 * k) := by
    rw [Nat.two_mul, Nat.pow_add]
    exact Nat.mul_le_mul_right _ (Nat.pow_le_pow_right (n := 2) (by decide) hk)
  have h0 : 1 ≤ 2 ^ k := Nat.one_le_two_pow
  have ha := and_fit hx hy
  have ho := bitOr_and x y
  have hx' := bitXor_and x y
  generalize hc : Builtin.bitAnd x y = c at ha ho hx'
  have hM : (2 ^ k + 2 ^ k) + (2 * 2 ^ k + 2 * 2 ^ k) ≤ 2 ^ (2 * k) := by omega
  have hM2 : 2 ^ k + 2 ^ k ≤ 2 ^ (2 * k) := by omega
  have hM1 : 2 ^ k ≤ 2 ^ (2 * k) := by omega
  unfold opI
  split
  · exact fit_sum hx hy hM2
  split
  · exact Int.sub_eq_add_neg ▸ fit_sum hx (fit_neg hy) hM2
  split
  · rw [Int.natAbs_mul, Nat.two_mul, Nat.pow_add]
    exact Nat.mul_le_mul hx hy
  split
  · rw [hc]; exact Nat.le_trans ha (Nat.two_mul (2 ^ k) ▸ hM2)
  split
  · rw [ho, Int.sub_eq_add_neg]
    exact fit_sum (fit_sum hx hy (Nat.le_refl _)) (fit_neg ha) (Nat.le_trans (Nat.add_le_add_left (Nat.le_add_right ..) _) hM)
  split
  · rw [hx', Int.sub_eq_add_neg, Int.two_mul]
    exact fit_sum (fit_sum hx hy (Nat.le_refl _)) (fit_neg (fit_sum ha ha (Nat.le_refl _))) hM
  split
  · exact Nat.le_trans (fit_neg hy) hM1
  · rw [kbt_not, Int.sub_eq_add_neg]
    exact fit_sum (fit_neg hy) (b := 2 ^ k) h0 hM2
theorem Fits.step {n : Nat} {k : Nat} {ns : List Int} (h : Fits k ns) (hk : 4 ≤ k) (x : Int) : Fits (2 * k) (stepN n ns x) := by
  intro z hz
  rcases List.mem_or_eq_of_mem_set hz with hz | rfl
  · exact Nat.le_trans (h z hz) (Nat.pow_le_pow_right (by decide) (by omega))
  · exact opI_fits hk (h.getD _) (h.getD _)
theorem Fits.fold {n : Nat} : ∀ (xs : List Int) {ns : List Int} {k : Nat}, 4 ≤ k → Fits k ns → Fits (k * 2 ^ xs.length) (xs.foldl (stepN n) ns)
  | [], ns, k, _, h => by simpa using h
  | x :: xs, ns, k, hk, h => by
    have := Fits.fold (n := n) xs (ns := stepN n ns x) (k := 2 * k) (by omega) (Fits.step (n := n) h hk x)
    rw [List.foldl_cons, List.length_cons, Nat.pow_succ, show k * (2 ^ xs.length * 2) = 2 * k * 2 ^ xs.length by rw [Nat.mul_comm (2 ^ xs.length) 2, ← Nat.mul_assoc, Nat.mul_comm k 2]]
    exact this
theorem Fits.rows {n : Nat} {xs ns : List Int} (h : Fits 31 ns) (hx : xs.length ≤ 7) : Fits 4000 (xs.foldl (stepN n) ns) := by
  intro z hz
  refine Nat.le_trans (Fits.fold xs (by decide) h z hz) (Nat.pow_le_pow_right (by decide) ?_)
  exact Nat.le_trans (Nat.mul_le_mul_left 31 (Nat.pow_le_pow_right (n := 2) (by decide) hx)) (by decide)
theorem mul_ok {x y : Int} (hx : x.natAbs ≤ 2 ^ 4000) (hy : y.natAbs ≤ 2 ^ 4000) : IntMulOk x y := by
  have b : ∀ z : Int, z.natAbs ≤ 2 ^ 4000 → Builtin.Int.intBits z ≤ 4001 := fun z hz => by
    unfold Builtin.Int.intBits
    split
    · omega
    · rename_i h0
      have h0' : z.natAbs ≠ 0 := by simpa using h0
      have := (Nat.log2_lt h0' (k := 4001)).mpr (Nat.lt_of_le_of_lt hz (Nat.pow_lt_pow_right (by decide) (by decide)))
      omega
  exact IntMulOk.of_le (b x hx) (b y hy) (by decide)
section
variable {prog : Program} {w : World} {A : Around} {s : Shared} {env : Env} {h₀ : Heap} {target : Expr} {body : List Stmt} {Q : Flow → Shared → Prop} {E : Value → Shared → Prop} {L : Addr} {news : List (Addr × Obj)}
theorem for_range3 {r : Addr} {a b : Int} {t u v : Tok} {n : Nat} {x : Str} {px : Pos} {m₀ : Str → Option Value} {news : List (Addr × Obj)} (J : Nat → (Str → Option Value) → List (Addr × Obj) → Prop)
    (hh : A.handled = none) (F : Fr h₀ env.locals s.heap m₀) (N : News h₀ env.locals s.heap news) (hr : IsRange s.heap r a b 3 t u v) (hsmall : Builtin.Range.small a b 3 = true) (hsz : Builtin.Range.rangeSize a b 3 = (n : Int)) (hj : J 0 m₀ news)
    (turn : ∀ i m₁ nx h tk tv I oI, i < n → J i m₁ nx → (∀ p ∈ nx, p.1 ≠ I) → (∀ p ∈ news, p.1 < I) → Fr h₀ env.locals h m₁ → News h₀ env.locals h ((I, oI) :: nx) →
      wpAny (model prog w) A (assign (.Name x px) env (.int (a + (i : Nat) * 3) tv)) (fun _ s₁ => wpAny (model prog w) A (execs body env) (TurnPost h₀ env.locals I oI (J (i + 1)) s Q) (fun _ _ => False) s₁) (fun _ _ => False) { s with heap := h, toks := tk })
    (done : ∀ m₁ nx h tk, J n m₁ nx → Fr h₀ env.locals h m₁ → News h₀ env.locals h nx → Q .next { s with heap := h, toks := tk }) :
    wpAny (model prog w) A (pyIter (.ref r)) (fun it s₂ => ForAt prog w A env (.Name x px) body Q it s₂) E s := by
  have hlt : ∀ p ∈ news, p.1 < s.heap.objs.size := fun p hp => Heap.lt_size (N p hp).1
  refine wpAny_pyIter_range hr hsmall ?_
  rw [hsz]
  refine for_walk (s := { s with heap := s.heap.push _ }) (n := n) (P := fun i v => ∃ t, v = .int (a + (i : Nat) * 3) t) (St := fun i h => IsRangeIter h s.heap.objs.size (a + (i : Nat) * 3) ((n : Int) - (i : Nat)) 3) J
    (by simpa using Heap.get?_push_size _ rfl) (F.push _) (fun p hp => ⟨Heap.get?_push_of_some _ (N p hp).1, (N p hp).2⟩)
    (fun p hp => Nat.ne_of_lt (hlt p hp)) (Ne.symm (Nat.ne_of_lt F.ns.lt)) (next_is_new F) (fun i h st => ⟨_, st⟩) (fun i h h' m nx hJ st hk N' => hk _ st) (fun i s Q E hi st hQ => ?_) (fun s Q E st hQ => ?_) (fun i s' v Q' E hv st hQ => wpAny_pure hQ) hj
    (fun i v m₁ nx h tk oI hi hv hJ hnI st F' N' => ?_) (fun m₁ nx h tk hJ F' N' => done m₁ nx h tk hJ F' N')
  · refine wpAny_pyNext_range_item st (by omega) fun h' hit' hs' => ?_
    refine hQ _ h' _ ⟨_, rfl⟩ ?_ fun b o hb e => hs'.extBut b o hb e
    have e1 : a + ((i + 1 : Nat) : Int) * 3 = a + (i : Int) * 3 + 3 := by push_cast; omega
    have e2 : (n : Int) - ((i + 1 : Nat) : Int) = (n : Int) - (i : Int) - 1 := by push_cast; omega
    rw [e1, e2]; exact hit'
  · exact wpAny_pyNext_range_end hh st (by omega) fun h' he' => hQ h' s.toks fun b o hb e => he' b o hb e
  · obtain ⟨tv, rfl⟩ := hv
    exact turn i m₁ nx h tk tv _ oI hi hJ hnI hlt F' N'

theorem for_range3T {r : Addr} {a b : Int} {t u v : Tok} {n : Nat} {x : Str} {px : Pos} {m₀ : Str → Option Value} {news : List (Addr × Obj)} (J : Nat → (Str → Option Value) → List (Addr × Obj) → Prop)
    (hh : A.handled = none) (F : Fr h₀ env.locals s.heap m₀) (N : News h₀ env.locals s.heap news) (hr : IsRange s.heap r a b 3 t u v) (hsmall : Builtin.Range.small a b 3 = true) (hsz : Builtin.Range.rangeSize a b 3 = (n : Int)) (hj : J 0 m₀ news)
    (turn : ∀ i m₁ nx h tk tv I oI, i < n → J i m₁ nx → (∀ p ∈ nx, p.1 ≠ I) → (∀ p ∈ news, p.1 < I) → Fr h₀ env.locals h m₁ → News h₀ env.locals h ((I, oI) :: nx) →
      ∀ TP : Flow → Shared → Prop, (∀ f s', TurnPost h₀ env.locals I oI (J (i + 1)) s Q f s' → TP f s') → wpAny (model prog w) A (assign (.Name x px) env (.int (a + (i : Nat) * 3) tv)) (fun _ s₁ => wpAny (model prog w) A (execs body env) TP (fun _ _ => False) s₁) (fun _ _ => False) { s with heap := h, toks := tk })
    (done : ∀ m₁ nx h tk, J n m₁ nx → Fr h₀ env.locals h m₁ → News h₀ env.locals h nx → Q .next { s with heap := h, toks := tk }) :
    wpAny (model prog w) A (pyIter (.ref r)) (fun it s₂ => ForAt prog w A env (.Name x px) body Q it s₂) E s :=
  for_range3 J hh F N hr hsmall hsz hj (fun i m₁ nx h tk tv I oI a b c d e f => turn i m₁ nx h tk tv I oI a b c d e f _ fun _ _ x => x) done
/-- where the two arms of an `if` meet, with one variable told anew -/
def Meet2 (h₀ : Heap) (L : Addr) (m : Str → Option Value) (news : List (Addr × Obj)) (x : Str) (P : Value → Prop) (s : Shared) (f : Flow) (s' : Shared) : Prop :=
  f = .next ∧ ∃ v h tk, s' = { s with heap := h, toks := tk } ∧ P v ∧ Fr h₀ L h (fun y => if y = x then some v else m y) ∧ News h₀ L h news
theorem Meet2.intro {m m' : Str → Option Value} {x : Str} {P : Value → Prop} {h : Heap} {tk : Nat} {nx : List (Addr × Obj)} {v : Value} (F : Fr h₀ L h m') (hm : m' = fun y => if y = x then some v else m y) (N : News h₀ L h nx) (hs : ∀ p ∈ news, p ∈ nx) (hP : P v) :
    Meet2 h₀ L m news x P s .next { s with heap := h, toks := tk } := ⟨rfl, v, h, tk, rfl, hP, hm ▸ F, fun p hp => N p (hs p hp)⟩
theorem if_meet2 {c : Prop} [Decidable c] {a b : List Stmt} {m : Str → Option Value} {x : Str} {g : Heap} (P : Value → Prop) (_F : Fr h₀ L g m) (_N : News h₀ L g news)
    (h1 : c → wpAny (model prog w) A (execs a env) (Meet2 h₀ L m news x P s) E s) (h2 : ¬ c → wpAny (model prog w) A (execs b env) (Meet2 h₀ L m news x P s) E s)
    (h3 : ∀ v h tk, P v → Fr h₀ L h (fun y => if y = x then some v else m y) → News h₀ L h news → Q .next { s with heap := h, toks := tk }) :
    if decide c = true then wpAny (model prog w) A (execs a env) Q E s else wpAny (model prog w) A (execs b env) Q E s := by
  by_cases hc : c
  · rw [if_pos (decide_eq_true hc)]
    exact wpAny_mono (h1 hc) (fun f s' h => by obtain ⟨rfl, v, h, tk, rfl, hP, hF, hN⟩ := h; exact h3 v h tk hP hF hN) fun _ _ e => e
  · rw [if_neg (by rw [decide_eq_true_eq]; exact hc)]
    exact wpAny_mono (h2 hc) (fun f s' h => by obtain ⟨rfl, v, h, tk, rfl, hP, hF, hN⟩ := h; exact h3 v h tk hP hF hN) fun _ _ e => e
end
theorem len_is {prog : Program} {w : World} {A : Around} {E : Value → Shared → Prop} {s : Shared} {x : Str} {t : Tok} {k : Int} {Q : Value → Shared → Prop} (hk : (x.length : Int) = k) (hfit : k < 2 ^ 62) (h : ∀ t tk, Q (.int k t) { s with toks := tk }) :
    wpAny (model prog w) A (call (.builtin "len") [.str x t]) Q E s := by
  subst hk
  exact PyProof.Rows.len_str (by omega) (h _ _)
set_option maxRecDepth 100000 in
theorem keep_op (w : World) {d : Int} (h8 : 0 ≤ d ∧ d < 8) : keepIn (hd.heap_39 w.params) (.ref (opRef d)) = true := by
  have : d = 0 ∨ d = 1 ∨ d = 2 ∨ d = 3 ∨ d = 4 ∨ d = 5 ∨ d = 6 ∨ d = 7 := eight (by first | assumption | exact ⟨by omega, by omega⟩)
  rcases this with rfl | rfl | rfl | rfl | rfl | rfl | rfl | rfl <;> rfl
theorem mem_out {α : Type} {x a b c d p : α} {tl r : List α} (h : p ∈ x :: a :: b :: (tl ++ (c :: d :: r))) : p ∈ a :: b :: (tl ++ (c :: d :: x :: r)) := by
  simp only [List.mem_cons, List.mem_append] at h ⊢
  rcases h with h | h | h | h | h | h | h <;> simp [h]
theorem ints_dat {L9 : List (Addr × Obj)} : ∀ {ws : List Value} {zs : List Int}, IntsAre ws zs → DatAll L9 ws (zs.map .int)
  | _, _, .nil => .nil
  | _, _, .cons x t h => .cons (.int x t) (ints_dat h)
theorem foldN_len (n : Nat) : ∀ (xs ns : List Int), (xs.foldl (stepN n) ns).length = ns.length
  | [], _ => rfl
  | x :: xs, ns => by rw [List.foldl_cons, foldN_len n xs, stepN_len]
theorem getD_some {l : List Int} {i : Nat} (h : i < l.length) : l[i]? = some (l.getD i 0) := by
  rw [List.getD_eq_getElem?_getD, List.getElem?_eq_getElem h]; rfl
/-- the state as data -/
def stD (l : List Int) : Dat := .list (l.map .int)
/-- the words of the rows -/
def WordsOf (n : Nat) (us : List Value) (xs : List Int) : Prop := ∀ k, (h : k < xs.length) → ∃ (y1 y2 : Str) (t1 t2 t3 : Tok), us[3 * k]? = some (.str y1 t1) ∧ us[3 * k + 1]? = some (.str y2 t2) ∧ us[3 * k + 2]? = some (.str ⟨(namesL (xs[k] % 1000000 % 8)).toArray⟩ t3) ∧
  (y1.length : Int) = goalOf n xs[k] ∧ (y2.length : Int) = srcOf xs[k]
end
end
-- PART-END RunA

section
open PySem PySem.W PyProof.Rows
section
local macro_rules | `(tactic| walk_at "execs cons") => `(tactic| walk_at "my For")
local macro_rules | `(tactic| walk_at "execs cons For") => `(tactic| walk_at "my For")
local macro_rules | `(tactic| walk_at "execs cons For cons") => `(tactic| walk_at "my For")
local macro_rules | `(tactic| walk_at "call builtin:len") => `(tactic| walk_at "my len")
local macro_rules | `(tactic| walk_at "subscriptTail") => `(tactic| walk_at "my item")
local macro_rules | `(tactic| walk_at "subscriptTail") => `(tactic| (k_here; (with_reducible show wpAny _ _ (subscriptTail _ _ (Value.ref _) (Value.str _ _)) _ _ _); k_dflt (first | refine both_item (by k_asm) (by repeat' (first | assumption | refine List.Mem.tail _ ?_)) (by k_asm) (by k_asm) ?_ | refine lone_item (by k_asm) (by repeat' (first | assumption | refine List.Mem.tail _ ?_)) (by k_asm) (by k_asm) ?_)))
local macro_rules | `(tactic| walk_at "compareOp In str ref") => `(tactic| (k_here; k_dflt (refine lone_in (by k_asm) (by repeat' (first | assumption | refine List.Mem.tail _ ?_)) (by k_asm) (by k_asm) (by k_asm) ?_)))
local macro_rules | `(tactic| walk_at "call ref") => `(tactic| walk_at "my held")
local macro_rules | `(tactic| walk_at "ite") => `(tactic| (k_here; refine held ?_))
local macro_rules | `(tactic| walk_at "eval ListComp") => `(tactic| walk_at "my comp")
local macro_rules | `(tactic| walk_at "CompSrc") => `(tactic| (k_here; refine held ?_))
local macro_rules | `(tactic| walk_at "call builtin:len") => `(tactic| (k_here; (with_reducible show wpAny _ _ (call (Value.builtin _) [Value.str _ _]) _ _ _); k_dflt (refine' len_is ?gk ?gf ?_; (case gk => k_asm); (case gf => omega); k_whole); intro t' tk'))
local macro_rules | `(tactic| walk_at "callWith ref") => `(tactic| (k_here; (with_reducible show wpAny _ _ (callWith _ (Value.ref (opRef _)) _ _ _) _ _ _); k_dflt (refine' callWith_K ?gk1 ?gk2 ?_; (case gk1 => k_asm); (case gk2 => assumption); k_whole)))
local macro_rules | `(tactic| walk_at "exec Assign") => `(tactic| k_fold)
local macro_rules | `(tactic| walk_at "eval BinOp") => `(tactic| k_fold)
local macro_rules | `(tactic| walk_at "eval Call") => `(tactic| k_fold)
theorem small_3 {b : Int} (h0 : 0 ≤ b) (h1 : b ≤ 1000) : Builtin.Range.small 0 b 3 = true := by
  unfold Builtin.Range.small Builtin.Range.rangeSize
  simp only [Builtin.Range.rangeFitsLong, Bool.and_eq_true, Bool.or_eq_true, decide_eq_true_eq, beq_iff_eq, show (3 : Int) > 0 by decide, if_true]
  split <;> omega
theorem size_3 (n : Nat) : Builtin.Range.rangeSize 0 (((3 * n + 2 : Nat) : Int) - 2) 3 = (n : Int) := by
  unfold Builtin.Range.rangeSize
  rw [if_pos (by decide)]
  split <;> omega
set_option maxRecDepth 100000 in
set_option maxHeartbeats 4000000 in
theorem run_spec (w : World) (wl nl : Addr) (us vs : List Value) (nw nn : Nat) (n : Nat) (xs ns : List Int) (news : List (Addr × Obj)) (hw : (wl, W.listOf us.toArray nw) ∈ news) (hl : us.length = 3 * xs.length + 2) (hx : xs.length ≤ 8) (hW : WordsOf n us xs)
    (hI : IntsAre vs ns) (h4 : ns.length = 4) (hF : Fits 31 ns) (hn : n ≤ 3) (hne : ∀ p ∈ news, @Ne Nat p.1 nl) :
    Spec2c w 40 400 226 [.ref wl, .ref nl] (fun _ => True) ((nl, W.listOf vs.toArray nn) :: news) (fun r nx => ∃ tl, nx = tl ++ news ∧ DatIn tl r (.list ((statesL n ns xs).map stD))) := by
  w_top off
  unfold Spec2c PRG KK
  k_fill
  intro p loose mean mg mb dp un gd cn cs a ccd cl outer A₀ base h₀ L m s Q E B F X N T hk hcd hdp hun hret
  cases cs
  cases hk
  have kM : KdMark := kdMark
  k_dflt k_enter
  rename Fr h₀ L _ m => FG
  k_steps
  rename News _ _ _ _ => N1
  rename Fr _ _ _ (fun y => _) => F1
  rename Below _ _ _ _ => B1
  rename Frag.In _ _ => X1
  rename Top _ _ _ _ _ _ => T1
  rename IsRange _ _ _ _ _ _ _ _ => R1
  refine for_range3T (n := xs.length) (fun i m nx => ∃ bD lD sl oB oL us' c tl vs', m "words" = some (.ref wl) ∧ m "numbers" = some (.ref nl) ∧ m "both" = some (.ref bD) ∧ m "lone" = some (.ref lD) ∧ m "states" = some (.ref sl) ∧
      nx = (sl, W.listOf (List.toArray us') c) :: (tl ++ ((lD, oL) :: (bD, oB) :: (nl, W.listOf (List.toArray vs') nn) :: news)) ∧ IntsAre vs' ((xs.take i).foldl (stepN n) ns) ∧ DatAll tl us' ((statesL n ns (xs.take i)).map stD) ∧
      Obj.IsDictOf (PySem.strKind PRG w) oB bothL ∧ Obj.IsDictOf (PySem.strKind PRG w) oL loneL ∧ (bD == sysModules) = false ∧ (lD == sysModules) = false ∧ @Ne Nat bD nl ∧ @Ne Nat lD nl ∧ @Ne Nat sl nl ∧ OwnOff tl [sl, nl] ∧ @Ne Nat bD sl ∧ @Ne Nat lD sl ∧ ∀ p ∈ news, @Ne Nat p.1 sl)
    rfl F1 N1 R1 ?small ?size ?j ?turn ?done
  case small => exact small_3 (by omega) (by omega)
  case size => exact size_3 _
  case j => exact ⟨_, _, _, _, _, _, _, [], vs, rfl, rfl, rfl, rfl, rfl, rfl, hI, .nil, by assumption, by assumption, by assumption, by assumption, neN (by (try dsimp only); omega), neN (by (try dsimp only); omega), neN (by (try dsimp only); omega), (fun _ hp => nomatch hp), neN (by (try dsimp only); omega), neN (by (try dsimp only); omega), (fun p hp => by rename _ ∧ _ ∧ _ ∧ AllLt _ _ => l3; exact Nat.ne_of_lt (allLt_mem l3.2.2.2 p hp))⟩
  case turn =>
    rintro i m₁ nx h tk tv I oI hi hJ hnI hlt F2 N2 TP hTP
    refine hide fun P0 hP0 => ?_
    clear F1 N1
    rename (_ == sysModules) = false => z; clear z
    rename (_ == sysModules) = false => z; clear z
    rename Obj.IsDictOf _ _ _ => z; clear z
    rename Obj.IsDictOf _ _ _ => z; clear z
    obtain ⟨bD, lD, sl, oB, oL, us', c, tl, vs', e1, e2, e3, e4, e5, rfl, hI', hDA, hB', hL', loB', loL', q1, q2, q3, q4, q5, q6, q7⟩ := hJ
    obtain ⟨y1, y2, t1, t2, t3, w1, w2, w3, g1, g2⟩ := hW i hi
    generalize hd : xs[i] % 1000000 % 8 = d at w3
    have F3 := fr_put (fr_put4 F2 e1 e2 e3 e4) (x := "states") (v := .ref sl) e5
    clear F2
    have w1' : us[((0 : Int) + (i : Nat) * 3).toNat]? = some (.str y1 t1) := by rw [show ((0 : Int) + (i : Nat) * 3).toNat = 3 * i by omega]; exact w1
    have w2' : us[((0 : Int) + (i : Nat) * 3 + 1).toNat]? = some (.str y2 t2) := by rw [show ((0 : Int) + (i : Nat) * 3 + 1).toNat = 3 * i + 1 by omega]; exact w2
    have w3' : us[((0 : Int) + (i : Nat) * 3 + 2).toNat]? = some (.str ⟨(namesL d).toArray⟩ t3) := by rw [show ((0 : Int) + (i : Nat) * 3 + 2).toNat = 3 * i + 2 by omega]; exact w3
    have hd8 : 0 ≤ d ∧ d < 8 := by omega
    have bG : 1 ≤ goalOf n xs[i] ∧ goalOf n xs[i] < 2 ^ 60 := by unfold goalOf; split <;> omega
    have bS : 1 ≤ srcOf xs[i] ∧ srcOf xs[i] ≤ 4 := by unfold srcOf; omega
    generalize hG : goalOf n xs[i] = G at g1 bG
    generalize hS : srcOf xs[i] = S at g2 bS
    have hcl : (List.foldl (stepN n) ns (List.take i xs)).length = 4 := by rw [foldN_len, h4]
    have hFC : Fits 4000 (List.foldl (stepN n) ns (List.take i xs)) := Fits.rows hF (by rw [List.length_take]; omega)
    generalize hCe : List.foldl (stepN n) ns (List.take i xs) = C at hI' hcl hFC
    have fG := fmodE G 4 (by decide)
    have fS := fmodE S 4 (by decide)
    obtain ⟨tX, hX⟩ := hI'.get (G.fmod 4).toNat (C.getD (G.fmod 4).toNat 0) (getD_some (by omega))
    obtain ⟨tY, hY⟩ := hI'.get (S.fmod 4).toNat (C.getD (S.fmod 4).toNat 0) (getD_some (by omega))
    generalize hXe : C.getD (G.fmod 4).toNat 0 = X at hX
    generalize hYe : C.getD (S.fmod 4).toNat 0 = Y at hY
    have hmL : (wl, W.listOf us.toArray nw) ∈ tl ++ ((lD, oL) :: (bD, oB) :: (nl, W.listOf (List.toArray vs') nn) :: news) := List.mem_append_right _ (.tail _ (.tail _ (.tail _ hw)))
    have hmD : (lD, oL) ∈ tl ++ ((lD, oL) :: (bD, oB) :: (nl, W.listOf (List.toArray vs') nn) :: news) := List.mem_append_right _ (.head _)
    have hmB : (bD, oB) ∈ tl ++ ((lD, oL) :: (bD, oB) :: (nl, W.listOf (List.toArray vs') nn) :: news) := List.mem_append_right _ (.tail _ (.head _))
    have hmN : (nl, W.listOf (List.toArray vs') nn) ∈ tl ++ ((lD, oL) :: (bD, oB) :: (nl, W.listOf (List.toArray vs') nn) :: news) := List.mem_append_right _ (.tail _ (.tail _ (.head _)))
    have hkeep := keep_op w hd8
    have hnlI : @Ne Nat I nl := (hnI (nl, W.listOf (List.toArray vs') nn) (.tail _ hmN)).symm
    have hnr : ∀ p ∈ (I, oI) :: (sl, W.listOf (List.toArray us') c) :: (tl ++ ((lD, oL) :: (bD, oB) :: news)), p.1 ≠ nl := by
      intro p hp
      simp only [List.mem_cons, List.mem_append] at hp
      rcases hp with rfl | rfl | hp | rfl | rfl | hp
      · exact hnlI
      · exact q3
      · exact q4 p hp nl (.tail _ (.head _))
      · exact q2
      · exact q1
      · exact hne p hp
    have hXY : IntMulOk X Y := mul_ok (hXe ▸ hFC.getD _) (hYe ▸ hFC.getD _)
    have hY8 : Y.natAbs ≤ 2 ^ 8000 := Nat.le_trans (hYe ▸ hFC.getD _) (Nat.pow_le_pow_right (by decide) (by decide))
    refine hP0 ?_
    clear hP0 P0
    refine wpAny_assign_Name ?_
    k_steps
    unfold Held
    rename Fr _ _ _ _ => F4
    rename News _ _ _ _ => N4
    refine if_meet2 (x := "came") (fun v => ∃ t, v = .int (opI d X Y) t) F4 N4 (fun hd6 => ?_) (fun hd6 => ?_) (fun v h5 tk5 hP F5 N5 => ?_)
    · have hd68 : 6 ≤ d ∧ d < 8 := ⟨hd6, hd8.2⟩
      k_steps
      unfold Held
      rename Fr _ _ _ _ => F6
      rename News _ _ _ _ => N6
      refine wpAny_call (getitem_op w nl vs' nn _ _ _ _ (by repeat' (first | assumption | refine List.Mem.tail _ ?_)) (by omega) hY _ _ _ _ _ _ _ _ _ _ _ _ _ _ _ _ _ _ _ _ _ _ B1 F6 X1 N6 T1 rfl trivial (by ktr_room) (by ktr_units) ?_)
      rintro r nx h7 tk7 F7 N7 hJ0
      refine hide fun P0 hP0 => ?_
      obtain ⟨rfl, rfl⟩ := hJ0
      refine hP0 ?_
      clear hP0 P0
      k_steps
      unfold Held
      rename Fr _ _ _ _ => F6
      rename News _ _ _ _ => N6
      refine wpAny_call (lone_op w hd68 X Y _ _ _ _ _ _ _ _ _ _ _ _ _ _ _ _ _ _ _ _ _ _ _ _ B1 F6 X1 N6 T1 rfl trivial (by ktr_room) (by ktr_units) ?_)
      rintro r nx h8 tk8 F8 N8 hJ0
      refine hide fun P0 hP0 => ?_
      obtain ⟨t8, rfl, rfl⟩ := hJ0
      refine hP0 ?_
      clear hP0 P0
      k_steps
      rename Fr _ _ _ _ => F9
      rename News _ _ _ _ => N9
      exact Meet2.intro F9 rfl N9 (fun p hp => hp) ⟨_, rfl⟩
    · have hd05 : 0 ≤ d ∧ d < 6 := ⟨hd8.1, by omega⟩
      k_steps
      unfold Held
      rename Fr _ _ _ _ => F6
      rename News _ _ _ _ => N6
      refine wpAny_call (getitem_op w nl vs' nn _ _ _ _ (by repeat' (first | assumption | refine List.Mem.tail _ ?_)) (by omega) hX _ _ _ _ _ _ _ _ _ _ _ _ _ _ _ _ _ _ _ _ _ _ B1 F6 X1 N6 T1 rfl trivial (by ktr_room) (by ktr_units) ?_)
      rintro r nx h7 tk7 F7 N7 hJ0
      refine hide fun P0 hP0 => ?_
      obtain ⟨rfl, rfl⟩ := hJ0
      refine hP0 ?_
      clear hP0 P0
      k_steps
      unfold Held
      rename Fr _ _ _ _ => F6
      rename News _ _ _ _ => N6
      refine wpAny_call (getitem_op w nl vs' nn _ _ _ _ (by repeat' (first | assumption | refine List.Mem.tail _ ?_)) (by omega) hY _ _ _ _ _ _ _ _ _ _ _ _ _ _ _ _ _ _ _ _ _ _ B1 F6 X1 N6 T1 rfl trivial (by ktr_room) (by ktr_units) ?_)
      rintro r nx h8 tk8 F8 N8 hJ0
      refine hide fun P0 hP0 => ?_
      obtain ⟨rfl, rfl⟩ := hJ0
      refine hP0 ?_
      clear hP0 P0
      k_steps
      unfold Held
      rename Fr _ _ _ _ => F6
      rename News _ _ _ _ => N6
      refine wpAny_call (both_op w hd05 X Y _ _ _ hXY _ _ _ _ _ _ _ _ _ _ _ _ _ _ _ _ _ _ _ _ _ _ B1 F6 X1 N6 T1 rfl trivial (by ktr_room) (by ktr_units) ?_)
      rintro r nx h9 tk9 F9 N9 hJ0
      refine hide fun P0 hP0 => ?_
      obtain ⟨t9, rfl, rfl⟩ := hJ0
      refine hP0 ?_
      clear hP0 P0
      k_steps
      rename Fr _ _ _ _ => F10
      rename News _ _ _ _ => N10
      exact Meet2.intro F10 rfl N10 (fun p hp => hp) ⟨_, rfl⟩
    · obtain ⟨t5, rfl⟩ := hP
      k_steps
      unfold Held
      rename Fr _ _ _ _ => F6
      rename News _ _ _ _ => N6
      refine wpAny_call (undone_spec w hd8 X Y _ _ _ _ _ hY8 _ _ _ _ _ _ _ _ _ _ _ _ _ _ _ _ _ _ _ _ _ _ B1 F6 X1 N6 T1 rfl trivial (by ktr_room) (by ktr_units) ?_)
      rintro r nx h9 tk9 F9 N9 hJ0
      refine hide fun P0 hP0 => ?_
      obtain ⟨rfl, rfl⟩ := hJ0
      refine hP0 ?_
      clear hP0 P0
      k_steps
      unfold Held
      rw [if_neg (by decide)]
      k_steps
      unfold Held
      rename Fr _ _ _ _ => F6
      rename News _ _ _ _ => N5
      have N6 : News _ _ _ ((nl, W.listOf (List.toArray vs') nn) :: (I, oI) :: (sl, W.listOf (List.toArray us') c) :: (tl ++ ((lD, oL) :: (bD, oB) :: news))) := fun p hp => N5 p (mem_out hp)
      refine wpAny_call (setitem_op w nl vs' nn _ _ _ _ (by rw [hI'.length, hcl]; omega) (by rw [hI'.length, hcl]; decide) hnr _ _ _ _ _ _ _ _ _ _ _ _ _ _ _ _ _ _ _ _ _ _ B1 F6 X1 N6 T1 rfl trivial (by ktr_room) (by ktr_units) ?_)
      rintro r nx h10 tk10 F10 N10 hJ0
      refine hide fun P0 hP0 => ?_
      obtain ⟨rfl, rfl⟩ := hJ0
      have hI2 := ints_set (x := opI d X Y) (u := t5) hI' (G.fmod 4).toNat
      generalize hvs2 : vs'.set (G.fmod 4).toNat (Value.int (opI d X Y) t5) = vs2 at N10 hI2
      generalize hC2 : C.set (G.fmod 4).toNat (opI d X Y) = C2 at hI2
      refine hP0 ?_
      clear hP0 P0
      k_steps
      unfold Held
      rename Fr _ _ _ _ => F6
      rename News _ _ _ _ => N6
      have hl2 : vs2.toArray.size = 4 := by rw [List.size_toArray, hI2.length, ← hC2, List.length_set, hcl]
      have hlC2 : C2.length = 4 := by rw [← hC2, List.length_set, hcl]
      refine LCg.CompSrc.ledger rfl F6 N6 (.head _) (by rw [hl2]; decide) (fun g => comp_turnsT vs2.toArray.size (fun j ws nw => nw = _ ∧ IntsAre ws ((C2.take j).map low8)) ?turn2 ?fin2 _ 0 [] _ (Nat.zero_add _) ⟨rfl, .nil⟩)
      case turn2 =>
        rintro j ws nw v I2 oI2 C3 oC3 D3 m₃ h11 tk11 E' hj hv hJ0 hC3 hx3 F11 N11 off ne CE hCE
        refine hide fun P0 hP0 => ?_
        obtain ⟨rfl, hU⟩ := hJ0
        have hjC : j < C2.length := by rw [hl2] at hj; rw [hlC2]; exact hj
        obtain ⟨tz, hz⟩ := hI2.get j C2[j] (List.getElem?_eq_getElem hjC)
        rw [List.getElem?_toArray, hz] at hv
        cases hv
        clear F6 N6
        refine hP0 ?_
        clear hP0 P0
        k_steps
        unfold Held
        rename Fr _ _ _ _ => F6
        rename News _ _ _ _ => N6
        refine wpAny_call (and_op w C2[j] 255 _ _ _ _ _ _ _ _ _ _ _ _ _ _ _ _ _ _ _ _ _ _ _ _ _ B1 F6 X1 N6 T1 rfl trivial (by ktr_room) (by ktr_units) ?_)
        rintro r nx h12 tk12 F12 N12 hJ0
        refine hide fun P0 hP0 => ?_
        obtain ⟨t12, rfl, rfl⟩ := hJ0
        refine hP0 ?_
        clear hP0 P0
        k_steps
        unfold Held
        rename Fr _ _ _ _ => F6
        rename News _ _ _ _ => N6
        refine wpAny_call (xor_op w (Builtin.bitAnd C2[j] 255) 128 _ _ _ _ _ _ _ _ _ _ _ _ _ _ _ _ _ _ _ _ _ _ _ _ _ B1 F6 X1 N6 T1 rfl trivial (by ktr_room) (by ktr_units) ?_)
        rintro r nx h13 tk13 F13 N13 hJ0
        refine hide fun P0 hP0 => ?_
        obtain ⟨t13, rfl, rfl⟩ := hJ0
        refine hP0 ?_
        clear hP0 P0
        k_steps
        unfold Held
        rename Fr _ _ _ _ => F6
        rename News _ _ _ _ => N6
        refine wpAny_call (sub_op w (Builtin.bitXor (Builtin.bitAnd C2[j] 255) 128) 128 _ _ _ _ _ _ _ _ _ _ _ _ _ _ _ _ _ _ _ _ _ _ _ _ _ B1 F6 X1 N6 T1 rfl trivial (by ktr_room) (by ktr_units) ?_)
        rintro r nx h14 tk14 F14 N14 hJ0
        refine hide fun P0 hP0 => ?_
        obtain ⟨t14, rfl, rfl⟩ := hJ0
        refine hP0 ?_
        clear hP0 P0
        k_steps
        refine hCE _ _ ?_
        refine LCg.CompEnd.intro F14 N14 _ (fun p hp => hp) off (.inr ⟨_, .head _, rfl, _, rfl⟩) ⟨rfl, ?_⟩
        rw [take_snoc _ _ hjC, List.map_append]
        exact hU.append (.cons _ _ .nil)
      case fin2 =>
        rintro ws nw hJ0
        refine hide fun P0 hP0 => ?_
        obtain ⟨rfl, hU⟩ := hJ0
        refine hP0 ?_
        clear hP0 P0
        intro D4 h15 tk15 F15 N15 off4
        clear F6 N6
        have hsI : @Ne Nat sl I := hnI (sl, W.listOf (List.toArray us') c) (.head _)
        have hsD : @Ne Nat sl D4 := off4.2.2.1
        have hoT : OwnOff tl [sl] := fun p hp b hb => by rw [List.mem_singleton.mp hb]; exact q4 p hp sl (.head _)
        have hoN : OwnOff news [sl] := fun p hp b hb => by rw [List.mem_singleton.mp hb]; exact q7 p hp
        have hsz : us'.toArray.size ≤ 100 := by
          have := hDA.length
          rw [List.length_map, statesL_len, List.length_take] at this
          rw [List.size_toArray]; omega
        k_steps
        rename Fr _ _ _ (fun y => _) => F9
        rename News _ _ _ _ => N9
        have hst : List.foldl (stepN n) ns (List.take (i + 1) xs) = C2 := by
          rw [take_snoc _ _ hi, List.foldl_append, hCe]
          show stepN n C xs[i] = C2
          unfold stepN
          rw [hG, hS, hd, ← fG, ← fS, hXe, hYe]; exact hC2
        have hsL : statesL n ns (List.take (i + 1) xs) = statesL n ns (List.take i xs) ++ [C2.map low8] := by
          rw [take_snoc _ _ hi, statesL_snoc, hCe]
          congr 3
          unfold stepN
          rw [hG, hS, hd, ← fG, ← fS, hXe, hYe]; exact hC2
        have hU4 : IntsAre ws (C2.map low8) := by rw [hl2, List.take_of_length_le (by rw [hlC2]; exact Nat.le_refl _)] at hU; exact hU
        refine hTP _ _ ?_
        refine turn_post ((sl, W.listOf (us'.toArray.push (.ref D4)) (c + 1)) :: (((D4, LCg.lst ws) :: tl) ++ ((lD, oL) :: (bD, oB) :: (nl, W.listOf (List.toArray vs2) nn) :: news))) F9 N9 (fun p hp => ?_) (fun p hp => ?_) ⟨bD, lD, sl, oB, oL, us' ++ [.ref D4], c + 1, (D4, LCg.lst ws) :: tl, vs2, rfl, rfl, rfl, rfl, rfl, by rw [List.push_toArray], hst ▸ hI2, ?_, hB', hL', loB', loL', q1, q2, q3, ?_, q5, q6, q7⟩
        · simp only [List.mem_cons, List.mem_append, List.cons_append] at hp ⊢
          rcases hp with h | h | h | h | h | h | h | h <;> simp [h]
        · simp only [List.mem_cons, List.mem_append, List.cons_append] at hp
          rcases hp with rfl | rfl | hp | rfl | rfl | rfl | hp
          · exact hsI
          · exact (off4.2.1).symm
          · exact hnI p (.tail _ (List.mem_append_left _ hp))
          · exact hnI _ (.tail _ hmD)
          · exact hnI _ (.tail _ hmB)
          · exact hnlI.symm
          · exact hnI p (.tail _ (List.mem_append_right _ (.tail _ (.tail _ (.tail _ hp)))))
        · rw [hsL, List.map_append]
          exact DatAll.append (hDA.mono fun p hp => .tail _ hp) (DatAll.one (DatIn.list (.head _) (ints_dat hU4)))
        · intro p hp b hb
          rcases List.mem_cons.mp hp with rfl | hp
          · simp only [List.mem_cons, List.not_mem_nil, or_false] at hb
            rcases hb with rfl | rfl
            · exact hsD.symm
            · exact off4.1.symm
          · exact q4 p hp b hb
  case done =>
    rintro m₁ nx h tk hJ0 F2 N2
    refine hide fun P0 hP0 => ?_
    obtain ⟨bD, lD, sl, oB, oL, us', c, tl, vs', e1, e2, e3, e4, e5, rfl, hI', hDA, hB', hL', loB', loL', q1, q2, q3, q4, q5, q6, q7⟩ := hJ0
    have F3 := fr_put F2 e5
    clear F2 F1 N1
    refine hP0 ?_
    clear hP0 P0
    dsimp only
    k_steps
    rename_i kF kN TcI kXI
    refine hret _ _ _ _ kF kN ⟨(sl, W.listOf (List.toArray us') c) :: (tl ++ [(lD, oL), (bD, oB), (nl, W.listOf (List.toArray vs') nn)]), by simp, ?_⟩
    rw [List.take_of_length_le (Nat.le_refl _)] at hDA
    exact DatIn.list (.head _) (hDA.mono fun p hp => .tail _ (List.mem_append_left _ hp))
end
end
-- PART-END Run

section
open PySem PySem.W PyProof.Rows
section
theorem dat_ints {L9 : List (Addr × Obj)} : ∀ {vs : List Value} {zs : List Int}, DatAll L9 vs (zs.map .int) → IntsAre vs zs
  | [], [], _ => .nil
  | v :: vs, z :: zs, h => by
    rw [List.map_cons] at h
    cases h with
    | cons a b =>
      cases a
      exact .cons _ _ (dat_ints b)
  | [], _ :: _, h => by cases h
  | _ :: _, [], h => by cases h
theorem DatAll.set {L9 : List (Addr × Obj)} {v : Value} {d : Dat} (hv : DatIn L9 v d) : ∀ {vs : List Value} {ds : List Dat} (i : Nat), DatAll L9 vs ds → DatAll L9 (vs.set i v) (ds.set i d)
  | _, _, _, .nil => .nil
  | _, _, 0, .cons _ b => .cons hv b
  | _, _, i + 1, .cons a b => .cons a (DatAll.set hv i b)
/-- a number's eight wires, as data -/
def wiD (z : Int) : Dat := .list ((bitsN 8 z).map .int)
end
end
-- PART-END ByWA

section
open PySem PySem.W PyProof.Rows
section
local macro_rules | `(tactic| walk_at "execs cons") => `(tactic| walk_at "my For")
local macro_rules | `(tactic| walk_at "execs cons For") => `(tactic| walk_at "my For")
local macro_rules | `(tactic| walk_at "execs cons For cons") => `(tactic| walk_at "my For")
local macro_rules | `(tactic| walk_at "subscriptTail") => `(tactic| walk_at "my item")
local macro_rules | `(tactic| walk_at "call ref") => `(tactic| walk_at "my held")
local macro_rules | `(tactic| walk_at "ite") => `(tactic| (k_here; refine held ?_))
local macro_rules | `(tactic| walk_at "eval ListComp") => `(tactic| (first | walk_at "my comp" | (k_here; k_dflt (refine ListComp_X (_F₀ := by k_asm) (by with_unfolding_all rfl) (fun _ _ _ => ⟨rfl, rfl⟩) (by rfl) (by decide) (fun _ _ => by rfl) ?_))))
local macro_rules | `(tactic| walk_at "exec Assign cons ListComp") => `(tactic| (k_here; k_dflt (refine Assign_ListComp_X (_F₀ := by k_asm) (by rfl) (by with_unfolding_all rfl) (by with_unfolding_all rfl) (fun _ _ _ => ⟨rfl, rfl⟩) (by rfl) (by decide) (fun _ _ => by rfl) (by rfl) (by rfl) ?_)))
local macro_rules | `(tactic| walk_at "CompSrc") => `(tactic| (k_here; refine held ?_))
local macro_rules | `(tactic| walk_at "SrcX") => `(tactic| (k_here; refine held ?_))
set_option maxRecDepth 100000 in
set_option maxHeartbeats 4000000 in
theorem byw_spec (w : World) (rl nl : Addr) (vs vn : List Value) (nr nn : Nat) (n : Nat) (tn : Tok) (xs ns : List Int) (news : List (Addr × Obj)) (hmr : (rl, W.listOf vs.toArray nr) ∈ news) (hv : DatAll news vs (xs.map rowD)) (hl : xs.length ≤ 8)
    (hmn : (nl, W.listOf vn.toArray nn) ∈ news) (hI : IntsAre vn ns) (h4 : ns.length = 4) (hn : n ≤ 3) :
    Spec2c w 60 600 243 [.ref rl, .int (n : Nat) tn, .ref nl] (fun _ => True) news (fun r nx => ∃ tl, nx = tl ++ news ∧ DatIn tl r (.list ((statesL n ns xs).map stD))) := by
  w_top off
  unfold Spec2c PRG KK
  k_fill
  intro p loose mean mg mb dp un gd cn cs a ccd cl outer A₀ base h₀ L m s Q E B F X N T hk hcd hdp hun hret
  cases cs
  cases hk
  have kM : KdMark := kdMark
  k_dflt k_enter
  rename Fr h₀ L _ m => FG
  k_steps
  unfold Held
  rename News _ _ _ _ => N1
  rename Fr _ _ _ (fun y => _) => F1
  rename Below _ _ _ _ => B1
  rename Frag.In _ _ => X1
  rename Top _ _ _ _ _ _ => T1
  have hnl : vn.toArray.size = 4 := by rw [List.size_toArray, hI.length, h4]
  refine SrcX.ledger rfl F1 N1 hmn (by rw [hnl]; decide) (fun g K => compX_turnsT vn.toArray.size (fun i us nw => ∃ tl, nw = tl ++ news ∧ DatAll tl us ((ns.take i).map wiD)) ?turn ?fin _ 0 [] _ (Nat.zero_add _) ⟨[], rfl, .nil⟩)
  case turn =>
    rintro i us nw v I oI C oC D oK h tk E' hi hv' hJ0 hK F2 N2 off offK ne CE hCE
    refine hide fun P0 hP0 => ?_
    obtain ⟨tl, rfl, hU⟩ := hJ0
    have hin : i < ns.length := by rw [hnl] at hi; omega
    obtain ⟨tz, hz⟩ := hI.get i ns[i] (List.getElem?_eq_getElem hin)
    rw [List.getElem?_toArray, hz] at hv'
    cases hv'
    clear F1 N1
    refine hP0 ?_
    clear hP0 P0
    k_steps
    unfold Held
    rename IsRange _ _ _ _ _ _ _ _ => R3
    rename News _ _ _ _ => N3
    rename Fr _ _ _ _ => F3
    refine LCg.CompSrc.range (n := 8) rfl F3 N3 R3 (small_one (by omega) (by omega) (by omega) (by omega)) (rangeSize_nat _ _) (by decide) (fun g => comp_turnsT 8 (fun j ws nw2 => nw2 = _ ∧ IntsAre ws ((List.range j).map fun k => ns[i] / 2 ^ k % 2)) ?turn2 ?fin2 _ 0 [] _ (Nat.zero_add _) ⟨rfl, .nil⟩)
    case turn2 =>
      rintro j ws nw2 v I2 oI2 C2 oC2 D2 m₂ h2 tk2 E2 hj hJ0 hJ1 hC2 hx2 F4 N4 off2 ne2 CE hCE
      refine hide fun P0 hP0 => ?_
      obtain ⟨tv, rfl⟩ := hJ0
      obtain ⟨rfl, hU2⟩ := hJ1
      clear F3 N3
      refine hP0 ?_
      clear hP0 P0
      k_steps
      refine hCE _ _ ?_
      refine LCg.CompEnd.intro F4 N4 _ (fun p hp => hp) off2 True.intro ⟨rfl, ?_⟩
      rw [List.range_succ, List.map_append]
      refine hU2.append (ints_one ?_)
      rw [show ((0 : Int) + (j : Nat)).toNat = j by omega, fdivE _ _ (Int.le_of_lt (Int.pow_pos (by decide))), fmodE _ _ (by decide)]
    case fin2 =>
      rintro ws nw2 hJ0
      refine hide fun P0 hP0 => ?_
      obtain ⟨rfl, hU2⟩ := hJ0
      refine hP0 ?_
      clear hP0 P0
      intro D2 h2 tk2 F4 N4 off2
      rw [map_range_bits (z := ns[i]) fun _ _ => rfl] at hU2
      refine hCE _ _ ?_
      refine CompEndX.intro F4 N4 ((D2, LCg.lst ws) :: (tl ++ news)) (fun p hp => ?_) ⟨off.1, ⟨off2.1.symm, off2.2.1.symm, off2.2.2.1.symm⟩, off.2⟩ ⟨off2.2.2.2.1.symm, offK⟩ (.inr ⟨_, .tail _ (List.mem_append_right _ hmn), rfl, _, rfl⟩) ⟨(D2, LCg.lst ws) :: tl, rfl, ?_⟩
      · simp only [List.mem_cons] at hp ⊢
        rcases hp with h | h | h | h | h | h <;> simp [h]
      · rw [take_snoc _ _ hin, List.map_append]
        exact DatAll.append (hU.mono fun p hp => .tail _ hp) (DatAll.one (DatIn.list (.head _) (ints_dat hU2)))
  case fin =>
    rintro us nw hJ0
    refine hide fun P0 hP0 => ?_
    obtain ⟨tl, rfl, hU⟩ := hJ0
    refine hP0 ?_
    clear hP0 P0
    intro D h tk F2 N2 off
    clear F1 N1
    k_steps
    rename News _ _ _ _ => N1
    rename Fr _ _ _ (fun y => _) => F1
    rename D < _ ∧ AllLt _ _ => l1
    have hU0 : DatAll tl us (ns.map wiD) := by rw [List.take_of_length_le (by rw [hnl, h4]; exact Nat.le_refl _)] at hU; exact hU
    refine for_listT (l := rl) (vs := vs) (nn := nr) (fun i m nx => ∃ wD sl wvs cw us' c' tl, m "sendings" = some (.int (n : Nat) tn) ∧ m "wires" = some (.ref wD) ∧ m "states" = some (.ref sl) ∧ nx = (sl, W.listOf (List.toArray us') c') :: (wD, W.listOf (List.toArray wvs) cw) :: (tl ++ news) ∧
        DatAll tl wvs (((xs.take i).foldl (stepN n) ns).map wiD) ∧ DatAll tl us' ((statesL n ns (xs.take i)).map stD) ∧ @Ne Nat wD sl ∧ OwnOff tl [sl, wD] ∧ OwnOff news [sl, wD])
      (.inr ⟨⟨_, _, _, rfl⟩, ?_⟩) rfl F1 N1 (.tail _ (.tail _ (List.mem_append_right _ hmr))) ⟨D, _, us, _, [], _, tl, rfl, rfl, rfl, rfl, hU0, .nil, Nat.ne_of_lt l1.1, ?o1, ?o2⟩ ?l ?turn3 ?done
    · intro i v hv'
      exact row_ref hv hv'
    case o1 =>
      intro p hp b hb
      simp only [List.mem_cons, List.not_mem_nil, or_false] at hb
      rcases hb with rfl | rfl
      · exact Nat.ne_of_lt (allLt_mem l1.2 p (List.mem_append_left _ hp))
      · exact off1_mem off p (List.mem_append_left _ hp)
    case o2 =>
      intro p hp b hb
      simp only [List.mem_cons, List.not_mem_nil, or_false] at hb
      rcases hb with rfl | rfl
      · exact Nat.ne_of_lt (allLt_mem l1.2 p (List.mem_append_right _ hp))
      · exact off1_mem off p (List.mem_append_right _ hp)
    case l =>
      rintro i m nx ⟨wD, sl, wvs, cw, us', c', tl, e1, e2, e3, rfl, _⟩
      exact .tail _ (.tail _ (List.mem_append_right _ hmr))
    case turn3 =>
      rintro i v m₁ nx h tk I oI hv' hJ0 hnI hlt F2 N2 TP hTP
      refine hide fun P0 hP0 => ?_
      obtain ⟨wD, sl, wvs, cw, us', c', tl, e1, e2, e3, rfl, hWv, hSt, o0, o1, o2⟩ := hJ0
      refine row_at hv hv' fun hi T9 n9 d g m s9 q e u1 u2 u3 u4 u5 u6 hvT hmT hr hrt bd bg bm bs bq be => ?_
      subst hvT
      have hrg : goalOf n xs[i] = (if m = 0 then g + n else g) ∧ srcOf xs[i] = s9 ∧ xs[i] % 1000000 % 8 = d := by
        simp only [rowD, Dat.tuple.injEq, List.cons.injEq, Dat.int.injEq] at hr
        obtain ⟨q1, q2, q3, q4, _⟩ := hr
        unfold goalOf srcOf
        rw [q2, q3, q4]
        exact ⟨rfl, rfl, q1⟩
      have N3 : News _ _ h ((T9, _) :: (I, oI) :: _) := fun p hp => N2 p (by
        rcases List.mem_cons.mp hp with rfl | hp
        · exact .tail _ (.tail _ (.tail _ (List.mem_append_right _ hmT)))
        · exact hp)
      have F3 := fr_put3 F2 e1 e2 e3
      clear F2 N2 F1 N1
      refine hP0 ?_
      clear hP0 P0
      k_steps
      unfold Held
      rename News _ _ _ _ => N4
      rename Fr _ _ _ (fun y => _) => F4
      refine if_meet (c := m = 0) (x := "goal") (g := g) (fun gv => gv = if m = 0 then g + n else g) F4 N4 rfl (fun hc => (if_neg hc).symm) ?arm ?cont
      case arm =>
        intro hc
        k_steps
        rename Fr _ _ _ (fun y => _) => F9
        rename News _ _ _ _ => N9
        exact ⟨rfl, _, _, _, _, rfl, (if_pos hc).symm, F9, N9⟩
      case cont =>
        intro gv tg h5 tk5 hgv F5 N5
        have hgb : 1 ≤ gv ∧ gv ≤ 8 := by rw [hgv]; split <;> omega
        have hgo : goalOf n xs[i] = gv := hrg.1.trans hgv.symm
        generalize hCe : (xs.take i).foldl (stepN n) ns = C at hWv
        have hcl : C.length = 4 := by rw [← hCe, foldN_len, h4]
        have fG := fmodE gv 4 (by decide)
        have fS := fmodE s9 4 (by decide)
        have wget : ∀ k, k < 4 → ∃ a us2 n2, wvs[k]? = some (.ref a) ∧ (a, W.listOf (List.toArray us2) n2) ∈ tl ∧ IntsAre us2 (bitsN 8 (C.getD k 0)) := by
          intro k hk
          obtain ⟨v3, e6, hD3⟩ := hWv.get (k := k) (by rw [List.length_map, hcl]; exact hk)
          rw [List.getElem_map] at hD3
          unfold wiD at hD3
          cases hD3 with
          | list hm3 hA3 => exact ⟨_, _, _, e6, hm3, by rw [List.getD_eq_getElem?_getD, List.getElem?_eq_getElem (by rw [hcl]; exact hk)]; exact dat_ints hA3⟩
        obtain ⟨la, va, na, hXa, hma, hIa⟩ := wget (gv.fmod 4).toNat (by omega)
        obtain ⟨lb, vb, nb, hXb, hmb, hIb⟩ := wget (s9.fmod 4).toNat (by omega)
        clear F4 N4
        k_steps
        unfold Held
        rename Fr _ _ _ _ => F6
        rename News _ _ _ _ => N6
        have hmaT : (la, W.listOf (List.toArray va) na) ∈ tl ++ news := List.mem_append_left _ hma
        have hmbT : (lb, W.listOf (List.toArray vb) nb) ∈ tl ++ news := List.mem_append_left _ hmb
        refine wpAny_call (wires_spec w la lb va vb na nb _ _ d _ _ (by repeat' (first | assumption | refine List.Mem.tail _ ?_)) (by repeat' (first | assumption | refine List.Mem.tail _ ?_)) hIa hIb (bits8 _) (bits8 _) bd _ _ _ _ _ _ _ _ _ _ _ _ _ _ _ _ _ _ _ _ _ _ B1 F6 X1 N6 T1 rfl trivial (by ktr_room) (by ktr_units) ?_)
        rintro r nx h7 tk7 F7 N7 hJ0
        refine hide fun P0 hP0 => ?_
        obtain ⟨R, ws, cc, rfl, rfl, hWs, hRne⟩ := hJ0
        rw [wires_bits bd] at hWs
        refine hP0 ?_
        clear hP0 P0
        k_steps
        rename Fr _ _ _ _ => F8
        rename News _ _ _ _ => N8
        have hRw : @Ne Nat R wD := (hRne (wD, W.listOf (List.toArray wvs) cw) (by simp only [List.mem_cons]; grind)).symm
        have hRs : @Ne Nat R sl := (hRne (sl, W.listOf (List.toArray us') c') (by simp only [List.mem_cons]; grind)).symm
        have hRI : @Ne Nat R I := (hRne (I, oI) (by simp only [List.mem_cons]; grind)).symm
        have hRt : ∀ p ∈ tl, @Ne Nat p.1 R := fun p hp => hRne p (by simp only [List.mem_cons, List.mem_append]; grind)
        have hRn : ∀ p ∈ news, @Ne Nat p.1 R := fun p hp => hRne p (by simp only [List.mem_cons, List.mem_append]; grind)
        have hIw : @Ne Nat I wD := (hnI (wD, W.listOf (List.toArray wvs) cw) (.tail _ (.head _))).symm
        have hIs : @Ne Nat I sl := (hnI (sl, W.listOf (List.toArray us') c') (.head _)).symm
        have N9 : News _ _ _ ((wD, W.listOf (List.toArray wvs) cw) :: (R, W.listOf (List.toArray ws) cc) :: (I, oI) :: (sl, W.listOf (List.toArray us') c') :: (tl ++ news)) := fun p hp => N8 p (by simp only [List.mem_cons, List.mem_append] at hp ⊢; grind)
        have hwl : wvs.length = 4 := by rw [hWv.length, List.length_map, hcl]
        refine set_val F8 N9 (.head ?_) (by omega) (by rw [hwl]; omega) (by omega) fun h8 F10 N10 => ?_
        · intro p hp
          simp only [List.mem_cons, List.mem_append] at hp
          rcases hp with rfl | rfl | rfl | hp | hp
          · exact hRw
          · exact hIw
          · exact neN (Ne.symm o0)
          · exact o1 p hp wD (.tail _ (.head _))
          · exact o2 p hp wD (.tail _ (.head _))
        have hWv2 : DatAll ((R, W.listOf (List.toArray ws) cc) :: tl) (wvs.set (gv.fmod 4).toNat (.ref R)) ((stepN n C xs[i]).map wiD) := by
          unfold stepN
          rw [List.map_set, hgo, hrg.2.1, hrg.2.2, ← fG, ← fS]
          exact DatAll.set (DatIn.list (.head _) (ints_dat hWs)) _ (hWv.mono fun p hp => .tail _ hp)
        generalize hwv2 : wvs.set (gv.fmod 4).toNat (Value.ref R) = wvs2 at N10 hWv2
        generalize hC2 : stepN n C xs[i] = C2 at hWv2
        have hlC2 : C2.length = 4 := by rw [← hC2, stepN_len, hcl]
        clear F8 N8 N9 F6 N6
        k_steps
        unfold Held
        rename Fr _ _ _ _ => F6
        rename News _ _ _ _ => N6
        have hvl : wvs2.toArray.size = 4 := by rw [List.size_toArray, hWv2.length, List.length_map, hlC2]
        refine SrcX.ledger rfl F6 N6 (.head _) (by rw [hvl]; decide) (fun g K => compX_turnsT wvs2.toArray.size (fun j ys nw => nw = ((wD, W.listOf wvs2.toArray cw) :: (R, W.listOf (List.toArray ws) cc) :: (I, oI) :: (sl, W.listOf (List.toArray us') c') :: (tl ++ news)) ∧ IntsAre ys ((C2.take j).map low8)) ?turnX ?finX _ 0 [] _ (Nat.zero_add _) ⟨rfl, .nil⟩)
        case turnX =>
          rintro j ys nw v I2 oI2 C3 oC3 D3 oK h9 tk9 E' hj hv2 hJ0 hK F7 N7 off offK ne CE hCE
          refine hide fun P0 hP0 => ?_
          obtain ⟨rfl, hU⟩ := hJ0
          have hjC : j < C2.length := by rw [hvl] at hj; omega
          obtain ⟨v3, e6, hD3⟩ := hWv2.get (k := j) (by rw [List.length_map]; exact hjC)
          rw [List.getElem?_toArray, e6] at hv2
          cases hv2
          rw [List.getElem_map] at hD3
          unfold wiD at hD3
          cases hD3 with
          | @list la2 va2 na2 _ hm3 hA3 =>
          have hIz := dat_ints hA3
          have hm4 : (la2, W.listOf (List.toArray va2) na2) ∈ ((wD, W.listOf wvs2.toArray cw) :: (R, W.listOf (List.toArray ws) cc) :: (I, oI) :: (sl, W.listOf (List.toArray us') c') :: (tl ++ news)) := by
            simp only [List.mem_cons, List.mem_append] at hm3 ⊢
            rcases hm3 with h | h <;> simp [h]
          obtain ⟨t7, hy7⟩ := hIz.get 7 ((bitsN 8 C2[j]).getD 7 0) (getD_some (by rw [bitsN_len]; decide))
          generalize hz : C2[j] = z at hIz hy7
          have hy7' : va2[Int.toNat 7]? = some (.int ((bitsN 8 z).getD 7 0) t7) := hy7
          clear F6 N6
          refine hP0 ?_
          clear hP0 P0
          k_steps
          unfold Held
          rename IsRange _ _ _ _ _ _ _ _ => R3
          rename News _ _ _ _ => N8
          rename Fr _ _ _ _ => F8
          refine LCg.CompSrc.range (n := 7) rfl F8 N8 R3 (small_one (by omega) (by omega) (by omega) (by omega)) (rangeSize_nat _ _) (by decide) (fun g => comp_turnsT 7 (fun j2 ws3 nw2 => nw2 = _ ∧ IntsAre ws3 ((List.range j2).map fun k => (bitsN 8 z).getD k 0 * 2 ^ k)) ?turn4 ?fin4 _ 0 [] _ (Nat.zero_add _) ⟨rfl, .nil⟩)
          case turn4 =>
            rintro j2 ws3 nw2 v I4 oI4 C4 oC4 D4 m₂ h10 tk10 E4 hj2 hJ0 hJ1 hC4 hx4 F9 N9 off4 ne4 CE hCE
            refine hide fun P0 hP0 => ?_
            obtain ⟨tv, rfl⟩ := hJ0
            obtain ⟨rfl, hU2⟩ := hJ1
            obtain ⟨tx, hx0⟩ := hIz.get j2 ((bitsN 8 z).getD j2 0) (getD_some (by rw [bitsN_len]; omega))
            have hx1 : va2[((0 : Int) + (j2 : Nat)).toNat]? = some (.int ((bitsN 8 z).getD j2 0) tx) := by rw [show ((0 : Int) + (j2 : Nat)).toNat = j2 by omega]; exact hx0
            have bX : 0 ≤ (bitsN 8 z).getD j2 0 ∧ (bitsN 8 z).getD j2 0 ≤ 1 := by rw [bitsN_at 8 z j2 (by omega)]; omega
            generalize hX : (bitsN 8 z).getD j2 0 = X at hx1 bX
            clear F8 N8 hx0
            refine hP0 ?_
            clear hP0 P0
            k_steps
            refine hCE _ _ ?_
            refine LCg.CompEnd.intro F9 N9 _ (fun p hp => hp) off4 True.intro ⟨rfl, ?_⟩
            rw [List.range_succ, List.map_append]
            refine hU2.append (ints_one ?_)
            rw [show ((0 : Int) + (j2 : Nat)).toNat = j2 by omega]
            exact congrArg (· * 2 ^ j2) hX.symm
          case fin4 =>
            rintro ws3 nw2 hJ0
            refine hide fun P0 hP0 => ?_
            obtain ⟨rfl, hU2⟩ := hJ0
            refine hP0 ?_
            clear hP0 P0
            intro D4 h10 tk10 F9 N9 off4
            clear F8 N8
            k_steps
            rename Fr _ _ _ _ => F10
            rename News _ _ _ _ => N10
            refine hCE _ _ ?_
            refine CompEndX.intro F10 N10 _ (fun p hp => .tail _ hp) off offK (.inr ⟨_, .head _, rfl, _, rfl⟩) ⟨rfl, ?_⟩
            rw [take_snoc _ _ hjC, List.map_append]
            refine hU.append (ints_one ?_)
            rw [hz]
            exact signed_bits z
        case finX =>
          rintro ys nw hJ0
          refine hide fun P0 hP0 => ?_
          obtain ⟨rfl, hU⟩ := hJ0
          refine hP0 ?_
          clear hP0 P0
          intro D5 h11 tk11 F7 N7 off5
          clear F6 N6
          have hsD : @Ne Nat sl D5 := off5.2.2.2.1
          have hoT : OwnOff tl [sl] := fun p hp b hb => by rw [List.mem_singleton.mp hb]; exact o1 p hp sl (.head _)
          have hoN : OwnOff news [sl] := fun p hp b hb => by rw [List.mem_singleton.mp hb]; exact o2 p hp sl (.head _)
          have hsz : us'.toArray.size ≤ 100 := by
            have := hSt.length
            rw [List.length_map, statesL_len, List.length_take] at this
            rw [List.size_toArray]; omega
          k_steps
          rename Fr _ _ _ (fun y => _) => F9
          rename News _ _ _ _ => N9
          have hst : List.foldl (stepN n) ns (List.take (i + 1) xs) = C2 := by
            rw [take_snoc _ _ hi, List.foldl_append, hCe]
            exact hC2
          have hsL : statesL n ns (List.take (i + 1) xs) = statesL n ns (List.take i xs) ++ [C2.map low8] := by
            rw [take_snoc _ _ hi, statesL_snoc, hCe, hC2]
          have hU4 : IntsAre ys (C2.map low8) := by rw [hvl, List.take_of_length_le (by rw [hlC2]; exact Nat.le_refl _)] at hU; exact hU
          refine hTP _ _ ?_
          refine turn_post ((sl, W.listOf (us'.toArray.push (.ref D5)) (c' + 1)) :: (wD, W.listOf (List.toArray wvs2) cw) :: (((D5, LCg.lst ys) :: (R, W.listOf (List.toArray ws) cc) :: tl) ++ news)) F9 N9 (fun p hp => ?_) (fun p hp => ?_) ⟨wD, sl, wvs2, cw, us' ++ [.ref D5], c' + 1, (D5, LCg.lst ys) :: (R, W.listOf (List.toArray ws) cc) :: tl, rfl, rfl, rfl, by rw [List.push_toArray], ?_, ?_, o0, ?_, o2⟩
          · simp only [List.mem_cons, List.mem_append, List.cons_append] at hp ⊢
            rcases hp with h | h | h | h | h | h | h <;> simp [h]
          · simp only [List.mem_cons, List.mem_append, List.cons_append] at hp
            rcases hp with rfl | rfl | rfl | rfl | hp | hp
            · exact Ne.symm hIs
            · exact Ne.symm hIw
            · exact (off5.2.2.1).symm
            · exact hRI
            · exact hnI p (.tail _ (.tail _ (List.mem_append_left _ hp)))
            · exact hnI p (.tail _ (.tail _ (List.mem_append_right _ hp)))
          · rw [hst]; exact hWv2.mono fun p hp => .tail _ hp
          · rw [hsL, List.map_append]
            exact DatAll.append (hSt.mono fun p hp => .tail _ (.tail _ hp)) (DatAll.one (DatIn.list (.head _) (ints_dat hU4)))
          · intro p hp b hb
            simp only [List.mem_cons] at hp
            rcases hp with rfl | rfl | hp
            · simp only [List.mem_cons, List.not_mem_nil, or_false] at hb
              rcases hb with rfl | rfl
              · exact hsD.symm
              · exact (off5.1).symm
            · simp only [List.mem_cons, List.not_mem_nil, or_false] at hb
              rcases hb with rfl | rfl
              · exact hRs
              · exact hRw
            · exact o1 p hp b hb
    case done =>
      rintro m₁ nx h tk hJ0 F2 N2
      refine hide fun P0 hP0 => ?_
      obtain ⟨wD, sl, wvs, cw, us', c', tl, e1, e2, e3, rfl, hWv, hSt, o0, o1, o2⟩ := hJ0
      have F3 := fr_put F2 e3
      clear F2 F1 N1
      refine hP0 ?_
      clear hP0 P0
      dsimp only
      k_steps
      rename_i kF kN TcI kXI
      refine hret _ _ _ _ kF kN ⟨(sl, W.listOf (List.toArray us') c') :: (wD, W.listOf (List.toArray wvs) cw) :: tl, rfl, ?_⟩
      rw [hv.length, List.length_map, List.take_length] at hSt
      exact DatIn.list (.head _) (hSt.mono fun p hp => .tail _ (.tail _ hp))
end
end
-- PART-END ByW

section
open PySem PySem.W PyProof.Rows
section
open LCg
section
variable {prog : Program} {w : World} {A : Around} {E : Value → Shared → Prop} {s : Shared} {h₀ : Heap} {L : Addr} {m : Str → Option Value} {env : Env}
theorem compP_turns {elt : PySem.Expr} {x x₂ : Str} {scope : Scope} {cl : List (Str × Addr)} {S : List (Addr × Obj) → Prop} {P : Nat → Value → Prop} {Fin : List Value → List (Addr × Obj) → Prop} (n : Nat) (J : Nat → List Value → List (Addr × Obj) → Prop)
    (turn : ∀ i ys news v, i < n → P i v → J i ys news → ∃ (t : Addr) (ot : Obj) (v₁ v₂ : Value) (nt : Nat), v = .ref t ∧ (t, ot) ∈ news ∧ ot.cls = .type "tuple" ∧ ot.data = .seq #[v₁, v₂] nt ∧
      ∀ I oI C oC D m₂ h tk (E' : Value → Shared → Prop), NsObj oC m₂ → m₂ x = some v₁ → m₂ x₂ = some v₂ → Fr h₀ L h m → News h₀ L h ((I, oI) :: (C, oC) :: (D, lst ys) :: news) → Off3 I C D news → ((@Ne Nat I C) ∧ (@Ne Nat I D) ∧ (@Ne Nat C D)) →
      wpAny (model prog w) A (eval elt (compEnvC scope cl C env)) (CompEnd h₀ L m { s with heap := h, toks := tk } I oI C oC D (lst ys) S (fun y news' => J (i + 1) (ys ++ [y]) news')) E' { s with heap := h, toks := tk })
    (fin : ∀ ys news, J n ys news → Fin ys news) :
    ∀ k i ys news, i + k = n → J i ys news → LCp.CompRestP prog w A h₀ L m env elt x x₂ scope cl s S P Fin k i ys news := by
  intro k
  induction k with
  | zero => intro i ys news hi hj; obtain rfl : i = n := by omega
            exact fin ys news hj
  | succ k ih =>
    intro i ys news hi hj v hP
    obtain ⟨t, ot, v₁, v₂, nt, e1, e2, e3, e4, rest⟩ := turn i ys news v (by omega) hP hj
    refine ⟨t, ot, v₁, v₂, nt, e1, e2, e3, e4, fun I oI C oC D m₂ h tk E' hC hx hx2 F N off ne => ?_⟩
    refine wpAny_mono (rest I oI C oC D m₂ h tk E' hC hx hx2 F N off ne) (fun y s₂ h₂ => ?_) fun _ _ e => e
    obtain ⟨h', tk', news', e, F', N', off', hS, hJ⟩ := h₂
    exact ⟨h', tk', news', e, F', N', off', hS, ih (i + 1) (ys ++ [y]) news' (by omega) hJ⟩
end
section
variable {prog : Program} {w : World} {A : Around} {E : Value → Shared → Prop} {s : Shared} {h₀ : Heap} {L a b : Addr} {news n₁ n₂ : List (Addr × Obj)} {xs ys : List Value} {ka kb : Nat} {ds : List Dat} {Q : Value → Shared → Prop}
theorem ne_same (N : News h₀ L s.heap news) (ma : (a, W.listOf xs.toArray ka) ∈ news) (Da : DatAll n₁ xs ds) (sa : ∀ p ∈ n₁, p ∈ news) (mb : (b, W.listOf ys.toArray kb) ∈ news) (Db : DatAll n₂ ys ds) (sb : ∀ p ∈ n₂, p ∈ news)
    (ha : ∀ d ∈ ds, kqdOk 8 d = true) (hu : A.units + 64 < cLine) (h : Q (.bool false) s) : wpAny (model prog w) A (compareOp .NotEq (.ref a) (.ref b)) Q E s :=
  kqd_ne N ma rfl rfl Da sa mb rfl rfl Db sb ha ha hu (by simpa using h)
theorem eq_same (N : News h₀ L s.heap news) (ma : (a, W.listOf xs.toArray ka) ∈ news) (Da : DatAll n₁ xs ds) (sa : ∀ p ∈ n₁, p ∈ news) (mb : (b, W.listOf ys.toArray kb) ∈ news) (Db : DatAll n₂ ys ds) (sb : ∀ p ∈ n₂, p ∈ news)
    (ha : ∀ d ∈ ds, kqdOk 8 d = true) (hu : A.units + 64 < cLine) (h : Q (.bool true) s) : wpAny (model prog w) A (compareOp .Eq (.ref a) (.ref b)) Q E s :=
  kqd_eq N ma rfl rfl Da sa mb rfl rfl Db sb ha ha hu (by simpa using h)
end
/-- texts, by their figures -/
inductive StrsAre : List Value → List (List Nat) → Prop
  | nil : StrsAre [] []
  | cons (l : List Nat) (t : Tok) {vs : List Value} {ls : List (List Nat)} : StrsAre vs ls → StrsAre (.str ⟨l.toArray⟩ t :: vs) (l :: ls)
theorem StrsAre.append {vs ws : List Value} {ls ks : List (List Nat)} (h : StrsAre vs ls) (k : StrsAre ws ks) : StrsAre (vs ++ ws) (ls ++ ks) := by
  induction h with
  | nil => exact k
  | cons l t _ ih => exact .cons l t ih
theorem StrsAre.length {vs : List Value} {ls : List (List Nat)} (h : StrsAre vs ls) : vs.length = ls.length := by
  induction h with
  | nil => rfl
  | cons l t _ ih => rw [List.length_cons, List.length_cons, ih]
theorem StrsAre.get {vs : List Value} {ls : List (List Nat)} (h : StrsAre vs ls) : ∀ (i : Nat) (l : List Nat), ls[i]? = some l → ∃ t, vs[i]? = some (.str ⟨l.toArray⟩ t) := by
  induction h with
  | nil => intro i l e; simp at e
  | cons l t _ ih =>
    intro i k e
    cases i with
    | zero => rw [List.getElem?_cons_zero] at e; cases e; exact ⟨t, by rw [List.getElem?_cons_zero]⟩
    | succ i => rw [List.getElem?_cons_succ] at e ⊢; exact ih i k e
theorem due_at (n : Nat) : ∀ (xs : List Int) (j k : Nat) (h : k < xs.length) (tl : List (List Nat)), ((dueFrom n j xs).map (·.1) ++ tl)[3 * k]? = some (List.replicate (goalOf n xs[k]).toNat 46) ∧
    ((dueFrom n j xs).map (·.1) ++ tl)[3 * k + 1]? = some (List.replicate (srcOf xs[k]).toNat 46) ∧ ((dueFrom n j xs).map (·.1) ++ tl)[3 * k + 2]? = some (namesL (xs[k] % 1000000 % 8))
  | x :: xs, j, 0, _, tl => ⟨rfl, rfl, rfl⟩
  | x :: xs, j, k + 1, h, tl => by
    have ih := due_at n xs (j + 1) k (by simpa using h) tl
    rw [dueFrom, List.map_append, List.append_assoc]
    have e : (dueOf n j x).map (·.1) = [List.replicate (goalOf n x).toNat 46, List.replicate (srcOf x).toNat 46, namesL (x % 1000000 % 8)] := rfl
    rw [e]
    exact ih
theorem words_of {n : Nat} {us : List Value} {xs : List Int} (h : StrsAre us ((dueAll n xs).map (·.1))) : WordsOf n us xs := by
  intro k hk
  have hd := due_at n xs 0 k hk [[], []]
  have e : (dueAll n xs).map (·.1) = (dueFrom n 0 xs).map (·.1) ++ [[], []] := by
    unfold dueAll
    rw [List.map_append]; rfl
  rw [e] at h
  obtain ⟨t1, a1⟩ := h.get _ _ hd.1
  obtain ⟨t2, a2⟩ := h.get _ _ hd.2.1
  obtain ⟨t3, a3⟩ := h.get _ _ hd.2.2
  refine ⟨_, _, t1, t2, t3, a1, a2, a3, ?_, ?_⟩
  · show ((List.replicate (goalOf n xs[k]).toNat 46).toArray.size : Int) = _
    rw [List.size_toArray, List.length_replicate]
    unfold goalOf; split <;> omega
  · show ((List.replicate (srcOf xs[k]).toNat 46).toArray.size : Int) = _
    rw [List.size_toArray, List.length_replicate]
    unfold srcOf; omega
theorem dueAll_len (n : Nat) (xs : List Int) : (dueAll n xs).length = 3 * xs.length + 2 := by
  unfold dueAll
  rw [List.length_append, dueFrom_len]; rfl
theorem startL_len (vs : List Value) : (startL vs).length = 4 := by simp [startL]
theorem startL_fits (vs : List Value) : Fits 31 (startL vs) := by
  intro z hz
  obtain ⟨k, _, rfl⟩ := List.mem_map.mp hz
  generalize (([77, -3, 100, 6] : List Int).getD k 0 + (partL vs k).sum + 1000000000) = q
  have : (2 : Nat) ^ 31 = 2147483648 := by decide
  omega
theorem stD_ok (l : List Int) : kqdOk 8 (stD l) = true := by
  unfold stD
  simp [kqdOk]
theorem word_ok {l : List Nat} (h : ∀ c ∈ l, c < 0x110000) (k : Int) : kqdOk 8 (wordD (l, k)) = true := by
  unfold wordD
  simp only [kqdOk, List.all_cons, List.all_nil, Bool.and_true, PyData.strOk]
  simpa using h
theorem dots_small (k : Nat) : ∀ c ∈ List.replicate k 46, c < 0x110000 := by
  intro c hc
  rw [(List.mem_replicate.mp hc).2]; decide
theorem due_ok (n : Nat) (xs : List Int) : ∀ d ∈ (dueAll n xs).map wordD, kqdOk 8 d = true := by
  have h : ∀ (xs : List Int) (k : Nat), ∀ p ∈ dueFrom n k xs, kqdOk 8 (wordD p) = true := by
    intro xs
    induction xs with
    | nil => intro k p hp; cases hp
    | cons x xs ih =>
      intro k p hp
      rw [dueFrom] at hp
      rcases List.mem_append.mp hp with hp | hp
      · unfold dueOf at hp
        simp only [List.mem_cons, List.not_mem_nil, or_false] at hp
        rcases hp with rfl | rfl | rfl
        · exact word_ok (dots_small _) _
        · exact word_ok (dots_small _) _
        · refine word_ok ?_ _
          have : ∀ d : Int, 0 ≤ d ∧ d < 8 → ∀ c ∈ namesL d, c < 0x110000 := fun d hd => deeds8 (P := fun d => ∀ c ∈ namesL d, c < 0x110000) hd (by decide) (by decide) (by decide) (by decide) (by decide) (by decide) (by decide) (by decide)
          exact this _ (by omega)
      · exact ih _ p hp
  intro d hd
  obtain ⟨p, hp, rfl⟩ := List.mem_map.mp hd
  unfold dueAll at hp
  rcases List.mem_append.mp hp with hp | hp
  · exact h xs 0 p hp
  · simp only [List.mem_cons, List.not_mem_nil, or_false, or_self] at hp
    subst hp
    exact word_ok (fun c h => by simp at h) _
end
end
-- PART-END LawA

section
open PySem PySem.W PyProof.Rows
section
local macro_rules | `(tactic| walk_at "exec Assign") => `(tactic| k_fold)
local macro_rules | `(tactic| walk_at "eval BinOp") => `(tactic| k_fold)
local macro_rules | `(tactic| walk_at "eval Call") => `(tactic| k_fold)
local macro_rules | `(tactic| walk_at "call ref") => `(tactic| walk_at "my held")
local macro_rules | `(tactic| walk_at "call builtin:len") => `(tactic| walk_at "my len")
local macro_rules | `(tactic| walk_at "compareOp NotEq ref ref") => `(tactic| (k_here; refine held ?_))
local macro_rules | `(tactic| walk_at "compareOp Eq ref ref") => `(tactic| (k_here; refine held ?_))
local macro_rules | `(tactic| walk_at "eval ListComp") => `(tactic| (k_here; k_dflt (refine LCp.ListComp_P (F₀ := by k_asm) (by with_unfolding_all rfl) (by decide) (by rfl) (by decide) (by rfl) (by rfl) (by decide) ?_)))
local macro_rules | `(tactic| walk_at "SrcLP") => `(tactic| (k_here; refine held ?_))
set_option maxRecDepth 100000 in
set_option maxHeartbeats 8000000 in
theorem law_holds : PySem.Challenge.rw_sw0006_01.Holds := by
  w_top off
  refine hd ?_
  w_strict (k_go0; (all_goals try k_fold); k_steps)
  unfold Held
  rename IntsAre _ _ => hI
  rename ¬ (_ < _) => hc63
  rename News _ _ _ _ => N1
  rename Fr _ _ _ _ => F1
  rename Below _ _ _ _ => B1
  rename Frag.In _ _ => X1
  rename Top _ _ _ _ _ _ => T1
  rename Heap.IsList (ghostOf _ _) _ _ => hl
  refine rows_spec _ _ _ _ _ hI (by omega) _ _ _ _ _ _ _ _ _ _ _ _ _ _ _ _ _ _ _ _ _ _ B1 F1 X1 N1 T1 rfl hl ?dp ?un ?_
  case dp => decide
  case un => decide
  intro r tl h2 tk2 F2 N2 hord hR
  refine hide fun P0 hP0 => ?_
  clear F1 N1
  rename List Value => vs
  rename List Int => ns
  have hR0 := hR
  cases hR0 with
  | @list rl rvs rn _ hmR hvR =>
  obtain ⟨n, hn, hn3⟩ : ∃ n : Nat, (1 + (ns.take 4).sum.fmod 3) = ((n + 1 : Nat) : Int) ∧ n + 1 ≤ 3 := ⟨((ns.take 4).sum.fmod 3).toNat, by have := fmodE (ns.take 4).sum 3 (by decide); omega, by have := fmodE (ns.take 4).sum 3 (by decide); omega⟩
  have hlen : rvs.length = (srcs ns).length := by rw [hvR.length, List.length_map]
  have hs8 : (srcs ns).length ≤ 8 := by simp [srcs]; omega
  have hml : (rl, W.listOf (List.toArray rvs) rn) ∈ tl ++ [(195, tabObj #[])] := List.mem_append_left _ hmR
  refine hP0 ?_
  clear hP0 P0
  k_steps
  unfold Held
  rename News _ _ _ _ => N3
  rename Fr _ _ _ (fun y => _) => F3
  rw [hn] at F3
  rw [hn]
  refine wpAny_call (sent_spec _ rl rvs rn (srcs ns) (n + 1) _ _ (by repeat' (first | assumption | refine List.Mem.tail _ ?_)) (hvR.mono fun p hp => by simp [hp]) hs8 hn3 _ _ _ _ _ _ _ _ _ _ _ _ _ _ _ _ _ _ _ _ _ _ B1 F3 X1 N3 T1 rfl trivial (by decide) (by decide) ?_)
  rintro r2 nx2 h3 tk3 F4 N4 hJ0
  refine hide fun P0 hP0 => ?_
  obtain ⟨y, ty, rfl, rfl, hQ⟩ := hJ0
  refine hP0 ?_
  clear hP0 P0
  k_steps
  unfold Held
  rename News _ _ _ _ => N5
  rename Fr _ _ _ (fun y => _) => F5
  rw [show (3 * ((srcs ns).length : Int) + 2) = ((3 * (srcs ns).length + 2 : Nat) : Int) by push_cast; rfl]
  have hoff : OwnOff tl [195] := fun p hp b hb => by rw [List.mem_singleton.mp hb]; exact Ne.symm (Nat.ne_of_lt (hord _ (.head _) p hp))
  have hyl : y.cps.size ≤ 90000 := by
    have h1 := hQ.small hn3 (by have := rowText_len (srcs ns); omega)
    have h2 : y.cps.toList.length = y.cps.size := Array.length_toList
    omega
  have N6 : News _ _ _ ((195, tabObj #[]) :: tl) := fun p hp => N5 p (by
    rcases List.mem_cons.mp hp with rfl | hp
    · simp
    · simp [hp])
  refine wpAny_call (words_spec _ y ty _ (3 * (srcs ns).length + 2) tl hyl (by omega) (dueAll (n + 1) (srcs ns)) (toks_due hQ) hoff _ _ _ _ _ _ _ _ _ _ _ _ _ _ _ _ _ _ _ _ _ _ B1 F5 X1 N6 T1 rfl codeHd (by decide) (by decide) ?_)
  rintro r3 nx3 h5 tk5 F7 N7 hJ0
  refine hide fun P0 hP0 => ?_
  obtain ⟨td, us, cu, tups, ts, rfl, rfl, hDT, hlt1, hlt2⟩ := hJ0
  clear F3 N3 N5 F5 N6
  have hmL2 : (rl, W.listOf (List.toArray rvs) rn) ∈ tups ++ ((195, tabObj ts) :: tl) := List.mem_append_right _ (.tail _ hmR)
  refine hP0 ?_
  clear hP0 P0
  k_steps
  unfold Held
  rename News _ _ _ _ => N8
  rename Fr _ _ _ (fun y => _) => F8
  refine wpAny_call (due_spec _ rl rvs rn (srcs ns) (n + 1) _ _ (by repeat' (first | assumption | refine List.Mem.tail _ ?_)) (hvR.mono fun p hp => by simp [hp]) hs8 hn3 _ _ _ _ _ _ _ _ _ _ _ _ _ _ _ _ _ _ _ _ _ _ B1 F8 X1 N8 T1 rfl trivial (by decide) (by decide) ?_)
  rintro r4 nx4 h6 tk6 F9 N9 hJ0
  refine hide fun P0 hP0 => ?_
  obtain ⟨tl2, rfl, hD2, hord2⟩ := hJ0
  clear F8 N8
  cases hD2 with
  | @list dl dvs dn _ hmD hvD =>
  refine hP0 ?_
  clear hP0 P0
  k_steps
  unfold Held
  rename News _ _ _ _ => N10
  rename Fr _ _ _ (fun y => _) => F10
  refine ne_same N10 (a := td) (b := dl) (List.mem_append_right _ (.head _)) hDT (fun p hp => by simp [hp]) (List.mem_append_left _ hmD) hvD (fun p hp => by simp [hp]) (due_ok _ _) (of_decide_eq_true rfl) ?_
  k_steps
  unfold Held
  rename News _ _ _ _ => N11
  rename Fr _ _ _ (fun y => _) => F11
  have hul : us.length = 3 * (srcs ns).length + 2 := by rw [hDT.length, List.length_map, dueAll_len]
  refine LCp.SrcLP.ledger rfl F11 N11 (List.mem_append_right _ (.head _)) (by rw [List.size_toArray, hul, sizeLine_eq]; omega) (fun g => compP_turns us.toArray.size (fun i ys nw => nw = _ ∧ StrsAre ys (((dueAll (n + 1) (srcs ns)).map (·.1)).take i)) ?turn ?fin _ 0 [] _ (Nat.zero_add _) ⟨rfl, .nil⟩)
  case turn =>
    rintro i ys nw v hi hP ⟨rfl, hU⟩
    have hiu : i < (dueAll (n + 1) (srcs ns)).length := by rw [dueAll_len, ← hul]; simpa using hi
    obtain ⟨v3, e6, hD3⟩ := hDT.get (k := i) (by rw [List.length_map]; exact hiu)
    rw [List.getElem?_toArray, e6] at hP
    cases hP
    rw [List.getElem_map] at hD3
    generalize hpe : (dueAll (n + 1) (srcs ns))[i] = pw at hD3
    unfold wordD at hD3
    cases hD3 with
    | @tuple T9 vs9 n9 _ hmT hA =>
    cases hA with
    | cons a1 hA => cases hA with
    | cons a2 hA =>
    cases hA
    cases a1; cases a2
    refine ⟨T9, _, _, _, n9, rfl, List.mem_append_right _ (.tail _ (List.mem_append_left _ hmT)), rfl, rfl, fun I oI C oC D m₂ h tk E' hC hx hx2 F N off ne => ?_⟩
    clear F11 N11
    k_steps
    refine LCg.CompEnd.intro F N _ (fun p hp => hp) off (.inr ⟨_, List.mem_append_right _ (.head _), rfl, _, rfl⟩) ⟨rfl, ?_⟩
    rw [take_snoc _ _ (by rw [List.length_map]; exact hiu)]
    refine hU.append ?_
    rw [List.getElem_map, hpe]
    exact .cons _ _ .nil
  case fin =>
    rintro ys nw hJ0
    refine hide fun P0 hP0 => ?_
    obtain ⟨rfl, hU⟩ := hJ0
    have hU2 : StrsAre ys ((dueAll (n + 1) (srcs ns)).map (·.1)) := by rw [List.take_of_length_le (by rw [List.length_map, dueAll_len, List.size_toArray, hul]; exact Nat.le_refl _)] at hU; exact hU
    refine hP0 ?_
    clear hP0 P0
    intro D h7 tk7 F12 N12 off
    clear F11 N11
    have hvl : vs.length ≤ 63 := by rw [hI.length]; omega
    k_steps
    unfold Held
    rename News _ _ _ _ => N13
    rename Fr _ _ _ (fun y => _) => F13
    refine wpAny_call (start_spec _ _ vs ns _ hI hvl _ _ _ _ _ _ _ _ _ _ _ _ _ _ _ _ _ _ _ _ _ _ B1 F13 X1 N13 T1 rfl hl (by decide) (by decide) ?_)
    rintro r5 nx5 h8 tk8 F14 N14 hJ0
    refine hide fun P0 hP0 => ?_
    obtain ⟨R1, vn, c1, rfl, rfl, hV, hR1⟩ := hJ0
    refine hP0 ?_
    clear hP0 P0
    k_steps
    unfold Held
    rename News _ _ _ _ => N15
    rename Fr _ _ _ (fun y => _) => F15
    refine wpAny_call (run_spec _ D R1 ys vn _ c1 (n + 1) (srcs ns) (startL vs) _ (.head _) (by rw [hU2.length, List.length_map, dueAll_len]) hs8 (words_of hU2) hV (startL_len vs) (startL_fits vs) hn3 hR1 _ _ _ _ _ _ _ _ _ _ _ _ _ _ _ _ _ _ _ _ _ _ B1 F15 X1 N15 T1 rfl trivial (by decide) (by decide) ?_)
    rintro r6 nx6 h9 tk9 F16 N16 hJ0
    refine hide fun P0 hP0 => ?_
    obtain ⟨tl3, rfl, hD6⟩ := hJ0
    cases hD6 with
    | @list sl svs sn _ hmS hvS =>
    refine hP0 ?_
    clear hP0 P0
    k_steps
    unfold Held
    rename News _ _ _ _ => N17
    rename Fr _ _ _ (fun y => _) => F17
    refine wpAny_call (start_spec _ _ vs ns _ hI hvl _ _ _ _ _ _ _ _ _ _ _ _ _ _ _ _ _ _ _ _ _ _ B1 F17 X1 N17 T1 rfl hl (by decide) (by decide) ?_)
    rintro r7 nx7 h10 tk10 F18 N18 hJ0
    refine hide fun P0 hP0 => ?_
    obtain ⟨R2, vn2, c2, rfl, rfl, hV2, hR2⟩ := hJ0
    refine hP0 ?_
    clear hP0 P0
    k_steps
    unfold Held
    rename News _ _ _ _ => N19
    rename Fr _ _ _ (fun y => _) => F19
    refine wpAny_call (byw_spec _ rl R2 rvs vn2 rn c2 (n + 1) _ (srcs ns) (startL vs) _ (.tail _ (List.mem_append_right _ (.tail _ (List.mem_append_right _ (.tail _ hmL2))))) (hvR.mono fun p hp => by simp [hp]) hs8 (.head _) hV2 (startL_len vs) hn3 _ _ _ _ _ _ _ _ _ _ _ _ _ _ _ _ _ _ _ _ _ _ B1 F19 X1 N19 T1 rfl trivial (by decide) (by decide) ?_)
    rintro r8 nx8 h11 tk11 F20 N20 hJ0
    refine hide fun P0 hP0 => ?_
    obtain ⟨tl4, rfl, hD8⟩ := hJ0
    cases hD8 with
    | @list bl bvs bn _ hmB hvB =>
    refine hP0 ?_
    clear hP0 P0
    k_steps
    unfold Held
    rename News _ _ _ _ => N21
    rename Fr _ _ _ (fun y => _) => F21
    refine eq_same N21 (a := sl) (b := bl) (List.mem_append_right _ (.tail _ (List.mem_append_left _ hmS))) hvS (fun p hp => by simp [hp]) (List.mem_append_left _ hmB) hvB (fun p hp => by simp [hp]) (fun d hd => by obtain ⟨l, _, rfl⟩ := List.mem_map.mp hd; exact stD_ok l) (of_decide_eq_true rfl) ?_
    refine ⟨goodW_bool F21 (by assumption) (raisesW_false ?nr) ?post rfl, GrownAt.of N21 (List.mem_append_right _ (.tail _ (List.mem_append_right _ (.tail _ (List.mem_append_right _ (.tail _ (List.mem_append_right _ (.head _)))))))), True.intro⟩
    case nr => wrow_none_raised
    case post => kc_post
end
end
-- PART-END Law

end Mine

theorem PySem.Challenge.cw_sw0006_01_holds : PySem.Challenge.rw_sw0006_01.Holds :=
  Mine.law_holds
