import PyProof.Rows.All
import Wide.All
import OpenK.AllK
import Wide.FinOn
import Lean
import PySem.Challenge.RW_vj0019_01
open PySem PySem.W PyProof.Rows
set_option Elab.async false
set_option maxRecDepth 100000
set_option maxHeartbeats 8000000
set_option linter.all false
namespace Mine
open_top hd for PySem.Challenge.rw_vj0019_01
end Mine
namespace Mine
theorem get2_0 {a b : Value} : (#[a, b] : Array Value)[0]? = some a := rfl
theorem get2_1 {a b : Value} : (#[a, b] : Array Value)[1]? = some b := rfl
theorem ne1 {a : Value} {l : List Value} : (!((a :: l).toArray).isEmpty) = true := rfl
theorem ne0 : (!(([] : List Value).toArray).isEmpty) = false := rfl
theorem neP {a : Array Value} {x : Value} : (!(a.push x).isEmpty) = true := by simp [Array.isEmpty]
/-- here the walk stops -/
def Held (P : Prop) : Prop := P
theorem Held.out {P : Prop} (h : Held P) : P := h
abbrev NoE : Value → Shared → Prop := fun _ _ => False
section
variable {prog : Program} {w : World} {A : Around} {E : Value → Shared → Prop} {s : Shared} {env : Env} {h₀ : Heap} {L : Addr} {m : Str → Option Value} {news : List (Addr × Obj)}

def okR (Q : Flow → Shared → Prop) (r : Result) (s' : Shared) : Prop := match r with | .ok f => Q f s' | .error _ => False

theorem notedNo {α : Type} {t : Sem α} {Q : α → Shared → Prop} {E' : Value → Shared → Prop} (h : wpAny (model prog w) A t Q NoE s) : wpAny (model prog w) A t Q E' s :=
  wpAny_mono h (fun _ _ x => x) fun _ _ x => x.elim

theorem for_F {target iter body orelse pos} {Q : Flow → Shared → Prop}
    (h : wpAny (model prog w) A (eval iter env) (fun x s₁ => wpAny (model prog w) A (pyIter x) (fun it s₂ =>
      codeAny (model prog w) A (.forLoop target it body orelse env) (okR Q) s₂) NoE s₁) NoE s)
    (hs : ∀ x, foldedSetIterable iter env x = pure x := by intro _; with_unfolding_all rfl) :
    wpAny (model prog w) A (exec (.For target iter body orelse pos) env) Q E s := by
  refine wpAny_For (notedNo (wpAny_mono h (fun x s₁ h₁ => ?_) fun _ _ x => x)) hs
  refine notedNo (wpAny_mono h₁ (fun it s₂ h₂ => ?_) fun _ _ x => x)
  refine codeAny_mono h₂ fun r s' hr => ?_
  cases r with
  | ok f => exact hr
  | error e => exact hr.elim

theorem while_F {test body orelse pos} {Q : Flow → Shared → Prop} (h : codeAny (model prog w) A (.whileLoop test body orelse env) (okR Q) s) :
    wpAny (model prog w) A (exec (.While test body orelse pos) env) Q E s := by
  refine wpAny_While (codeAny_mono h fun r s' hr => ?_)
  cases r with
  | ok f => exact hr
  | error e => exact hr.elim

theorem while_I {test body orelse} {Q : Flow → Shared → Prop} (I : Nat → Shared → Prop)
    (turn : ∀ n s, I n s → wpAny (model prog w) A (isTrue test env (eval test env)) (fun b s₂ =>
        if b then wpAny (model prog w) A (execs body env) (fun f s₃ => match f with
            | .next | .cont => ∃ m, m < n ∧ I m s₃
            | .brk => Q .next s₃
            | .ret v => Q (.ret v) s₃) NoE s₂
        else wpAny (model prog w) A (execs orelse env) Q NoE s₂) NoE s)
    (n : Nat) (h : I n s) : codeAny (model prog w) A (.whileLoop test body orelse env) (okR Q) s := by
  refine codeAny_whileLoop I (fun n s hI => ?_) n h
  refine notedNo (wpAny_mono (turn n s hI) (fun b s₂ h₂ => ?_) fun _ _ x => x)
  cases b with
  | false => simp only [Bool.false_eq_true, if_false] at h₂ ⊢; exact notedNo h₂
  | true => simp only [if_true] at h₂ ⊢; exact notedNo h₂

/-- the loop goes on, with less to do -/
def Goes (I : Nat → Shared → Prop) (n : Nat) (s : Shared) : Prop := ∃ m, m < n ∧ I m s
theorem while_J {test body orelse} {Q : Flow → Shared → Prop} (I : Nat → Shared → Prop)
    (turn : ∀ n s, I n s → wpAny (model prog w) A (isTrue test env (eval test env)) (fun b s₂ =>
        if b then wpAny (model prog w) A (execs body env) (fun f s₃ => match f with
            | .next | .cont => Goes I n s₃
            | .brk => Q .next s₃
            | .ret v => Q (.ret v) s₃) NoE s₂
        else wpAny (model prog w) A (execs orelse env) Q NoE s₂) NoE s)
    (n : Nat) (h : I n s) : codeAny (model prog w) A (.whileLoop test body orelse env) (okR Q) s := while_I I turn n h

theorem for_I {target it body orelse} {Q : Flow → Shared → Prop} (I : Nat → Shared → Prop)
    (turn : ∀ n s, I n s → wpAny (model prog w) A (pyNext it) (fun r s₁ => match r with
      | none => wpAny (model prog w) A (execs orelse env) Q NoE s₁
      | some v => wpAny (model prog w) A (assign target env v) (fun _ s₂ => wpAny (model prog w) A (execs body env) (fun f s₃ => match f with
          | .next | .cont => ∃ m, m < n ∧ I m s₃
          | .brk => Q .next s₃
          | .ret v => Q (.ret v) s₃) NoE s₂) NoE s₁) NoE s)
    (n : Nat) (h : I n s) (ht : ∀ v, letOwnedTupleGo target it v = pure () := by intro _; rfl) : codeAny (model prog w) A (.forLoop target it body orelse env) (okR Q) s := by
  refine codeAny_forLoop I (fun n s hI => ?_) n h ht
  refine notedNo (wpAny_mono (turn n s hI) (fun r s₁ h₁ => ?_) fun _ _ x => x)
  cases r with
  | none => exact notedNo h₁
  | some v => exact notedNo (wpAny_mono h₁ (fun _ s₂ h₂ => notedNo h₂) fun _ _ x => x)

theorem for_J {target it body orelse} {Q : Flow → Shared → Prop} (I : Nat → Shared → Prop)
    (turn : ∀ n s, I n s → wpAny (model prog w) A (pyNext it) (fun r s₁ => match r with
      | none => wpAny (model prog w) A (execs orelse env) Q NoE s₁
      | some v => wpAny (model prog w) A (assign target env v) (fun _ s₂ => wpAny (model prog w) A (execs body env) (fun f s₃ => match f with
          | .next | .cont => Goes I n s₃
          | .brk => Q .next s₃
          | .ret v => Q (.ret v) s₃) NoE s₂) NoE s₁) NoE s)
    (n : Nat) (h : I n s) (ht : ∀ v, letOwnedTupleGo target it v = pure () := by intro _; rfl) : codeAny (model prog w) A (.forLoop target it body orelse env) (okR Q) s := for_I I turn n h ht
/-- one turn of a for -/
theorem for_step {target it body orelse} {Q : Flow → Shared → Prop}
    (h : wpAny (model prog w) A (pyNext it) (fun r s₁ => match r with
      | none => wpAny (model prog w) A (execs orelse env) Q NoE s₁
      | some v => wpAny (model prog w) A (letOwnedTupleGo target it v) (fun _ s₁ => wpAny (model prog w) A (assign target env v) (fun _ s₂ => wpAny (model prog w) A (execs body env) (fun f s₃ => match f with
          | .next | .cont => codeAny (model prog w) A (.forLoop target it body orelse env) (okR Q) s₃
          | .brk => Q .next s₃
          | .ret v => Q (.ret v) s₃) NoE s₂) NoE s₁) NoE s₁) NoE s) : codeAny (model prog w) A (.forLoop target it body orelse env) (okR Q) s := by
  refine codeAny_of_tree ?_
  show wpAny _ _ ((forTurn target it body orelse env).onRaise (fun x => do noteFrame x env; theTreesLotGoes x)) _ _ s
  refine wpAny_noted ?_
  simp only [forTurn]
  refine wpAny_bind (wpAny_standAt (wpAny_bind (wpAny_onRaise (notedNo (wpAny_mono h (fun r s₁ h₁ => ?_) fun _ _ h' => h')))))
  cases r with
  | none => exact wpAny_pure ⟨rfl, codeAny_block (notedNo (wpAny_mono h₁ (fun _ _ q => q) fun _ _ q => q))⟩
  | some v =>
    refine wpAny_bind (notedNo (wpAny_mono h₁ (fun _ s₁ h₂ => wpAny_bind (notedNo (wpAny_mono h₂ (fun _ s₂ h₃ => wpAny_bind (notedNo (wpAny_mono h₃ (fun f s₃ h₄ => ?_) fun _ _ q => q))) fun _ _ q => q))) fun _ _ q => q))
    cases f with
    | next => exact wpAny_pure ⟨rfl, h₄⟩
    | cont => exact wpAny_pure ⟨rfl, h₄⟩
    | brk => exact wpAny_pure h₄
    | ret v => exact wpAny_pure h₄

theorem truthyL {l : Addr} {items : Array Value} {n : Nat} {d : Option Addr} {sl : Array (Option Value)} {b : Bool} {Q : Bool → Shared → Prop} (N : News h₀ L s.heap news) (hm : (l, ({ cls := .type "list", dict := d, data := .seq items n, slots := sl } : Obj)) ∈ news)
    (hfit : items.size < 2 ^ 62) (hb : (!items.isEmpty) = b) (h : ∀ tk, Q b { s with toks := tk }) : wpAny (model prog w) A (truthy (.ref l)) Q E s :=
  wpAny_truthy_list (N.isList hm) (by omega) (by rw [hb]; exact h _)
abbrev tupObj (vs : List Value) : Obj := { cls := .type "tuple", data := .seq vs.toArray }
structure TI (o : Obj) (t : Addr) (i : Nat) : Prop where
  cls : o.cls = .type "tuple_iterator"
  data : o.data = .fields #[.ref t, .int i 0]
theorem TI.at {h : Heap} {I t : Addr} {o : Obj} {i : Nat} (x : TI o t i) (e : h.get? I = some o) : IsTupIter h I t i := ⟨o, e, x.cls, x.data⟩

/-- the ledger with the one object at `d` turned -/
theorem News.swap {h' : Heap} {d : Addr} {o o' : Obj} {news' : List (Addr × Obj)} (N : News h₀ L s.heap news) (U : Upd d o o' news news') (hs : Heap.SameBut d s.heap h') (ho : h'.get? d = some o') : News h₀ L h' news' := by
  obtain ⟨pre, post, rfl, rfl, a, b⟩ := U.split
  intro p hp
  rcases List.mem_append.mp hp with q | q
  · have P := N p (List.mem_append_left _ q)
    exact ⟨(hs.2 _ (a p q)).trans P.1, P.2⟩
  · rcases List.mem_cons.mp q with rfl | q
    · exact ⟨ho, (N (d, o) (by simp)).2⟩
    · have P := N p (List.mem_append_right _ (.tail _ q))
      exact ⟨(hs.2 _ (b p q)).trans P.1, P.2⟩
theorem Upd.memL {d : Addr} {o o' : Obj} {l l' : List (Addr × Obj)} (U : Upd d o o' l l') : (d, o) ∈ l := by
  obtain ⟨pre, post, rfl, rfl, _, _⟩ := U.split; simp
theorem Upd.memR {d : Addr} {o o' : Obj} {l l' : List (Addr × Obj)} (U : Upd d o o' l l') : (d, o') ∈ l' := by
  obtain ⟨pre, post, rfl, rfl, _, _⟩ := U.split; simp
theorem Fr.swap {h' : Heap} {d : Addr} {o : Obj} (F : Fr h₀ L s.heap m) (N : News h₀ L s.heap news) (hm : (d, o) ∈ news) (hs : Heap.SameBut d s.heap h') : Fr h₀ L h' m :=
  F.change hs (N _ hm).2.1 (N _ hm).2.2

theorem tup_iter {t : Addr} {items : Array Value} {Q : Value → Shared → Prop} (F : Fr h₀ L s.heap m) (N : News h₀ L s.heap news) (ht : IsTup s.heap t items)
    (h : ∀ I h' o, Fr h₀ L h' m → News h₀ L h' ((I, o) :: news) → TI o t 0 → (∀ p ∈ news, p.1 < I) → t < I → Q (.ref I) { s with heap := h' }) :
    wpAny (model prog w) A (pyIter (.ref t)) Q E s :=
  iter_tuple ht (h _ _ _ (F.push _) (N.push F _) ⟨rfl, rfl⟩ (fun p hp => Heap.lt_size (N p hp).1) (let ⟨_, ho, _⟩ := ht; Heap.lt_size ho))

theorem go_TI {I t : Addr} {o : Obj} {i : Nat} {target : Expr} {v : Value} {Q : Unit → Shared → Prop} (e : s.heap.get? I = some o) (x : TI o t i) (h : Q () s) : wpAny (model prog w) A (letOwnedTupleGo target (.ref I) v) Q E s := by
  unfold letOwnedTupleGo
  split
  all_goals first | (exact wpAny_pure h) | skip
  all_goals (
    split
    · rename_i r a heq
      simp only [Prod.mk.injEq, Value.ref.injEq] at heq
      obtain ⟨rfl, rfl⟩ := heq
      refine wpAny_bind (wpAny_load e ?_)
      rw [x.cls, x.data]
      dsimp only
      rw [if_neg (by
        have e : (["enumerate", "zip", "dict_itemiterator", "dict_reverseitemiterator", "odict_iterator", "itertools.zip_longest", "itertools.pairwise"] : List String).contains "tuple_iterator" = false := by decide
        rw [e, Bool.false_and]; exact Bool.false_ne_true)]
      exact wpAny_pure h
    · exact wpAny_pure h)

/-- a turn of a for over a tuple: its next item -/
theorem tup_turn {I t : Addr} {o : Obj} {items : Array Value} {i : Nat} {v : Value} {g : Obj → List (Addr × Obj)} {target body orelse} {Q : Flow → Shared → Prop}
    (F : Fr h₀ L s.heap m) (N : News h₀ L s.heap news) (U : UpdF I o news g) (x : TI o t i) (ht : IsTup s.heap t items) (hv : items[i]? = some v) (hIt : t ≠ I)
    (h : ∀ h' o', Fr h₀ L h' m → News h₀ L h' (g o') → TI o' t (i + 1) → IsTup h' t items → wpAny (model prog w) A (assign target env v) (fun _ s₂ => wpAny (model prog w) A (execs body env) (fun f s₃ => match f with
          | .next | .cont => codeAny (model prog w) A (.forLoop target (.ref I) body orelse env) (okR Q) s₃
          | .brk => Q .next s₃
          | .ret v => Q (.ret v) s₃) NoE s₂) NoE { s with heap := h' }) : codeAny (model prog w) A (.forLoop target (.ref I) body orelse env) (okR Q) s := by
  obtain ⟨pre, post, rfl, hg, a, b⟩ := U.split
  have hI : s.heap.get? I = some o := (N _ (List.mem_append_right _ (.head _))).1
  refine for_step (next_tuple_item (x.at hI) ht hv fun h' hit hs => ?_)
  obtain ⟨o', ho', hc', hd'⟩ := hit
  have ht' : IsTup h' t items := let ⟨q, hq, r⟩ := ht; ⟨q, (hs.2 t hIt).trans hq, r⟩
  have F' := Fr.swap F N (List.mem_append_right _ (.head _)) hs
  refine go_TI (s := { s with heap := h' }) (o := o') (i := i + 1) ho' ⟨hc', hd'⟩ (h h' o' F' ?_ ⟨hc', hd'⟩ ht')
  rw [hg]
  intro p hp
  rcases List.mem_append.mp hp with q | q
  · have P := N p (List.mem_append_left _ q)
    exact ⟨(hs.2 _ (a p q)).trans P.1, P.2⟩
  · rcases List.mem_cons.mp q with rfl | q
    · exact ⟨ho', (N (I, o) (by simp)).2⟩
    · have P := N p (List.mem_append_right _ (.tail _ q))
      exact ⟨(hs.2 _ (b p q)).trans P.1, P.2⟩

/-- the ledger without the object at `d` -/
inductive Off (d : Addr) (o : Obj) : List (Addr × Obj) → List (Addr × Obj) → Prop
  | head {r} : (∀ p ∈ r, p.1 ≠ d) → Off d o ((d, o) :: r) r
  | tail {p r r'} : p.1 ≠ d → Off d o r r' → Off d o (p :: r) (p :: r')
theorem Off.mem {d : Addr} {o : Obj} : ∀ {l l' : List (Addr × Obj)}, Off d o l l' → (d, o) ∈ l ∧ ∀ p ∈ l', p ∈ l ∧ p.1 ≠ d
  | _, _, .head h => ⟨.head _, fun p hp => ⟨.tail _ hp, h p hp⟩⟩
  | _, _, .tail h r => ⟨.tail _ r.mem.1, fun q hq => by
      rcases List.mem_cons.mp hq with rfl | hq
      · exact ⟨.head _, h⟩
      · exact ⟨.tail _ (r.mem.2 q hq).1, (r.mem.2 q hq).2⟩⟩

/-- the end of a for over a tuple -/
theorem tup_last {I t : Addr} {o : Obj} {items : Array Value} {i : Nat} {news' : List (Addr × Obj)} {target body orelse} {Q : Flow → Shared → Prop}
    (F : Fr h₀ L s.heap m) (N : News h₀ L s.heap news) (U : Off I o news news') (x : TI o t i) (ht : IsTup s.heap t items) (hv : items[i]? = none) (hh : A.handled = none)
    (h : ∀ h', Fr h₀ L h' m → News h₀ L h' news' → wpAny (model prog w) A (execs orelse env) Q NoE { s with heap := h' }) : codeAny (model prog w) A (.forLoop target (.ref I) body orelse env) (okR Q) s := by
  have hI := (N _ U.mem.1)
  refine for_step (next_tuple_end hh (x.at hI.1) ht hv fun h' he => h h' ?_ ?_)
  · obtain ⟨oL, es, ep, hL, r⟩ := F.ns
    exact ⟨⟨oL, es, ep, he _ _ (Ne.symm hI.2.1) hL, r⟩, fun b o e => he b o (fun q => by subst q; rw [hI.2.2] at e; cases e) (F.keep b o e), F.above⟩
  · intro p hp
    have P := N p (U.mem.2 p hp).1
    exact ⟨he _ _ (U.mem.2 p hp).2 P.1, P.2⟩
end
section
variable {prog : Program} {w : World} {A : Around} {E : Value → Shared → Prop} {s : Shared} {env : Env} {h₀ : Heap} {L : Addr} {m : Str → Option Value} {news : List (Addr × Obj)}
theorem UpdF.mem {d : Addr} {o o' : Obj} {g : Obj → List (Addr × Obj)} (U : UpdF d o news g) : (d, o') ∈ g o' := by
  obtain ⟨pre, post, _, hg, _, _⟩ := U.split
  rw [hg]; simp
theorem updF_of {d : Addr} {o : Obj} {post : List (Addr × Obj)} (b : ∀ p ∈ post, p.1 ≠ d) : ∀ (pre : List (Addr × Obj)), (∀ p ∈ pre, p.1 ≠ d) → UpdF d o (pre ++ (d, o) :: post) fun o' => pre ++ (d, o') :: post
  | [], _ => UpdF.head b
  | p :: r, a => UpdF.tail (a p (.head _)) (updF_of b r fun q hq => a q (.tail _ hq))
/-- the end of such a turn -/
def TurnEnd (h₀ : Heap) (L : Addr) (s : Shared) (P : (Str → Option Value) → Prop) (news : List (Addr × Obj)) (s₃ : Shared) : Prop := ∃ h'' m'' tk'', s₃ = { s with heap := h'', toks := tk'' } ∧ P m'' ∧ Fr h₀ L h'' m'' ∧ News h₀ L h'' news
theorem TurnEnd.intro {P : (Str → Option Value) → Prop} {h'' : Heap} {tk : Nat} (F : Fr h₀ L h'' m) (N : News h₀ L h'' news) (hP : P m) : TurnEnd h₀ L s P news { s with heap := h'', toks := tk } := ⟨h'', m, tk, rfl, hP, F, N⟩
/-- a for over a tuple whose turns change names of the frame alone -/
theorem tup_loop {I t : Addr} {o : Obj} {items : Array Value} {g : Obj → List (Addr × Obj)} {news' : List (Addr × Obj)} {target body orelse} {Q : Flow → Shared → Prop} (P : (Str → Option Value) → Prop)
    (F : Fr h₀ L s.heap m) (N : News h₀ L s.heap news) (x : TI o t 0) (ht : IsTup s.heap t items) (hP : P m)
    (U : UpdF I o news g) (hO : ∀ o', Off I o' (g o') news') (htm : ∃ ot, (t, ot) ∈ news') (hh : A.handled = none)
    (turn : ∀ i v h' m' o' tk, items[i]? = some v → P m' → Fr h₀ L h' m' → News h₀ L h' (g o') → TI o' t (i + 1) → wpAny (model prog w) A (assign target env v) (fun _ s₂ => wpAny (model prog w) A (execs body env) (fun f s₃ => match f with
        | .next | .cont => TurnEnd h₀ L s P (g o') s₃
        | .brk => Q .next s₃
        | .ret v => Q (.ret v) s₃) NoE s₂) NoE { s with heap := h', toks := tk })
    (last : ∀ h' m' tk, P m' → Fr h₀ L h' m' → News h₀ L h' news' → wpAny (model prog w) A (execs orelse env) Q NoE { s with heap := h', toks := tk }) :
    codeAny (model prog w) A (.forLoop target (.ref I) body orelse env) (okR Q) s := by
  obtain ⟨pre, post, rfl, hg, a, b⟩ := U.split
  obtain ⟨ot, htm⟩ := htm
  have tI : t ≠ I := ((hO o).mem.2 _ htm).2
  have tN : (t, ot) ∈ g o := ((hO o).mem.2 _ htm).1
  have tg : s.heap.get? t = some ot := (N _ (by rw [hg] at tN; exact tN)).1
  obtain ⟨ot', ht1, ht2, ht3⟩ := ht
  rw [tg] at ht1; cases ht1
  have tup : ∀ h' o', News h₀ L h' (g o') → IsTup h' t items := fun h' o' N' => ⟨ot, (N' _ ((hO o').mem.2 _ htm).1).1, ht2, ht3⟩
  have key : ∀ rem i h' m' o' tk, items.size ≤ i + rem → P m' → Fr h₀ L h' m' → News h₀ L h' (g o') → TI o' t i → codeAny (model prog w) A (.forLoop target (.ref I) body orelse env) (okR Q) { s with heap := h', toks := tk } := by
    intro rem
    induction rem with
    | zero =>
      intro i h' m' o' tk hi hP' F' N' x'
      exact tup_last (s := { s with heap := h', toks := tk }) F' N' (hO o') x' (tup _ _ N') (by simp; omega) hh fun h'' F'' N'' => last _ _ _ hP' F'' N''
    | succ rem ih =>
      intro i h' m' o' tk hi hP' F' N' x'
      by_cases hlt : i < items.size
      · have N'' := N'
        rw [hg] at N''
        refine tup_turn (s := { s with heap := h', toks := tk }) (g := fun o => pre ++ (I, o) :: post) F' N'' ?_ x' (tup _ _ N') (Array.getElem?_eq_getElem hlt) tI fun h₂ o₂ F₂ N₂ x₂ _ => ?_
        · exact updF_of b pre a
        · refine wpAny_mono (turn i _ h₂ m' o₂ tk (Array.getElem?_eq_getElem hlt) hP' F₂ (by rw [hg]; exact N₂) x₂) (fun _ s₂ h₃ => wpAny_mono h₃ (fun f s₃ h₄ => ?_) fun _ _ q => q) fun _ _ q => q
          cases f with
          | next => obtain ⟨h₅, m₅, tk₅, rfl, hP₅, F₅, N₅⟩ := h₄; exact ih _ _ _ _ _ (by omega) hP₅ F₅ N₅ x₂
          | cont => obtain ⟨h₅, m₅, tk₅, rfl, hP₅, F₅, N₅⟩ := h₄; exact ih _ _ _ _ _ (by omega) hP₅ F₅ N₅ x₂
          | brk => exact h₄
          | ret v => exact h₄
      · exact tup_last (s := { s with heap := h', toks := tk }) F' N' (hO o') x' (tup _ _ N') (by simp; omega) hh fun h'' F'' N'' => last _ _ _ hP' F'' N''
  exact key items.size 0 s.heap m o s.toks (by omega) hP F (by rw [hg]; exact N) x
end
/-- the classes of expressions -/
def IsEx (C : Addr) : Prop := C = 336 ∨ C = 394 ∨ C = 420 ∨ C = 458 ∨ C = 497
section
variable {prog : Program} {w : World} {A : Around} {E : Value → Shared → Prop} {s : Shared} {h₀ : Heap} {L : Addr} {m : Str → Option Value} {news : List (Addr × Obj)}
theorem add_tupD {t b : Addr} {vs ws : List Value} {Q : Value → Shared → Prop} (F : Fr h₀ L s.heap m) (N : News h₀ L s.heap news) (ht : IsTup s.heap t vs.toArray) (hb : IsTup s.heap b ws.toArray)
    (h0 : vs ≠ []) (h1 : ws ≠ []) (hsz : vs.length + ws.length ≤ sizeLine)
    (h2 : ∀ D h', Fr h₀ L h' m → News h₀ L h' ((D, tupObj (vs ++ ws)) :: news) → (∀ p ∈ news, p.1 < D) → Q (.ref D) { s with heap := h' }) :
    wpAny (model prog w) A (binaryOp .Add (.ref t) (.ref b)) Q E s :=
  add_tuples F N ht hb (fun h => absurd h h0) (fun _ h => absurd h h1) (fun _ _ h' F' N' => h2 _ h' F' N' fun p hp => Heap.lt_size (N p hp).1) hsz
end
end Mine
namespace Mine
namespace GA
open PySem.Calls Builtin Builtin.ObjectAttr
theorem args_getattr_3 (a b c : Value) : argsOk "getattr" ⟨[a, b, c], []⟩ := by unfold argsOk; kernel_rfl
end GA
section
open PySem.Calls Builtin Builtin.ObjectAttr
variable {prog : Program} {w : World} {A : Around} {E : Value → Shared → Prop} {s : Shared} {K : Frag} {x C L : Addr} {ox : Obj} {name : Str} {h₀ : Heap} {m : Str → Option Value} {news : List (Addr × Obj)} {es : List DictEntry} {n : Nat} {Q : Value → Shared → Prop} {t : Tok} {od : Obj} {dflt : Value}

theorem by_open {P : Value → Shared → Prop} {E' : Value → Shared → Prop} (X : K.In s.heap) (I : InstAt s.heap x ox C (some od)) (hga : findIn K (.ref C) "__getattribute__" = some (some (.builtin "object.__getattribute__")))
    (h : wpAny (model prog w) A.in1 (Builtin.«proto.getattr_hooked» ⟨[.ref x, .str name t], []⟩)
      (fun fin s' => match fin with | .done (.ret v) => wpAny (model prog w) A (handedOut v) P E' s' | _ => False) (fun e s' => wpAny (model prog w) A (noteIf false (.ref x) (.str name t) e) (fun _ s'' => E' e s'') E' s') s) :
    wpAny (model prog w) A (getAttrBy (.ref x) (.str name t) false) P E' s := by
  obtain ⟨hh, g, d, tk, os⟩ := s
  have L0 := I.type (M := model prog w)
  have L1 := looks_findIn (M := model prog w) X hga
  unfold getAttrBy
  refine wpAny_holding (wpAny_bind (L0.at (wpAny_bind (L1.at ?_))))
  show wpAny _ _ (getAttrEveryday _ _ _) _ _ _
  refine wpAny_bind (wpAny_onRaise (wpAny_runValue (codeAny_builtin F.plainObj_entry_getattr_hooked (wpAny_mono h (fun fin s' z => ?_) fun _ _ z => z))))
  rcases fin with (_ | _ | _ | _) | _ <;> first | exact z | exact z.elim

theorem ga3_open (X : K.In s.heap) (I : InstAt s.heap x ox C (some od)) (hn : (name == ("get_source" : Str)) = false) (hm : subIn K (.ref C) (.type "module") = some false)
    (h : wpAny (model prog w) A.in1 (getAttrBy? (.ref x) (.str name t)) (fun r s' => match r with | some v => Q v s' | none => Q dflt s') E s) :
    wpAny (model prog w) A (call (.builtin "getattr") [.ref x, .str name t, dflt]) Q E s := by
  obtain ⟨hh, g, d, tk, os⟩ := s
  have L0 := I.type (M := model prog w)
  have L1 := looks_subIn (M := model prog w) X hm
  refine Calls.call_function_entry KB.kind_getattr KB.plain_getattr KB.entry_getattr (GA.args_getattr_3 _ _ _) ?_
  unfold Builtin.«getattr»
  refine wpAny_bind (wpAny_of_eq (a := [.ref x, .str name t, dflt]) (by first | rfl | kernel_rfl) ?_)
  dsimp only
  refine wpAny_bind (wpAny_of_eq (a := ()) (by first | rfl | kernel_rfl) ?_)
  refine wpAny_bind (wpAny_of_eq (a := none) (by
    show (if (name != ("get_source" : Str)) = true then pure none else _) = (pure none : Sem (Option Value))
    rw [if_pos (by rw [bne, hn]; rfl)]) ?_)
  dsimp only
  refine wpAny_bind ?_
  show wpAny _ _ (isInstance (.ref x) (.type "module") >>= _) _ _ _
  refine wpAny_bind ?_
  simp only [isInstance]
  refine wpAny_bind (L0.at (L1.at ?_))
  refine wpAny_pure ?_
  simp only [Nat.reduceBEq, Bool.false_eq_true, if_false]
  refine wpAny_bind (wpAny_mono h (fun r s' hr => ?_) fun _ _ e => e)
  cases r with
  | some v => exact wpAny_pure ⟨_, rfl, hr⟩
  | none => exact wpAny_pure ⟨_, rfl, hr⟩

theorem ga3_own {v : Value} {attr : Option Value} (F : Fr h₀ L s.heap m) (X₀ : K.In h₀) (I : InstAt s.heap x ox C (some (dictOf es n))) (hg : plainGet K C name = true) (hh : hasDictIn K C = true)
    (ha : findIn K (.ref C) name = some attr) (hna : noGet K attr = true) (hl : getL name es = some (some v)) (hv : handedIn v = true)
    (hn : (name == ("get_source" : Str)) = false) (hm : subIn K (.ref C) (.type "module") = some false) (h : Q v s) :
    wpAny (model prog w) A (call (.builtin "getattr") [.ref x, .str name t, dflt]) Q E s := by
  refine ga3_open (X₀.keeps F.keep) I hn hm ?_
  unfold getAttrBy?
  refine wpAny_bind (wpAny_attempt (by_open (X₀.keeps F.keep) I (plainGet_of hg).1 ?_))
  have hf := findObj_own (od := dictOf es n) hh ha hna (by show lookIn name (dictOf es n) = _; rw [lookIn_dict, hl])
  obtain ⟨hh', g, d, tk, os⟩ := s
  have L0 := I.type (M := model prog w)
  have L1 := looks_find (M := model prog w) (X₀.keeps F.keep) I hf
  refine wpAny_bind (wpAny_pure (wpAny_bind (L0.at (wpAny_bind (L1.at ?_)))))
  refine wpAny_pure ?_
  show wpAny _ _ (handedOut v) _ _ _
  rw [handedOut_of hv]
  exact wpAny_pure (wpAny_pure h)

theorem findObj_missing (hh : hasDictIn K C = true) (ha : findIn K (.ref C) name = some none) (hc : copiedNames.contains name = false) (hl : lookIn name od = some none) :
    findObj K C (some od) name = some .missing := by
  obtain ⟨cd, hc', hd⟩ := any_some hh
  unfold findObj
  have ho : W.ownOf cd (some od) name = some none := by unfold W.ownOf; rw [if_pos hd]; exact hl
  rw [hc', Option.bind_some, ha, Option.bind_some]
  simp only [Option.bind_some, ho, hc, Bool.false_and, Bool.false_eq_true, if_false]

def MsgOk (K : Frag) (C : Addr) (name : Str) : Prop := ∃ cd : ClassData, clsIn K C = some cd ∧ cd.name.cps.foldl (fun k c => k + (Str.utf8Of c).length) 0 ≤ 100 ∧ (((s!"'{cd.name.toString}' object has no attribute '" : String) : Str) ++ name ++ (("'" : String) : Str)).length ≤ sizeLine
theorem MsgOk.of {cd : ClassData} (h1 : clsIn K C = some cd) (h2 : cd.name.cps.foldl (fun k c => k + (Str.utf8Of c).length) 0 ≤ 100) (h3 : (((s!"'{cd.name.toString}' object has no attribute '" : String) : Str) ++ name ++ (("'" : String) : Str)).length ≤ sizeLine) : MsgOk K C name := ⟨cd, h1, h2, h3⟩
theorem ga3_miss (F : Fr h₀ L s.heap m) (X₀ : K.In h₀) (N : News h₀ L s.heap news) (I : InstAt s.heap x ox C (some (dictOf es n))) (hg : plainGet K C name = true) (hh : hasDictIn K C = true)
    (ha : findIn K (.ref C) name = some none) (hc : copiedNames.contains name = false) (hl : getL name es = some none)
    (hn : (name == ("get_source" : Str)) = false) (hm : subIn K (.ref C) (.type "module") = some false) (hA : A.handled = none)
    (hmsg : MsgOk K C name)
    (h : ∀ h' tk, Fr h₀ L h' m → News h₀ L h' news → Q dflt { s with heap := h', toks := tk }) :
    wpAny (model prog w) A (call (.builtin "getattr") [.ref x, .str name t, dflt]) Q E s := by
  obtain ⟨cd, hcd, h100, hsz⟩ := hmsg
  have X := X₀.keeps F.keep
  refine ga3_open X I hn hm ?_
  unfold getAttrBy?
  refine wpAny_bind (wpAny_attempt (by_open X I (plainGet_of hg).1 ?_))
  have hf := findObj_missing (od := dictOf es n) hh ha hc (by show lookIn name (dictOf es n) = _; rw [lookIn_dict, hl])
  obtain ⟨hh', g, d, tk, os⟩ := s
  have L0 := I.type (M := model prog w)
  have L1 := looks_find (M := model prog w) X I hf
  have L2 := looks_findIn (M := model prog w) X (plainGet_of hg).2
  have L3 : Looks (model prog w) hh' (typeNameCut 100 (.ref C)) cd.name.toString := (looks_clsIn X hcd).andThen (by
    show Looks _ _ (if cd.name.cps.foldl (fun k c => k + (Str.utf8Of c).length) 0 ≤ 100 then pure cd.name.toString else _) _
    rw [if_pos h100]; exact Looks.now)
  refine wpAny_bind (wpAny_pure (wpAny_bind (L0.at (wpAny_bind (L1.at (wpAny_bind (L2.at ?_)))))))
  show wpAny _ _ (noSuchAttribute _ _) _ _ _
  unfold noSuchAttribute
  refine wpAny_bind ?_
  unfold typeNameOfCut
  refine wpAny_bind ?_
  unfold shownTypeOf
  refine wpAny_bind (L0.at ?_)
  rw [show (Value.ref C == Value.type "builtin_function_or_method") = false from rfl]
  simp only [Bool.false_eq_true, if_false]
  refine wpAny_pure (L3.at ?_)
  refine wpAny_raiseAttrError hA (fun h' tk' e hx => ?_) hsz
  refine wpAny_pure ?_
  obtain ⟨tt, u, he⟩ := hx.there
  dsimp only
  refine wpAny_bind (wpAny_isInstance (T := "AttributeError") (b := true) ⟨_, he, rfl⟩ sub_AttributeError ?_)
  refine wpAny_pure (h h' tk' ⟨?_, fun b o e => hx.keeps b o (F.keep b o e), F.above⟩ fun p hp => ⟨hx.keeps _ _ (N p hp).1, (N p hp).2⟩)
  obtain ⟨oL, es', ep, hL, r⟩ := F.ns
  exact ⟨oL, es', ep, hx.keeps _ _ hL, r⟩
end
end Mine
namespace Mine
section
open PySem.Calls
variable {prog : Program} {w : World} {K : Type} [DecidableEq K] {knd : KeyKind prog w K} {A : Around} {E : Value → Shared → Prop} {s : Shared} {h₀ : Heap} {L d : Addr} {m : Str → Option Value} {news : List (Addr × Obj)} {o : Obj} {kvs : List (K × Value)} {k : K} {key v : Value} {Q : Value → Shared → Prop}

theorem dictAt (N : News h₀ L s.heap news) (hm : (d, o) ∈ news) (hd : o.IsDictOf knd kvs) : s.heap.DictOf knd d kvs := Heap.dictOf_iff.mpr ⟨o, (N _ hm).1, hd⟩

theorem d_len (N : News h₀ L s.heap news) (hm : (d, o) ∈ news) (hd : o.IsDictOf knd kvs) (lo : (d == sysModules) = false) {n : Nat} (hn : kvs.length = n) (hfit : n < 2 ^ 32)
    (h : ∀ tk, Q (.int n tk) { s with toks := s.toks + 1 + 1 }) : wpAny (model prog w) A (call (.builtin "len") [.ref d]) Q E s := by
  subst hn
  exact call_len_dict lo (dictAt N hm hd) (by omega) (h _)

theorem d_get (N : News h₀ L s.heap news) (hm : (d, o) ∈ news) (hd : o.IsDictOf knd kvs) (lo : (d == sysModules) = false) (hkey : knd.is k key = true)
    (h : Q ((valueAt kvs k).getD .none) { s with toks := s.toks + 1 }) : wpAny (model prog w) A (call (.builtin "dict.get") [.ref d, key]) Q E s :=
  call_meetsIn PySem.F.slot_dict_get (dictAt N hm hd).typeIs PySem.F.entry_dict_get (PySem.F.args_dict_get_2 _ _) (meets_dict_get knd d hkey lo) ⟨_, (dictAt N hm hd).mapOf, h⟩

theorem d_get3 {dflt : Value} (N : News h₀ L s.heap news) (hm : (d, o) ∈ news) (hd : o.IsDictOf knd kvs) (lo : (d == sysModules) = false) (hkey : knd.is k key = true)
    (h : Q ((valueAt kvs k).getD dflt) { s with toks := s.toks + 1 }) : wpAny (model prog w) A (call (.builtin "dict.get") [.ref d, key, dflt]) Q E s :=
  call_meetsIn PySem.F.slot_dict_get (dictAt N hm hd).typeIs PySem.F.entry_dict_get (PySem.F.args_dict_get_3 _ _ _) (meets_dict_get_default knd d hkey lo dflt) ⟨_, (dictAt N hm hd).mapOf, h⟩
theorem d_meth {name : Str} {id : String} {pl : Sem Bool} {Q : Value × List Value → Shared → Prop} (N : News h₀ L s.heap news) (hm : (d, o) ∈ news) (hd : o.IsDictOf knd kvs) (slot : Slot "dict" name id) (hty : typeOf (.builtin id) = pure (.type "method_descriptor"))
    (h : Q (.builtin id, [.ref d]) s) : wpAny (model prog w) A (getMethod (.ref d) name pl) Q E s :=
  getMethod_builtin (dictAt N hm hd).typeIs PySem.F.plainAttrs_dict slot hty (dictAt N hm hd).mapOf.noDict h

theorem d_in (N : News h₀ L s.heap news) (hm : (d, o) ∈ news) (hd : o.IsDictOf knd kvs) (lo : (d == sysModules) = false) (hkey : knd.is k key = true)
    (h : Q (.bool (valueAt kvs k).isSome) { s with toks := s.toks + 1 }) : wpAny (model prog w) A (compareOp .In key (.ref d)) Q E s :=
  wpAny_in_of hkey lo (dictAt N hm hd).mapOf h

theorem d_item {value slice : Expr} (N : News h₀ L s.heap news) (hm : (d, o) ∈ news) (hd : o.IsDictOf knd kvs) (hkey : knd.is k key = true) (hv : valueAt kvs k = some v)
    (h : Q v { s with toks := s.toks + 1 })
    (hs : subscripted slice false (.ref d) key = operate [.ref d, key] (getItem (.ref d) key) := by with_unfolding_all rfl) (hg : ∀ r, letTemporaryGo value (.ref d) r = pure () := by intro _; with_unfolding_all rfl) :
    wpAny (model prog w) A (subscriptTail value slice (.ref d) key) Q E s :=
  subscriptTail_builtin (dictAt N hm hd).typeIs slot_dict_getitem.lookup (wpAny_getItem_of hkey (dictAt N hm hd).mapOf hv h) hs hg

theorem d_set {g : Obj → List (Addr × Obj)} {Q : Unit → Shared → Prop} (F : Fr h₀ L s.heap m) (N : News h₀ L s.heap news) (U : UpdF d o news g) (hd : o.IsDictOf knd kvs) (hkey : knd.is k key = true) (hsz : kvs.length ≤ sizeLine)
    (h : ∀ h' o', Fr h₀ L h' m → News h₀ L h' (g o') → o'.IsDictOf knd (stored kvs k v) → Q () { s with heap := h', toks := s.toks + 1 }) : wpAny (model prog w) A (setItem (.ref d) key v) Q E s := by
  obtain ⟨pre, post, rfl, hg, a, b⟩ := U.split
  have hm := N (d, o) (List.mem_append_right _ (.head _))
  refine wpAny_setItem_pairs (hsz := hsz) hkey (Heap.dictOf_iff.mpr ⟨o, hm.1, hd⟩) fun h' hmm hs => ?_
  obtain ⟨o', ho', hd'⟩ := Heap.dictOf_iff.mp hmm
  refine h h' o' (F.change hs hm.2.1 hm.2.2) ?_ hd'
  rw [hg]
  exact N.setIn a b hs ho'
end
end Mine
namespace Mine
theorem rs_GE : True := by w_top off; trivial
local macro_rules | `(tactic| k_all) => `(tactic| assumption)
local macro_rules | `(tactic| k_ne) => `(tactic| first | assumption | exact Ne.symm (by assumption) | exact Nat.ne_of_lt (by assumption) | exact Nat.ne_of_gt (by assumption))
local macro_rules | `(tactic| k_room) => `(tactic| ktr_room)
local macro_rules | `(tactic| walk_at "call builtin:getattr") => `(tactic| (k_here; (with_reducible show wpAny _ _ (call (Value.builtin _) [_, Value.str _ _, _]) _ _ _); k_dflt (first
  | (refine' ga3_own ?k1 ?k2 ?k3 ?k4 ?k5 ?k6 ?k7 ?k8 ?k9 ?k10 ?k11 ?_; (case k1 => k_asm); (case k2 => k_asm); (case k3 => k_inst); (case k4 => k_is); (case k5 => k_is); (case k6 => k_is); (case k7 => k_is); (case k8 => k_get); (case k9 => k_handed); (case k10 => decide +kernel); (case k11 => k_is); k_whole)
  | (refine' ga3_miss ?k1 ?k2 ?k3 ?k4 ?k5 ?k6 ?k7 ?k8 ?k9 ?k10 ?k11 ?k12 ?k13 ?_; (case k1 => k_asm); (case k2 => k_asm); (case k3 => k_asm); (case k4 => k_inst); (case k5 => k_is); (case k6 => k_is); (case k7 => k_is); (case k8 => decide +kernel); (case k9 => k_get); (case k10 => decide +kernel); (case k11 => k_is); (case k12 => exact rfl); (case k13 => (first | (refine' MsgOk.of ?q1 ?q2 ?q3; (case q1 => k_is); (case q2 => decide +kernel); (case q3 => decide +kernel)) | (rename IsEx _ => h5; rcases h5 with e5 | e5 | e5 | e5 | e5 <;> subst e5 <;> (refine' MsgOk.of ?q1 ?q2 ?q3; (case q1 => k_is); (case q2 => decide +kernel); (case q3 => decide +kernel))))); k_whole; intro h' tk' F' N'; (try k_sweep)))))
local macro_rules | `(tactic| k_upd) => `(tactic| first | (refine' Off.head ?a; (case a => k_all)) | (refine' Off.tail ?a ?b; (case a => k_ne); (case b => k_upd)))
local macro_rules | `(tactic| walk_at "pyIter ref") => `(tactic| (k_here; (with_reducible show wpAny _ _ (pyIter (Value.ref _)) (fun it s₂ => codeAny _ _ (Code.forLoop _ it _ _ _) _ s₂) _ _); k_dflt (refine' tup_iter ?k1 ?k2 ?k3 ?_; (case k1 => k_asm); (case k2 => k_asm); (case k3 => exact News.isTup (by k_asm) (by k_mem)); k_whole); intro I' h' o' F' N' x' l1 l2; (try k_lt l1); (try k_lt2 l2); (try k_sweep)))
local macro_rules | `(tactic| walk_at "codeAny forLoop") => `(tactic| (k_here; (with_reducible show codeAny _ _ (Code.forLoop _ (Value.ref _) _ _ _) (okR _) _); k_dflt (first
  | (refine' tup_last ?k1 ?k2 ?k3 ?k4 ?k5 ?k6 ?k7 ?_; (case k1 => k_asm); (case k4 => assumption); (case k2 => k_asm); (case k3 => k_upd); (case k5 => exact News.isTup (by k_asm) (by k_mem)); (case k6 => exact rfl); (case k7 => exact rfl); k_whole; intro h' F' N'; (try k_sweep))
  | (refine' tup_turn ?k1 ?k2 ?k3 ?k4 ?k5 ?k6 ?k7 ?_; (case k1 => k_asm); (case k4 => assumption); (case k2 => k_asm); (case k3 => k_updF); (case k5 => exact News.isTup (by k_asm) (by k_mem)); (case k6 => first | exact get2_0 | exact get2_1 | exact rfl); (case k7 => k_ne); k_whole; intro h' o' F' N' x' T'; (try k_sweep)))))
local macro_rules | `(tactic| walk_at "call builtin:len") => `(tactic| (k_here; (with_reducible show wpAny _ _ (call (Value.builtin _) [Value.ref _]) _ _ _); k_dflt (refine' d_len (knd := intKind _ _) ?k1 ?k2 ?k3 ?k4 ?k5 ?k6 ?_; (case k1 => k_asm); (case k2 => k_mem); (case k3 => assumption); (case k4 => assumption); (case k5 => first | exact rowsK_length _ | rfl); (case k6 => (first | omega | (simp only [List.length_append, List.length_cons, List.length_nil]; omega))); k_whole; intro tk')))
local macro_rules | `(tactic| walk_at "getMethod ref") => `(tactic| (k_here; (with_reducible show wpAny _ _ (getMethod (Value.ref _) (Str.ofString "get") _) _ _ _); k_dflt (refine' d_meth (knd := intKind _ _) ?k1 ?k2 ?k3 PySem.F.slot_dict_get PySem.F.type_dict_get ?_; (case k1 => k_asm); (case k2 => k_mem); (case k3 => assumption); k_whole)))
local macro_rules | `(tactic| walk_at "call builtin:dict.get") => `(tactic| (k_here; (with_reducible show wpAny _ _ (call (Value.builtin _) [Value.ref _, Value.int _ _]) _ _ _); k_dflt (refine' d_get (knd := intKind _ _) ?k1 ?k2 ?k3 ?k4 (intKind_is _ _ _ _) ?_; (case k1 => k_asm); (case k2 => k_mem); (case k3 => assumption); (case k4 => assumption); k_whole)))
local macro_rules | `(tactic| walk_at "compareOp In int ref") => `(tactic| (k_here; k_dflt (refine' d_in (knd := intKind _ _) ?k1 ?k2 ?k3 ?k4 (intKind_is _ _ _ _) ?_; (case k1 => k_asm); (case k2 => k_mem); (case k3 => assumption); (case k4 => assumption); k_whole)))
local macro_rules | `(tactic| walk_at "subscriptTail") => `(tactic| (k_here; (with_reducible show wpAny _ _ (subscriptTail _ _ (Value.ref _) (Value.int _ _)) _ _ _); k_dflt (refine' d_item (knd := intKind _ _) ?k1 ?k2 ?k3 (intKind_is _ _ _ _) ?k5 ?_; (case k1 => k_asm); (case k2 => k_mem); (case k3 => assumption); (case k5 => assumption); k_whole)))
local macro_rules | `(tactic| walk_at "setItem ref int") => `(tactic| (k_here; k_dflt (refine' d_set (knd := intKind _ _) ?k1 ?k2 ?k3 ?k4 (intKind_is _ _ _ _) ?k6 ?_; (case k1 => k_asm); (case k2 => k_asm); (case k3 => k_updF); (case k4 => assumption); (case k6 => (rw [sizeLine_eq]; (first | omega | (simp only [rowsK_length, rowK_length, List.length_map, List.length_append, List.length_cons, List.length_nil]; omega)))); k_whole); intro h' o' F' N' hd'; (try dsimp only at N'); (try simp only [rowsK_length, stored_rows] at hd'); (try k_sweep)))
local macro_rules | `(tactic| k_all) => `(tactic| first | assumption | (refine List.forall_mem_append.mpr ⟨?_, ?_⟩ <;> k_all) | (exact tbn_neAll (by first | assumption | tbn_find)) | (exact tbn_neAll (tbn_up (by assumption) (by tbn_find))))
local macro_rules | `(tactic| k_mem) => `(tactic| ((with_reducible show List.Mem _ _); first | (show (_ : Addr × Obj) ∈ (_ : List (Addr × Obj)); ktr_member) | ((with_reducible show List.Mem _ (_ ++ _)); first | (refine' List.mem_append_left _ ?q; (case q => k_mem)) | (refine' List.mem_append_right _ ?q; (case q => k_mem)))))
local macro_rules | `(tactic| k_put) => `(tactic| first | exact putL_nil _ _ _ _ _ | exact putL_one _ _ _ _ _ _ _ _)
local macro_rules | `(tactic| walk_at "eval Name") => `(tactic| (k_here; k_dflt (refine' nameX_L ?F ?v ?_ ?a ?b; (case F => k_asm); (case a => rfl); (case b => rfl); (case v => assumption); k_whole)))
local macro_rules | `(tactic| k_put) => `(tactic| first | exact putL_nil _ _ _ _ _ | exact putL_one _ _ _ _ _ _ _ _ | exact putL_err_pos | exact putL_err_expr)
local macro_rules | `(tactic| walk_at "getAttr ref") => `(tactic| (k_here; k_dflt (refine' exc_getD ?k1 ?k2 ?k3 ?k4 ?k5 ?k6 ?k7 ?k8 ?k9 ?k10 ?k11 ?_; (case k1 => k_asm); (case k2 => k_asm); (case k3 => (refine' InstAt.of_newsF ?N ?h1 ?h2; (case N => k_asm); (case h1 => k_mem); (case h2 => k_mem))); (case k4 => k_is); (case k5 => k_is); (case k6 => k_is); (case k7 => k_is); (case k8 => k_is); (case k9 => k_is); (case k10 => k_get); (case k11 => k_handed); k_whole)))
local macro_rules | `(tactic| walk_at "setAttr ref") => `(tactic| (k_here; k_dflt (refine' exc_set ?k1 ?k2 ?k3 ?k4 ?k5 ?k6 ?k7 ?k8 ?k9 ?k10 ?k11 ?k12 ?k13 ?_; (case k1 => k_asm); (case k2 => k_asm); (case k3 => k_asm); (case k4 => (refine' InstAt.of_newsF ?N ?h1 ?h2; (case N => k_asm); (case h1 => k_mem); (case h2 => k_mem))); (case k5 => exact rfl); (case k6 => k_is); (case k7 => kernel_rfl); (case k8 => k_is); (case k9 => k_is); (case k10 => k_get); (case k11 => k_put); (case k12 => k_upd); (case k13 => exact Nat.le_of_ble_eq_true rfl); k_whole; intro h' F' N'; (try k_sweep))))
local macro_rules | `(tactic| k_slotget) => `(tactic| first | assumption | rfl)
local macro_rules | `(tactic| walk_at "getAttr ref") => `(tactic| (k_here; k_dflt (refine' get_slotW ?k1 ?k2 ?k3 ?k4 ?k5 ?k6 ?k7 ?k8 ?k9 ?k10 ?k11 ?_; (case k1 => k_asm); (case k2 => k_asm); (case k3 => k_asm); (case k4 => k_mem); (case k5 => k_is); (case k6 => k_is); (case k7 => k_is); (case k8 => k_is); (case k9 => k_is); (case k10 => k_slotget); (case k11 => k_handed); k_whole)))
local macro_rules | `(tactic| walk_at "call builtin:len") => `(tactic| (k_here; (with_reducible show wpAny _ _ (call (Value.builtin _) [Value.str _ _]) _ _ _); k_dflt (refine' SC.len_str ?k1 ?_; (case k1 => assumption); k_whole)))
local macro_rules | `(tactic| walk_at "getMethod ref") => `(tactic| (k_here; (with_reducible show wpAny _ _ (getMethod (Value.ref _) (Str.ofString "match_core") _) _ _ _); k_dflt (refine' meth_core ?k1 ?k2 ?k3 ?k4 ?k5 ?_; (case k1 => k_asm); (case k2 => k_asm); (case k4 => k_inst); (case k3 => assumption); (case k5 => assumption); k_whole)))
local macro_rules | `(tactic| walk_at "call ref") => `(tactic| (k_here; (with_reducible show wpAny _ _ (call (Value.ref 266) _) _ _ _); refine Held.out ?_))
local macro_rules | `(tactic| walk_at "exec For Name Attribute cons nil") => `(tactic| (k_here; refine for_F ?_))
local macro_rules | `(tactic| walk_at "truthy ref") => `(tactic| (k_here; k_dflt (refine' truthyL ?k1 ?k2 ?k3 ?k4 ?_; (case k1 => k_asm); (case k2 => k_mem); (case k3 => first | assumption | (simp only [List.size_toArray, List.length_cons, List.length_nil]; decide) | (simp only [Array.size_push, List.size_toArray, List.length_cons, List.length_nil]; omega)); (case k4 => first | assumption | exact ne1 | exact ne0 | exact neP); k_whole); intro tk'))
/-! instances of an exception class of one's own: their attributes -/
section
open PySem.Calls Builtin Builtin.ObjectAttr Builtin.Getset_descriptor
variable {prog : Program} {w : World} {A : Around} {E : Value → Shared → Prop} {s : Shared} {K : Frag} {x C L dx : Addr} {ox : Obj} {name : Str} {h₀ : Heap} {m : Str → Option Value} {news news' : List (Addr × Obj)} {es es' : List DictEntry} {n n' : Nat} {t : Tok} {od : Option Obj} {v : Value}

theorem InstAt.of_newsF {h : Heap} {od : Obj} {sl : Array (Option Value)} {fs : Array Value} (N : News h₀ L h news) (h1 : (x, (⟨.ref C, some dx, .fields fs, sl⟩ : Obj)) ∈ news) (h2 : (dx, od) ∈ news) :
    InstAt h x ⟨.ref C, some dx, .fields fs, sl⟩ C (some od) := ⟨(N _ h1).1, rfl, rfl, (N _ h2).1⟩
theorem InstAt.of_newsF0 {h : Heap} {sl : Array (Option Value)} {fs : Array Value} (N : News h₀ L h news) (h1 : (x, (⟨.ref C, none, .fields fs, sl⟩ : Obj)) ∈ news) :
    InstAt h x ⟨.ref C, none, .fields fs, sl⟩ C none := ⟨(N _ h1).1, rfl, rfl, trivial⟩

theorem exc_get {expr : Bool} {Q : Value → Shared → Prop} (X : K.In s.heap) (I : InstAt s.heap x ox C od) (hga : findIn K (.ref C) "__getattribute__" = some (some (.builtin "BaseException.__getattribute__")))
    (hk : findIn K (.ref C) "__getattr__" = some none) (hi : subIn K (.ref C) (.type "BaseException") = some true) (hf : findObj K C od name = some (.value v)) (hv : handedIn v = true) (h : Q v { s with toks := s.toks + 1 }) :
    wpAny (model prog w) A (getAttr (.ref x) name expr) Q E s := by
  have ht := I.type (M := model prog w)
  have ga := PySem.F.attr_Exception.ga
  refine wpAny_bind (wpAny_mkText (wpAny_holding (wpAny_bind (ht _ _ _ _ (fun _ _ e => e) (wpAny_bind (looks_findIn X hga _ _ _ _ (fun _ _ e => e) ?_))))))
  dsimp only
  rw [show (onTheHeap (.ref C) && Value.builtin "BaseException.__getattribute__" == Value.builtin "object.__getattribute__") = false from by rw [show (Value.builtin "BaseException.__getattribute__" == Value.builtin "object.__getattribute__") = false from by decide +kernel, Bool.and_false], if_neg (by decide)]
  refine wpAny_bind (looks_hook (M := model prog w) X (mc := .ref C) (r := none) (by exact hk) _ _ _ _ (fun _ _ e => e) (wpAny_bind (wpAny_attempt (wpAny_holding ?_))))
  unfold callGetattribute
  rw [show (expr && onTheHeap (Value.builtin "BaseException.__getattribute__")) = false from Bool.and_false _, if_neg (by decide)]
  unfold boundAndCalled
  rw [ga.bind]
  refine wpAny_bind (wpAny_pure ?_)
  show wpAny _ _ (call (.builtin "BaseException.__getattribute__") [.ref x, .str name s.toks]) _ _ _
  refine wpAny_call ?_
  refine codeAny_call_builtin ga.plain PySem.F.entry_bexc_ga ?_
  refine @check_slot (model prog w) _ _ { s with toks := s.toks + 1 } "BaseException.__getattribute__" "BaseException" "__getattribute__" (.ref x) [.str name s.toks] [] _ (by decide +kernel) (by decide +kernel) (ht.andThen (looks_subIn X hi)) (PySem.F.args_bexc_ga (.ref x) (.str name s.toks)) ?_
  unfold Builtin.«object.__getattribute__»
  refine wpAny_bind (wpAny_pure (wpAny_bind (wpAny_pure (wpAny_bind (ht _ _ _ _ (fun _ _ e => e) (wpAny_bind (looks_find (M := model prog w) X I hf _ _ _ _ (fun _ _ e => e) ?_)))))))
  refine wpAny_pure ?_
  dsimp only
  rw [handedOut_of hv]
  exact wpAny_pure h

def onlyExc : List Value → Bool
  | .ref _ :: r => onlyExc r
  | l => l == [.type "Exception", .type "BaseException", .type "object"]
theorem refuse_exc (self : Value) : ∀ {l : List Value}, onlyExc l = true → refuseLoop self "__setattr__" l = pure ()
  | .ref c :: r, e => by rw [refuseLoop_ref]; exact refuse_exc self e
  | [], e => by cases e
  | .type n :: r, e => by rw [show Value.type n :: r = [.type "Exception", .type "BaseException", .type "object"] from beq_iff_eq.mp e]; exact PySem.F.store_Exception.passes self
theorem exc_has : ∀ {l : List Value}, onlyExc l = true → l.contains (.type "object") = true
  | .ref c :: r, e => by rw [List.contains_cons, exc_has (l := r) e, Bool.or_true]
  | [], e => by cases e
  | .type n :: r, e => by rw [show Value.type n :: r = [.type "Exception", .type "BaseException", .type "object"] from beq_iff_eq.mp e]; decide +kernel
def excOver (K : Frag) (C : Addr) : Bool := (clsIn K C).any fun cd => onlyExc cd.mro

theorem exc_open {tk : Tok} {r : Option Value} {R : Result → Shared → Prop} (X : K.In s.heap) (I : InstAt s.heap x ox C od) (hp : excOver K C = true) (ht : takerIn K C name = some r)
    (h : ∀ b, wpAny (model prog w) A.in1 (match r with | some a => setByDescriptor a (.ref x) v | none => storeInOwnDict (.ref x) (.ref C) (.str name tk) name v b)
      (fun fin s' => match fin with | .done f => R (.ok f) s' | .again c' => c'.quiet = true ∧ codeAny (model prog w) A c' R s') (fun e s' => R (.error e) s') s) :
    codeAny (model prog w) A (.call (.builtin "object.__setattr__") ⟨[.ref x, .str name tk, v], []⟩) R s := by
  have SF := PySem.F.store_object
  obtain ⟨cd, hc, ho⟩ := any_some hp
  have ne : cd.mro.isEmpty = false := by cases q : cd.mro with | nil => rw [q] at ho; cases ho | cons _ _ => rfl
  have sub : Looks (model prog w) s.heap (isInstance (.ref x) (.type "object")) true := I.type.andThen (looks_mroIn X (by unfold mroIn; rw [hc, Option.bind_some, if_neg (by rw [ne]; decide), exc_has ho]))
  refine codeAny_call_builtin SF.slot.plain SF.entry (@check_slot (model prog w) _ _ s "object.__setattr__" "object" "__setattr__" (.ref x) [.str name tk, v] [] _ SF.kind SF.split sub (SF.args (.ref x) (.str name tk) v) ?_)
  obtain ⟨attr, ha, hr⟩ := Option.bind_eq_some_iff.mp ht
  have hm : Looks (model prog w) s.heap (mroOf (.ref C)) cd.mro := (looks_clsIn X hc).andThen .now
  have L3 : Looks (model prog w) s.heap (storeTaker? attr) r := by
    cases attr with
    | none => cases hr; exact .now
    | some a =>
      obtain ⟨b, hb, rfl⟩ := Option.map_eq_some_iff.mp hr
      refine (looks_takesIn X hb).andThen ?_
      cases b <;> exact .now
  rw [osa_eq, refuse_eq]
  refine wpAny_bind (wpAny_bind (I.type.here (wpAny_bind (hm.here ?_))))
  rw [refuse_exc _ ho]
  refine wpAny_pure (wpAny_bind (I.type.here (wpAny_bind ((looks_findIn X ha).here (wpAny_bind (L3.here ?_))))))
  exact h _

theorem exc_store {od od' : Obj} {tk : Tok} {pre post : List (Addr × Obj)} {Q : Fin → Shared → Prop} (F : Fr h₀ L s.heap m) (N : News h₀ L s.heap (pre ++ (dx, od) :: post))
    (hl : (lookIn name od).isSome = true) (h1 : ∀ p ∈ pre, p.1 ≠ dx) (h2 : ∀ p ∈ post, p.1 ≠ dx)
    (e : Obj.putName name (PyData.keyHash w.params name) (.str name s.toks) v od = od') (e' : od'.data = .dict es.toArray n) (hz : es.length ≤ 1000)
    (h : ∀ h', Fr h₀ L h' m → News h₀ L h' (pre ++ (dx, od') :: post) → Q (.done (.ret .none)) { s with heap := h', toks := s.toks + 1 }) :
    wpAny (model prog w) A (storeInDict dx (.str name tk) name v) Q E s := by
  obtain ⟨U1, U2⟩ := news_upd (f := Obj.putName name (PyData.keyHash w.params name) (.str name s.toks) v) F N h1 h2 e (by obtain ⟨_, _, dd, _⟩ := od'; cases e'; rfl)
  have D := (N (dx, od) (by simp)).1
  have D' := (U2 (dx, od') (by simp)).1
  refine wpAny_bind (wpAny_pure (wpAny_bind ?_))
  unfold nsSet
  refine wpAny_bind (wpAny_bind (wpAny_askSetting (wpAny_pure (wpAny_bind (wpAny_mkText (wpAny_bind (wpAny_loadPart D ?_)))))))
  unfold lookIn at hl
  split at hl
  · rename_i es₀ n₀ q
    rw [q]
    dsimp only
    have c : (!es₀.any (·.key.isStr name) && es₀.any (·.refKey)) = false := by
      rw [← Array.any_toList, ← Array.any_toList]
      split at hl
      · rename_i en he
        rw [List.any_eq_true.mpr ⟨en, List.mem_of_find?_eq_some he, List.find?_some he⟩]; rfl
      · split at hl
        · cases hl
        · rename_i z; rw [Bool.not_eq_true] at z; rw [z, Bool.and_false]
    rw [aRefKeyMayBeTheName_at, c]
    refine wpAny_updatePart D ?_
    refine wpAny_bind (wpAny_lookBehind D' (by rw [e']; exact pastItsLine_dict (by rw [List.size_toArray, sizeLine_eq]; omega)) ?_)
    exact wpAny_pure (h _ U1 U2)
  · cases hl

theorem exc_set {Q : Unit → Shared → Prop} (F : Fr h₀ L s.heap m) (X₀ : K.In h₀) (N : News h₀ L s.heap news) (I : InstAt s.heap x ox C (some (dictOf es n))) (hd : ox.dict = some dx)
    (hs : findIn K (.ref C) "__setattr__" = some (some (.builtin "object.__setattr__"))) (hp : excOver K C = true) (ht : takerIn K C name = some none) (hh : hasDictIn K C = true) (hl : (getL name es).isSome = true)
    (e : (putL name (PyData.keyHash w.params name) (.str name (s.toks + 1)) v es, putN name es n) = (es', n')) (U : Upd dx (dictOf es n) (dictOf es' n') news news') (hz : es'.length ≤ 1000)
    (h : ∀ h', Fr h₀ L h' m → News h₀ L h' news' → Q () { s with heap := h', toks := s.toks + 2 }) :
    wpAny (model prog w) A (setAttr (.ref x) name v) Q E s := by
  obtain ⟨pre, post, rfl, rfl, a, b⟩ := U.split
  obtain ⟨e1, e2⟩ := Prod.mk.inj e
  have X := X₀.keeps F.keep
  refine set_plain X I hs (exc_open (s := { s with toks := s.toks + 1 }) X I hp ht fun bb => ?_)
  obtain ⟨cd, hc, hd'⟩ := any_some hh
  obtain ⟨hx, hcl, hn, -⟩ := I
  obtain ⟨oc, odi, oda, osl⟩ := ox
  dsimp only at hcl hd
  subst hcl hd
  refine wpAny_bind (wpAny_pure (wpAny_bind (wpAny_bind (wpAny_loadPart hx (wpAny_bind (looks_clsIn (M := model prog w) X hc _ _ _ _ (fun _ _ e => e) ?_))))))
  rw [hd']
  refine wpAny_pure (a := some dx) ?_
  exact exc_store (s := { s with toks := s.toks + 1 }) F N hl a b (by rw [putName_dict, e1, e2]) rfl hz fun h' F' N' => h h' F' N'

/-- the first attribute makes the dict -/
theorem exc_set0 {Q : Unit → Shared → Prop} {fs : Array Value} {sl : Array (Option Value)} {g : Obj → List (Addr × Obj)} (F : Fr h₀ L s.heap m) (X₀ : K.In h₀) (N : News h₀ L s.heap news) (U : UpdF x ⟨.ref C, none, .fields fs, sl⟩ news g)
    (hs : findIn K (.ref C) "__setattr__" = some (some (.builtin "object.__setattr__"))) (hp : excOver K C = true) (ht : takerIn K C name = some none) (hh : hasDictIn K C = true)
    (h : ∀ D h', Fr h₀ L h' m → News h₀ L h' ((D, dictOf [⟨PyData.keyHash w.params name, .str name (s.toks + 1), v⟩] 1) :: g ⟨.ref C, some D, .fields fs, sl⟩) → (∀ p ∈ g ⟨.ref C, some D, .fields fs, sl⟩, p.1 < D) → Q () { s with heap := h', toks := s.toks + 2 }) :
    wpAny (model prog w) A (setAttr (.ref x) name v) Q E s := by
  obtain ⟨pre, post, rfl, hg, a, b⟩ := U.split
  have X := X₀.keeps F.keep
  have I := InstAt.of_newsF0 (sl := sl) (fs := fs) N (x := x) (C := C) (by simp)
  refine set_plain X I hs (exc_open (s := { s with toks := s.toks + 1 }) X I hp ht fun bb => ?_)
  obtain ⟨cd, hc, hd'⟩ := any_some hh
  have hx := (N (x, ⟨.ref C, none, .fields fs, sl⟩) (by simp)).1
  refine wpAny_bind (wpAny_pure (wpAny_bind (wpAny_bind (wpAny_loadPart hx (wpAny_bind (looks_clsIn (M := model prog w) X hc _ _ _ _ (fun _ _ e => e) ?_))))))
  rw [hd']
  dsimp only
  rw [if_neg (by simp), if_neg (by simp [typeHasDict])]
  refine wpAny_bind (wpAny_alloc' ?_)
  have F2 := F.push { cls := .type "dict", data := .dict #[] }
  have N2 := N.push F { cls := .type "dict", data := .dict #[] }
  have lt : ∀ p ∈ pre ++ (x, (⟨.ref C, none, .fields fs, sl⟩ : Obj)) :: post, p.1 < s.heap.objs.size := fun p hp => Heap.lt_size (N p hp).1
  obtain ⟨F3, N3⟩ := news_upd (f := fun o => { o with dict := some s.heap.objs.size }) (pre := (s.heap.objs.size, ({ cls := .type "dict", data := .dict #[] } : Obj)) :: pre) (o' := ⟨.ref C, some s.heap.objs.size, .fields fs, sl⟩) F2 N2
    (by intro p hp; rcases List.mem_cons.mp hp with rfl | hp
        · exact Nat.ne_of_gt (lt (x, ⟨.ref C, none, .fields fs, sl⟩) (by simp))
        · exact a p hp) b rfl rfl
  refine wpAny_bind (wpAny_update' (o := ⟨.ref C, none, .fields fs, sl⟩) (Heap.get?_push_of_some _ hx) ?_)
  refine wpAny_pure (a := some s.heap.objs.size) ?_
  have lt' : ∀ p ∈ pre ++ (x, (⟨.ref C, some s.heap.objs.size, .fields fs, sl⟩ : Obj)) :: post, p.1 < s.heap.objs.size := by
    intro p hp
    rcases List.mem_append.mp hp with q | q
    · exact lt p (List.mem_append_left _ q)
    · rcases List.mem_cons.mp q with rfl | q
      · exact lt (x, ⟨.ref C, none, .fields fs, sl⟩) (by simp)
      · exact lt p (List.mem_append_right _ (.tail _ q))
  refine exc_store (s := { s with heap := _, toks := s.toks + 1 }) (pre := []) (post := pre ++ (x, ⟨.ref C, some s.heap.objs.size, .fields fs, sl⟩) :: post) (od := dictOf [] 0) (od' := dictOf [⟨PyData.keyHash w.params name, .str name (s.toks + 1), v⟩] 1) F3 N3 rfl (fun _ h => nomatch h) (fun p hp => Nat.ne_of_lt (lt' p hp)) (by rw [putName_dict]; rfl) rfl (by simp) fun h' F' N' => ?_
  exact h _ h' F' (by rw [hg]; exact N') (by rw [hg]; exact lt')
theorem exc_getD {expr : Bool} {attr : Option Value} {Q : Value → Shared → Prop} (F : Fr h₀ L s.heap m) (X₀ : K.In h₀) (I : InstAt s.heap x ox C (some (dictOf es n))) (hga : findIn K (.ref C) "__getattribute__" = some (some (.builtin "BaseException.__getattribute__")))
    (hk : findIn K (.ref C) "__getattr__" = some none) (hi : subIn K (.ref C) (.type "BaseException") = some true) (hh : hasDictIn K C = true)
    (ha : findIn K (.ref C) name = some attr) (hna : noGet K attr = true) (hl : getL name es = some (some v)) (hv : handedIn v = true) (h : Q v { s with toks := s.toks + 1 }) :
    wpAny (model prog w) A (getAttr (.ref x) name expr) Q E s :=
  exc_get (X₀.keeps F.keep) I hga hk hi (findObj_own (od := dictOf es n) hh ha hna (by show lookIn name (dictOf es n) = _; rw [lookIn_dict, hl])) hv h
theorem putL_err_pos {h1 h2 h3 hsh : Int} {t1 t2 t3 : Tok} {a b c key v : Value} {k : Nat} : (putL (Str.ofString "pos") hsh key v [⟨h1, .str (Str.ofString "text") t1, a⟩, ⟨h2, .str (Str.ofString "pos") t2, b⟩, ⟨h3, .str (Str.ofString "expr") t3, c⟩], putN (Str.ofString "pos") [⟨h1, .str (Str.ofString "text") t1, a⟩, ⟨h2, .str (Str.ofString "pos") t2, b⟩, ⟨h3, .str (Str.ofString "expr") t3, c⟩] k) =
    ([⟨h1, .str (Str.ofString "text") t1, a⟩, ⟨h2, .str (Str.ofString "pos") t2, v⟩, ⟨h3, .str (Str.ofString "expr") t3, c⟩], k) := rfl
theorem putL_err_expr {h1 h2 h3 hsh : Int} {t1 t2 t3 : Tok} {a b c key v : Value} {k : Nat} : (putL (Str.ofString "expr") hsh key v [⟨h1, .str (Str.ofString "text") t1, a⟩, ⟨h2, .str (Str.ofString "pos") t2, b⟩, ⟨h3, .str (Str.ofString "expr") t3, c⟩], putN (Str.ofString "expr") [⟨h1, .str (Str.ofString "text") t1, a⟩, ⟨h2, .str (Str.ofString "pos") t2, b⟩, ⟨h3, .str (Str.ofString "expr") t3, c⟩] k) =
    ([⟨h1, .str (Str.ofString "text") t1, a⟩, ⟨h2, .str (Str.ofString "pos") t2, b⟩, ⟨h3, .str (Str.ofString "expr") t3, v⟩], k) := rfl
/-! a slot is read without a look at the instance's own dict -/
structure InstW (h : Heap) (x : Addr) (ox : Obj) (C : Addr) : Prop where
  at_ : h.get? x = some ox
  cls : ox.cls = .ref C
theorem InstW.type {M : Model} {h : Heap} (I : InstW h x ox C) : Looks M h (typeOf (.ref x)) (.ref C) := I.cls ▸ (Looks.ld I.at_).andThen .now
theorem looks_findW {M : Model} {h : Heap} {a g : Value} (X : K.In h) (ha : findIn K (.ref C) name = some (some a)) (hg : specialIn K a "__get__" = some (some g)) (ht : takesIn K a = some true) : Looks M h (find (.ref x) (.ref C) name) (.bind g a) := by
  have L1 := looks_findIn (M := M) X ha
  have L2 : Looks M h (getOf (some a)) (some g) := looks_specialIn X hg
  have L3 := looks_takesIn (M := M) X ht
  exact L1.andThen (L2.andThen ((show Looks M h (dataDescriptor? (some a) (some g)) (some (g, a)) from L3.andThen .now).andThen (Looks.tag .now)))
theorem slot_getW {p i : Nat} {tp : Value} {R : Result → Shared → Prop} (X : K.In s.heap) (I : InstW s.heap x ox C) (hp : slotIn K p C = some i) (hv : (ox.slots[i]?).join = some v)
    (h : R (.ok (.ret v)) s) : codeAny (model prog w) A (.call (.builtin "member_descriptor.__get__") ⟨[.ref p, .ref x, tp], []⟩) R s := by
  obtain ⟨n, tn, owner, behind, tb, d, sl, cd, ho, hc, hm, hb, rfl⟩ := slot_of X hp
  obtain ⟨hh, g, dr, t, os⟩ := s
  have L0 := I.type (M := model prog w)
  have L1 := looks_mroIn (M := model prog w) X hm
  have L2 : Looks (model prog w) hh (Slots.slotNamesOf (.ref C)) cd.slotNames := (looks_clsIn X hc).andThen .now
  have hx := I.at_
  dsimp only at ho hx L0 L1
  have f0 := looks_field (M := model prog w) ho 0 (v := .str n tn) rfl
  have f1 := looks_field (M := model prog w) ho 1 (v := owner) rfl
  have f2 := looks_field (M := model prog w) ho 2 (v := .builtin "proto.slot") rfl
  have f4 := looks_field (M := model prog w) ho 4 (v := .int behind tb) rfl
  refine codeAny_call_builtin KF.slot_mem.plain KF.entry_mem (KF.slot_mem.check _ _ _ _ _ _ _ _ ⟨_, ho, rfl⟩ (KF.args_mem _ _ _) ?_)
  unfold Builtin.«member_descriptor.__get__» descrGet
  rw [dga_obj]
  refine wpAny_bind (wpAny_pure ?_)
  unfold descrGetter descrCheckInstance descrNameAndClass isInstance
  repeat lk
  refine ⟨Code.quiet_builtin _ (by decide +kernel), codeAny_builtin KF.entry_slot ?_⟩
  unfold Builtin.«proto.slot» Slots.target
  repeat lk
  rw [if_neg hb]
  repeat lk
  rw [hv]
  exact wpAny_pure h
theorem get_slotW {p i : Nat} {d : Option Addr} {sl : Array (Option Value)} {expr : Bool} {Q : Value → Shared → Prop} (F : Fr h₀ L s.heap m) (X₀ : K.In h₀) (N : News h₀ L s.heap news) (hm : (x, (⟨.ref C, d, .plain, sl⟩ : Obj)) ∈ news)
    (hg : plainGet K C name = true) (ha : findIn K (.ref C) name = some (some (.ref p))) (hn : specialIn K (.ref p) "__get__" = some (some (.builtin "member_descriptor.__get__"))) (ht : takesIn K (.ref p) = some true) (hp : slotIn K p C = some i)
    (hv : (sl[i]?).join = some v) (hh : handedIn v = true) (h : Q v { s with toks := s.toks + 1 }) : wpAny (model prog w) A (getAttr (.ref x) name expr) Q E s := by
  have X := X₀.keeps F.keep
  have I : InstW s.heap x ⟨.ref C, d, .plain, sl⟩ C := ⟨(N _ hm).1, rfl⟩
  have hgg := plainGet_of hg
  have L0 := I.type (M := model prog w)
  have L1 := looks_findIn (M := model prog w) X hgg.1
  have L2 := looks_findW (M := model prog w) (x := x) X ha hn ht
  have L3 := looks_findIn (M := model prog w) X hgg.2
  unfold getAttr getAttrBy
  refine wpAny_bind (wpAny_mkText (wpAny_holding (wpAny_bind (L0 _ _ _ _ (fun _ _ e => e) (wpAny_bind (L1 _ _ _ _ (fun _ _ e => e) ?_))))))
  show wpAny _ _ (getAttrEveryday _ _ _) _ _ _
  refine wpAny_bind (wpAny_onRaise (wpAny_runValue (codeAny_builtin PySem.F.plainObj_entry_getattr_hooked ?_)))
  refine wpAny_bind (wpAny_pure (wpAny_bind (L0 _ _ _ _ (fun _ _ e => e) (wpAny_bind (L2 _ _ _ _ (fun _ _ e => e) (wpAny_bind (L3 _ _ _ _ (fun _ _ e => e) ?_)))))))
  show wpAny _ _ (holding [.ref p] (call (.builtin "member_descriptor.__get__") [.ref p, .ref x, .ref C]) >>= ret) _ _ _
  refine wpAny_bind (wpAny_holding (wpAny_call (slot_getW (s := { s with toks := s.toks + 1 }) X I hp hv ?_)))
  exact wpAny_pure (handed_on hh h)
theorem get_propW {p fget : Addr} {rest : List Value} {d : Option Addr} {sl : Array (Option Value)} {expr : Bool} {Q : Value → Shared → Prop} (F : Fr h₀ L s.heap m) (X₀ : K.In h₀) (N : News h₀ L s.heap news) (hm : (x, (⟨.ref C, d, .plain, sl⟩ : Obj)) ∈ news)
    (hg : plainGet K C name = true) (ha : findIn K (.ref C) name = some (some (.ref p))) (hn : specialIn K (.ref p) "__get__" = some (some (.builtin "property.__get__"))) (ht : takesIn K (.ref p) = some true) (hp : recIn K p "property" = some (.ref fget :: rest))
    (h : codeAny (model prog w) A.in1 (.call (.ref fget) ⟨[.ref x], []⟩) (fun r s' => match r with | .ok (.ret v) => handedIn v = true ∧ Q v s' | _ => False) { s with toks := s.toks + 1 }) : wpAny (model prog w) A (getAttr (.ref x) name expr) Q E s := by
  have X := X₀.keeps F.keep
  have I : InstW s.heap x ⟨.ref C, d, .plain, sl⟩ C := ⟨(N _ hm).1, rfl⟩
  have hgg := plainGet_of hg
  have L0 := I.type (M := model prog w)
  have L1 := looks_findIn (M := model prog w) X hgg.1
  have L2 := looks_findW (M := model prog w) (x := x) X ha hn ht
  have L3 := looks_findIn (M := model prog w) X hgg.2
  unfold getAttr getAttrBy
  refine wpAny_bind (wpAny_mkText (wpAny_holding (wpAny_bind (L0 _ _ _ _ (fun _ _ e => e) (wpAny_bind (L1 _ _ _ _ (fun _ _ e => e) ?_))))))
  show wpAny _ _ (getAttrEveryday _ _ _) _ _ _
  refine wpAny_bind (wpAny_onRaise (wpAny_runValue (codeAny_builtin PySem.F.plainObj_entry_getattr_hooked ?_)))
  refine wpAny_bind (wpAny_pure (wpAny_bind (L0 _ _ _ _ (fun _ _ e => e) (wpAny_bind (L2 _ _ _ _ (fun _ _ e => e) (wpAny_bind (L3 _ _ _ _ (fun _ _ e => e) ?_)))))))
  show wpAny _ _ (holding [.ref p] (call (.builtin "property.__get__") [.ref p, .ref x, .ref C]) >>= ret) _ _ _
  refine wpAny_bind (wpAny_holding (wpAny_call (prop_get (s := { s with toks := s.toks + 1 }) X hp (codeAny_mono h fun r s' hr => ?_))))
  cases r with
  | error e => exact hr.elim
  | ok f =>
    cases f with
    | ret v => exact wpAny_pure (handed_on hr.1 hr.2)
    | _ => exact hr.elim
end
end Mine
namespace Mine
section
open PySem.Spec PySem.Calls PyProof.V
variable {prog : Program} {w : World} {A₀ A : Around} {s : Shared} {base h₀ : Heap} {outer : List Env} {L : Addr} {m mg mb : Str → Option Value} {env : Env} {news : List (Addr × Obj)} {K : Frag} {p : Program} {loose : List Str} {mean : ExcName → Option Value}
  {R : Result → Shared → Prop} {name qual : Str} {params : Arguments} {body : List Stmt} {scope : Scope} {cc : Addr} {dV kV doc pm cdv ct oc : Value} {an od : Option Addr} {osl : Array (Option Value)} {f : Addr} {args : Args} {binds : List (Str × Value)}
/-- a frame made for a def that closes over __class__ -/
theorem kp_frameS {E : Value → Shared → Prop} (B : Below A₀ base outer h₀) (F : Fr h₀ L s.heap m) (N : News h₀ L s.heap news) (hlim : h₀.NoLimit) (hA : A.frames = some (env :: outer)) (hf : env.frame = some L) (hke : env.scope.kind = .function)
    (hloc : ∀ y ∈ binds, scope.names.lookup y.1 = some .local)
    (h : ∀ g L' h₁, Fr h₀ L g m → Fr g L' h₁ (fun y => binds.reverse.lookup y) → News g L' h₁ news → Below A base (env :: outer) g → h₀.StaysIn g → (∀ q ∈ news, q.1 < L') →
      PySem.wpAt (model prog w) (A.deeper (ksEnv qual scope L' f cdv cc)) (.func body (ksEnv qual scope L' f cdv cc)) (execs body (ksEnv qual scope L' f cdv cc))
        (fun fl s' => LeaveK h₀ L m g R (match fl with | .ret v => v | _ => .none) s')
        (fun e s' => wpAny (model prog w) (A.deeper (ksEnv qual scope L' f cdv cc)) (leaving (ksEnv qual scope L' f cdv cc) e) (fun _ s'' => R (.error e) s'') (fun e' s'' => R (.error e') s'') s')
        { s with heap := h₁, toks := s.toks + binds.length })
    (hcell : ∀ x ∈ scope.names, x.2 ≠ .cell) (hk : scope.kind = .function) :
    wpAny (model prog w) A.in1 (newFunctionEnv scope mainGlobals [("__class__", cc)] binds (qual ++ ".<locals>.") (some f) cdv none builtinsNs) (fun env' s₂ => s₂.heap.NoLimit ∧ codeAny (model prog w) A (.func body env') R s₂) E s := by
  obtain ⟨FG, BG, st, lv⟩ := groundX (R := R) B F N hA hf hke
  refine wpAny_newFunctionEnv hcell hloc (fun h₁ hns hsb => ⟨(hlim.keeps F.keep).fresh _ hsb, ks_codeAny_funcAt ?_⟩) hk
  have hk₁ : ∀ b o, s.heap.get? b = some o → h₁.get? b = some o := fun b o e => hsb.extBut b o (Nat.ne_of_lt (Heap.lt_size e)) (Heap.get?_push_of_some _ e)
  exact ks_wpAt_mono (h _ s.heap.objs.size h₁ FG ⟨hns, fun b o e => hk₁ b o (of_hideAll _ e), Nat.le_of_eq (hideAll_size _ _)⟩
    (fun p hp => ⟨hk₁ _ _ (N p hp).1, Nat.ne_of_lt (Heap.lt_size (N p hp).1), hideAll_none _ (List.mem_map_of_mem hp)⟩) BG st fun q hq => Heap.lt_size (N q hq).1) (fun fl s' hl => lv _ _ hl) fun _ _ y => y

theorem ks_more {env : Env} {nm : Str} {ex front : List (Str × Value)} {g₁ : Addr → Sem (List (Str × Value))}
    (B : Below A₀ base outer h₀) (F : Fr h₀ L s.heap m) (X₀ : K.In h₀) (N : News h₀ L s.heap news) (T : Top p loose mean mg mb h₀) (hA : A.frames = some (env :: outer)) (hf : env.frame = some L) (hke : env.scope.kind = .function)
    (ho : K.lookup f = some ⟨oc, od, .func (ksFn name qual params body scope dV kV doc pm an cdv ct cc), osl⟩) (hcd : codeIn K cdv qual = true) (hroom : A.depth < recursionLimit)
    (hx : args.kw.filter (fun x => !ownKw params x.1) = ex) (hn : kwDistinct ex = true)
    (hp : peekA K ⟨prog, w.params⟩ (bindArgs (ksFn name qual params body scope dV kV doc pm an cdv ct cc) args) = some (dictOf [] 0, g₁))
    (hk₁ : ∀ D, g₁ D = (forIn ex PUnit.unit (fun x _ => (nsSet D x.1 x.2 >>= fun _ => pure (ForInStep.yield PUnit.unit))) >>= fun _ => pure (front ++ [(nm, Value.ref D)])))
    (hloc : ∀ D, ∀ y ∈ front ++ [(nm, Value.ref D)], scope.names.lookup y.1 = some .local)
    (h : ∀ D o t0 g L' h₁ tk, (∀ p ∈ news, p.1 < D) → (D == sysModules) = false → o = dictOf (kwEs w.params t0 ex) (0 + ex.length) → o.IsDictOf (strKind prog w) ex → Fr h₀ L g m → Fr g L' h₁ (fun y => (front ++ [(nm, Value.ref D)]).reverse.lookup y) → News g L' h₁ ((D, o) :: news) → Below A base (env :: outer) g → K.In g → Top p loose mean mg mb g → (∀ q ∈ (D, o) :: news, q.1 < L') →
      PySem.wpAt (model prog w) (A.deeper (ksEnv qual scope L' f cdv cc)) (.func body (ksEnv qual scope L' f cdv cc)) (execs body (ksEnv qual scope L' f cdv cc))
        (fun fl s' => LeaveK h₀ L m g R (match fl with | .ret v => v | _ => .none) s')
        (fun e s' => wpAny (model prog w) (A.deeper (ksEnv qual scope L' f cdv cc)) (leaving (ksEnv qual scope L' f cdv cc) e) (fun _ s'' => R (.error e) s'') (fun e' s'' => R (.error e') s'') s')
        { s with heap := h₁, toks := tk })
    (hco : scope.isCoroutine = false) (hgen : scope.isGenerator = false) (hk : scope.kind = .function)
    (hcell : ∀ x ∈ scope.names, x.2 ≠ .cell) : codeAny (model prog w) A (.call (.ref f) args) R s := by
  have _ := hx
  have hn' := kwDistinct_nodup hn
  refine codeAny_call_function (fd := ksFn name qual params body scope dV kV doc pm an cdv ct cc) (body := body) hroom ((X₀.keeps F.keep) _ _ ho) rfl hco hgen rfl (codeRec_of (X₀.keeps F.keep) hcd) ?_
  refine wp_of_peekA (o := dictOf [] 0) F N (X₀.keeps F.keep) rfl _ g₁ hp fun h' F' N' l => ?_
  rw [hk₁]
  refine wpAny_bind (kp_fill ex { s with heap := h' } [] 0 F' N' (fun p hp => Nat.ne_of_lt (l p hp)) (fun _ he => nomatch he) (fun _ he => nomatch he) hn' fun h'' F'' N'' => wpAny_pure ?_)
  exact kp_frameS (cc := cc) (s := { s with heap := h'', toks := s.toks + ex.length }) B F'' N'' T.nolimit hA hf hke (hloc _)
    (fun g L' h₁ FG FL NG BG st lw => h _ _ s.toks g L' h₁ _ l (F.notModules (modules_low T.nolimit)) rfl (kp_isDict s.toks (0 + ex.length) hn') FG FL NG BG (X₀.keeps st) (T.keeps st) lw) hcell hk

theorem ks_both {env : Env} {vs : List Value} {nm nr : Str} {ex front : List (Str × Value)} {g₁ : Addr → Sem (List (Str × Value))} {g₂ : Addr → Addr → Sem (List (Str × Value))}
    (B : Below A₀ base outer h₀) (F : Fr h₀ L s.heap m) (X₀ : K.In h₀) (N : News h₀ L s.heap news) (T : Top p loose mean mg mb h₀) (hA : A.frames = some (env :: outer)) (hf : env.frame = some L) (hke : env.scope.kind = .function)
    (ho : K.lookup f = some ⟨oc, od, .func (ksFn name qual params body scope dV kV doc pm an cdv ct cc), osl⟩) (hcd : codeIn K cdv qual = true) (hroom : A.depth < recursionLimit)
    (hv : args.pos.drop (params.posonlyargs.length + params.args.length) = vs) (hx : args.kw.filter (fun x => !ownKw params x.1) = ex) (hn : kwDistinct ex = true)
    (hp : peekA K ⟨prog, w.params⟩ (bindArgs (ksFn name qual params body scope dV kV doc pm an cdv ct cc) args) = some (({ cls := .type "tuple", data := .seq vs.toArray } : Obj), g₁))
    (hp₂ : ∀ D, peekA K ⟨prog, w.params⟩ (g₁ D) = some (dictOf [] 0, g₂ D))
    (hk₂ : ∀ C D, g₂ C D = (forIn ex PUnit.unit (fun x _ => (nsSet D x.1 x.2 >>= fun _ => pure (ForInStep.yield PUnit.unit))) >>= fun _ => pure (front ++ [(nr, Value.ref C)] ++ [(nm, Value.ref D)])))
    (hloc : ∀ C D, ∀ y ∈ front ++ [(nr, Value.ref C)] ++ [(nm, Value.ref D)], scope.names.lookup y.1 = some .local)
    (h : ∀ C D o t0 g L' h₁ tk, (∀ p ∈ news, p.1 < C) → C < D → (D == sysModules) = false → o = dictOf (kwEs w.params t0 ex) (0 + ex.length) → o.IsDictOf (strKind prog w) ex → Fr h₀ L g m → Fr g L' h₁ (fun y => (front ++ [(nr, Value.ref C)] ++ [(nm, Value.ref D)]).reverse.lookup y) →
      News g L' h₁ ((D, o) :: (C, ({ cls := .type "tuple", data := .seq vs.toArray } : Obj)) :: news) → Below A base (env :: outer) g → K.In g → Top p loose mean mg mb g → (∀ q ∈ (D, o) :: (C, ({ cls := .type "tuple", data := .seq vs.toArray } : Obj)) :: news, q.1 < L') →
      PySem.wpAt (model prog w) (A.deeper (ksEnv qual scope L' f cdv cc)) (.func body (ksEnv qual scope L' f cdv cc)) (execs body (ksEnv qual scope L' f cdv cc))
        (fun fl s' => LeaveK h₀ L m g R (match fl with | .ret v => v | _ => .none) s')
        (fun e s' => wpAny (model prog w) (A.deeper (ksEnv qual scope L' f cdv cc)) (leaving (ksEnv qual scope L' f cdv cc) e) (fun _ s'' => R (.error e) s'') (fun e' s'' => R (.error e') s'') s')
        { s with heap := h₁, toks := tk })
    (hco : scope.isCoroutine = false) (hgen : scope.isGenerator = false) (hk : scope.kind = .function)
    (hcell : ∀ x ∈ scope.names, x.2 ≠ .cell) : codeAny (model prog w) A (.call (.ref f) args) R s := by
  have _ := hx
  have _ := hv
  have hn' := kwDistinct_nodup hn
  refine codeAny_call_function (fd := ksFn name qual params body scope dV kV doc pm an cdv ct cc) (body := body) hroom ((X₀.keeps F.keep) _ _ ho) rfl hco hgen rfl (codeRec_of (X₀.keeps F.keep) hcd) ?_
  refine wp_of_peekA (o := ({ cls := .type "tuple", data := .seq vs.toArray } : Obj)) F N (X₀.keeps F.keep) rfl _ g₁ hp fun h' F' N' l => ?_
  refine wp_of_peekA (s := { s with heap := h' }) (o := dictOf [] 0) F' N' (X₀.keeps F'.keep) rfl _ (g₂ s.heap.objs.size) (hp₂ _) fun h'' F'' N'' l' => ?_
  rw [hk₂]
  refine wpAny_bind (kp_fill ex { s with heap := h'' } [] 0 F'' N'' (fun p hp => Nat.ne_of_lt (l' p hp)) (fun _ he => nomatch he) (fun _ he => nomatch he) hn' fun h₃ F₃ N₃ => wpAny_pure ?_)
  exact kp_frameS (cc := cc) (s := { s with heap := h₃, toks := s.toks + ex.length }) B F₃ N₃ T.nolimit hA hf hke (hloc _ _)
    (fun g L' h₁ FG FL NG BG st lw => h _ _ _ s.toks g L' h₁ _ l (l' _ (.head _)) (F'.notModules (modules_low T.nolimit)) rfl (kp_isDict s.toks (0 + ex.length) hn') FG FL NG BG (X₀.keeps st) (T.keeps st) lw) hcell hk
end
end Mine
namespace Mine
section
open PySem.Spec PySem.Calls PyProof.V
variable {prog : Program} {w : World} {A : Around} {E : Value → Shared → Prop} {s : Shared} {h₀ : Heap} {L d a : Addr} {m : Str → Option Value} {news : List (Addr × Obj)} {Q : Unit → Shared → Prop}
theorem merge_one {k : Str} {t : Tok} {v : Value} {n : Nat} (F : Fr h₀ L s.heap m) (N : News h₀ L s.heap ((d, dictOf [] 0) :: news)) (h2 : ∀ p ∈ news, p.1 ≠ d)
    (hm : (a, dictOf [⟨PyData.keyHash w.params k, .str k t, v⟩] n) ∈ news) (lo : (a == sysModules) = false)
    (h : ∀ h', Fr h₀ L h' m → News h₀ L h' ((d, dictOf [⟨PyData.keyHash w.params k, .str k t, v⟩] 1) :: news) → Q () { s with heap := h' }) : wpAny (model prog w) A (mergeMapping d (.ref a) true) Q E s := by
  have hd := (N (d, dictOf [] 0) (.head _)).1
  have ha := (N _ (.tail _ hm)).1
  have hT : s.TypeIs (.ref a) "dict" := ⟨_, ha, rfl⟩
  unfold mergeMapping
  refine wpAny_bind (wpAny_isInstance (b := true) hT PySem.F.sub_dict_dict ?_)
  simp only [if_true]
  refine wpAny_bind (wpAny_specialOf hT PySem.F.slot_dict_iter.lookup (wpAny_bind (wpAny_pure ?_)))
  rw [beq_self_eq_true]
  dsimp only
  rw [if_neg (by rw [lo]; decide)]
  refine wpAny_bind (wpAny_dictEntries hd rfl ?_)
  have he : (#[] : Array DictEntry).isEmpty = true := rfl
  simp only [he, if_true]
  refine wpAny_bind (wpAny_dictEntries ha rfl ?_)
  simp only [← Array.forIn_toList, List.forIn_cons, List.forIn_nil, pure_bind]
  refine wpAny_bind (wpAny_dictEntries ha rfl ?_)
  refine wpAny_bind (wpAny_dictEpoch ha rfl ?_)
  have hr : List.range (#[(⟨PyData.keyHash w.params k, .str k t, v⟩ : DictEntry)] : Array DictEntry).size = [0] := rfl
  have hr' : List.range ([(⟨PyData.keyHash w.params k, .str k t, v⟩ : DictEntry)] : List DictEntry).toArray.size = [0] := rfl
  simp only [hr, hr', List.forIn_cons, List.forIn_nil]
  refine wpAny_bind (wpAny_bind (wpAny_bind (wpAny_dictEntries ha rfl ?_)))
  have hg : (([(⟨PyData.keyHash w.params k, .str k t, v⟩ : DictEntry)] : List DictEntry).toArray)[0]? = some ⟨PyData.keyHash w.params k, .str k t, v⟩ := rfl
  simp only [hg]
  have kd : (strKind prog w).is k (.str k t) = true := strKind_is prog w k t
  refine wpAny_bind (wpAny_holding (wpAny_bind (wpAny_dictFind_of (knd := strKind prog w) kd hd rfl (fun e he => by simp at he) ?_)))
  simp only [List.findIdx?_toArray, List.findIdx?_nil, Option.isSome_none, Bool.false_eq_true, if_false]
  unfold dictPut
  refine wpAny_bind (wpAny_dictFind_of (knd := strKind prog w) kd hd rfl (fun e he => by simp at he) ?_)
  simp only [List.findIdx?_toArray, List.findIdx?_nil]
  have U := news_upd (pre := []) (o' := dictOf [⟨PyData.keyHash w.params k, .str k t, v⟩] 1) (f := Obj.mapDictKeys fun x => x.push ⟨PyData.keyHash w.params k, .str k t, v⟩) F N (fun _ hp => nomatch hp) h2 rfl rfl
  have ha' := (U.2 _ (List.mem_append_right _ (.tail _ hm))).1
  refine wpAny_updateDictKeys hd rfl ?_ (by show 0 ≤ _; exact Nat.zero_le _)
  refine wpAny_bind (wpAny_dictEpoch ha' rfl ?_)
  rw [if_neg (by simp)]
  exact wpAny_pure (wpAny_pure (wpAny_pure (h _ U.1 U.2)))
/-- nothing is merged into what is empty, or holds one entry -/
theorem merge_nil {o : Obj} {es : Array DictEntry} {e0 n : Nat} (N : News h₀ L s.heap news) (hd : (d, o) ∈ news) (hdd : o.data = .dict es e0) (hm : (a, dictOf [] n) ∈ news) (lo : (a == sysModules) = false) (h : Q () s) : wpAny (model prog w) A (mergeMapping d (.ref a) true) Q E s := by
  have hd' := (N _ hd).1
  have ha := (N _ hm).1
  have hT : s.TypeIs (.ref a) "dict" := ⟨_, ha, rfl⟩
  unfold mergeMapping
  refine wpAny_bind (wpAny_isInstance (b := true) hT PySem.F.sub_dict_dict ?_)
  simp only [if_true]
  refine wpAny_bind (wpAny_specialOf hT PySem.F.slot_dict_iter.lookup (wpAny_bind (wpAny_pure ?_)))
  rw [beq_self_eq_true]
  dsimp only
  rw [if_neg (by rw [lo]; decide)]
  refine wpAny_bind (wpAny_dictEntries hd' hdd ?_)
  have tail : wpAny (model prog w) A (do
      let l ← dictEntries a
      let epoch ← dictEpoch a
      forIn (List.range l.size) PUnit.unit fun i __s => do
          let l ← dictEntries a
          match l[i]? with
            | some e => do
              holding [e.key, e.val] do
                  let r ← dictFind d e.key e.hash
                  if r.isSome = true then do
                      rule "dict.merge.duplicate-key"
                      let r ← newExc (Value.type "KeyError") [e.key]
                      raiseNew r
                      dictPut d e.hash e.key e.val
                    else dictPut d e.hash e.key e.val
              let r ← dictEpoch a
              if (r != epoch) = true then do
                  unsupported "dict.changed-during-merge"
                  pure (ForInStep.yield PUnit.unit)
                else pure (ForInStep.yield PUnit.unit)
            | _ => do
              unsupported "dict.changed-during-merge"
              pure (ForInStep.yield PUnit.unit)
      pure ()) Q E s := by
    refine wpAny_bind (wpAny_dictEntries ha rfl (wpAny_bind (wpAny_dictEpoch ha rfl ?_)))
    have hr : List.range (([] : List DictEntry).toArray).size = [] := rfl
    simp only [hr, List.forIn_nil]
    exact wpAny_bind (wpAny_pure (wpAny_pure h))
  split
  · refine wpAny_bind (wpAny_dictEntries ha rfl ?_)
    simp only [← Array.forIn_toList, List.forIn_nil]
    refine wpAny_bind (wpAny_pure ?_)
    exact tail
  · exact tail
theorem mergedA {f : Value} {x : Sem Value} {k : Str} {t : Tok} {v : Value} {n : Nat} {Q : Addr → Shared → Prop} (F : Fr h₀ L s.heap m) (N : News h₀ L s.heap news) (hm : (a, dictOf [⟨PyData.keyHash w.params k, .str k t, v⟩] n) ∈ news) (lo : (a == sysModules) = false)
    (hx : ∀ (Q' : Value → Shared → Prop) (E' : Value → Shared → Prop) s', Fr h₀ L s'.heap m → Q' (.ref a) s' → wpAny (model prog w) A x Q' E' s')
    (h : ∀ D h', Fr h₀ L h' m → News h₀ L h' ((D, dictOf [⟨PyData.keyHash w.params k, .str k t, v⟩] 1) :: news) → (∀ p ∈ news, p.1 < D) → Q D { s with heap := h' }) : wpAny (model prog w) A (mergedKeywords f [(none, x)]) Q E s := by
  unfold mergedKeywords
  refine wpAny_bind (wpAny_alloc ?_)
  have F' : Fr h₀ L (s.heap.push (dictOf [] 0)) m := F.push _
  have N' := News.push F N (dictOf [] 0) rfl
  have l1 : ∀ p ∈ news, p.1 < s.heap.objs.size := fun p hp => Heap.lt_size (N p hp).1
  refine wpAny_bind (wpAny_holding (wpAny_bind ?_))
  rw [List.forIn_cons]
  refine wpAny_bind ?_
  show wpAny _ _ (Bind.bind (pure ()) _) _ _ _
  refine wpAny_bind (wpAny_pure ?_)
  refine wpAny_bind (hx _ _ _ F' ?_)
  refine wpAny_bind (wpAny_onRaise (wpAny_holding (wpAny_tryCatch (wpAny_onRaise (merge_one (s := { s with heap := s.heap.push (dictOf [] 0) }) F' N' (fun p hp => Nat.ne_of_lt (l1 p hp)) hm lo fun h' F'' N'' => ?_)))))
  refine wpAny_pure ?_
  dsimp only
  rw [List.forIn_nil]
  refine wpAny_pure ?_
  show wpAny _ _ (pure ()) _ _ _
  refine wpAny_pure ?_
  exact wpAny_pure (h _ _ F'' N'' l1)
theorem mergedB {f : Value} {x y : Sem Value} {k : Str} {v : Value} {n : Nat} {Q : Addr → Shared → Prop} (F : Fr h₀ L s.heap m) (N : News h₀ L s.heap news) (hlim : h₀.NoLimit) (hm : (a, dictOf [] n) ∈ news) (lo : (a == sysModules) = false)
    (hx : ∀ (Q' : Value → Shared → Prop) (E' : Value → Shared → Prop) s', Fr h₀ L s'.heap m → Q' (.ref a) s' → wpAny (model prog w) A x Q' E' s')
    (hy : ∀ (Q' : Value → Shared → Prop) (E' : Value → Shared → Prop) s', Fr h₀ L s'.heap m → Q' v s' → wpAny (model prog w) A y Q' E' s')
    (h : ∀ D S h' o t tk, Fr h₀ L h' m → News h₀ L h' ((D, dictOf [⟨PyData.keyHash w.params k, .str k t, v⟩] 1) :: (S, o) :: news) → (∀ p ∈ news, p.1 < D) → D < S → Q D { s with heap := h', toks := tk }) : wpAny (model prog w) A (mergedKeywords f [(some k, y), (none, x)]) Q E s := by
  unfold mergedKeywords
  refine wpAny_bind (wpAny_alloc ?_)
  have F' : Fr h₀ L (s.heap.push (dictOf [] 0)) m := F.push _
  have N' := News.push F N (dictOf [] 0) rfl
  have l1 : ∀ p ∈ news, p.1 < s.heap.objs.size := fun p hp => Heap.lt_size (N p hp).1
  refine wpAny_bind (wpAny_holding (wpAny_bind ?_))
  rw [List.forIn_cons]
  refine wpAny_bind (wpAny_pure ?_)
  dsimp only
  rw [List.forIn_cons]
  refine wpAny_bind ?_
  refine wpAny_bind ?_
  show wpAny _ _ (Bind.bind (evalAll [y]) _) _ _ _
  refine wpAny_bind ?_
  show wpAny _ _ (Bind.bind y _) _ _ _
  refine wpAny_bind (hy _ _ _ F' (wpAny_bind (wpAny_holding (wpAny_pure (wpAny_pure ?_)))))
  refine wpAny_bind (wpAny_alloc ?_)
  have F2 : Fr h₀ L ((s.heap.push (dictOf [] 0)).push (dictOf [] 0)) m := F'.push _
  have N2 := News.push F' N' (dictOf [] 0) rfl
  have l2 : ∀ p ∈ (s.heap.objs.size, dictOf [] 0) :: news, p.1 < (s.heap.push (dictOf [] 0)).objs.size := fun p hp => Heap.lt_size (N' p hp).1
  show wpAny _ _ (Bind.bind (forIn [((k, y), v)] _ _) _) _ _ _
  rw [List.forIn_cons]
  refine wpAny_bind (wpAny_bind (wpAny_bind ?_))
  refine kp_nsSet (s := { s with heap := (s.heap.push (dictOf [] 0)).push (dictOf [] 0) }) (es := []) (n := 0) F2 N2 (fun p hp => Nat.ne_of_lt (l2 p hp)) (fun _ he => nomatch he) (fun _ he => nomatch he) fun h3 F3 N3 => ?_
  refine wpAny_pure ?_
  dsimp only
  rw [List.forIn_nil]
  refine wpAny_pure ?_
  have lo2 : ((s.heap.push (dictOf [] 0)).objs.size == sysModules) = false := F'.notModules (modules_low hlim)
  have N4 : News h₀ L h3 ((s.heap.objs.size, dictOf [] 0) :: ((s.heap.push (dictOf [] 0)).objs.size, dictOf [⟨PyData.keyHash w.params k, .str k s.toks, v⟩] 1) :: news) := fun q hq => N3 q (by
    simp only [List.mem_cons] at hq ⊢
    rcases hq with h | h | h <;> simp only [h, true_or, or_true]; simp)
  have n4 : ∀ p ∈ ((s.heap.push (dictOf [] 0)).objs.size, dictOf [⟨PyData.keyHash w.params k, .str k s.toks, v⟩] 1) :: news, p.1 ≠ s.heap.objs.size := by
    intro p hp
    rcases List.mem_cons.mp hp with rfl | hp
    · exact Nat.ne_of_gt (l2 _ (.head _))
    · exact Nat.ne_of_lt (l1 p hp)
  refine wpAny_onRaise (wpAny_holding (wpAny_tryCatch (wpAny_onRaise (merge_one (s := { s with heap := h3, toks := s.toks + 1 }) F3 N4 n4 (.head _) lo2 fun h5 F5 N5 => ?_))))
  refine wpAny_bind (hx _ _ _ F5 ?_)
  refine wpAny_bind (wpAny_onRaise (wpAny_holding (wpAny_tryCatch (wpAny_onRaise (merge_nil (s := { s with heap := h5, toks := s.toks + 1 }) N5 (.head _) rfl (.tail _ (.tail _ hm)) lo ?_)))))
  refine wpAny_pure ?_
  dsimp only
  rw [List.forIn_nil]
  refine wpAny_pure ?_
  show wpAny _ _ (pure ()) _ _ _
  refine wpAny_pure ?_
  exact wpAny_pure (h _ _ _ _ _ _ F5 N5 l1 (l2 _ (.head _)))
theorem keywordsIn_one {f : Value} {D : Addr} {o : Obj} {hs : Int} {k : Str} {t : Tok} {v : Value} {e0 : Nat} {Q : List (Str × Value) → Shared → Prop} (ho : s.heap.get? D = some o) (hd : o.data = .dict #[⟨hs, .str k t, v⟩] e0) (h : Q [(k, v)] s) : wpAny (model prog w) A (keywordsIn f D) Q E s := by
  unfold keywordsIn
  refine wpAny_bind (wpAny_dictEntries ho hd ?_)
  rw [← Array.forIn_toList]
  show wpAny _ _ (Bind.bind (forIn [(⟨hs, .str k t, v⟩ : DictEntry)] _ _) _) _ _ _
  rw [List.forIn_cons]
  refine wpAny_bind (wpAny_bind (wpAny_pure ?_))
  dsimp only
  rw [List.forIn_nil]
  exact wpAny_pure (wpAny_pure h)
/-- a call with one argument and a splat of keywords -/
theorem evalArgs_dd {f : Value} {y : Sem Value} {kws : List (Option Str × Sem Value)} {v0 : Value} {Q : Args → Shared → Prop} (hk : kws.all (·.1.isSome) = false)
    (hy : ∀ (Q' : Value → Shared → Prop) (E' : Value → Shared → Prop) s', Fr h₀ L s'.heap m → Q' v0 s' → wpAny (model prog w) A y Q' E' s') (F : Fr h₀ L s.heap m)
    (h : wpAny (model prog w) A (mergedKeywords f kws) (fun D s₁ => ∃ (o : Obj) (hs : Int) (k : Str) (t : Tok) (v : Value) (e0 : Nat), s₁.heap.get? D = some o ∧ o.data = .dict #[⟨hs, .str k t, v⟩] e0 ∧ Q ⟨[v0], [(k, v)]⟩ s₁) E s) : wpAny (model prog w) A (evalArgs f true [(false, y)] kws) Q E s := by
  unfold evalArgs
  show wpAny (model prog w) A (spliced [(false, y)] >>= _) Q E s
  refine wpAny_bind (spliced_cons (hy _ _ _ F (spliced_nil ?_)))
  refine wpAny_holding ?_
  refine wpAny_bind (wpAny_pure ?_)
  show wpAny (model prog w) A (ite ((kws.all fun x => x.1.isSome) = true) _ _) Q E s
  rw [if_neg (by rw [hk]; decide)]
  refine wpAny_bind (wpAny_mono h (fun D s₁ h₁ => ?_) fun _ _ x => x)
  obtain ⟨o, hs, k, t, v, e0, ho, hd, hq⟩ := h₁
  refine wpAny_bind (wpAny_pure (wpAny_bind (wpAny_holding (keywordsIn_one ho hd ?_))))
  exact wpAny_pure hq
theorem call_dd {f : Value} {first : List Value} {pos : Pos} {Q : Value → Shared → Prop} {P : Heap → Prop} {args : List (Bool × Sem Value)} {kws : List (Option Str × Sem Value)} (hst : (args.any (·.1) || kws.any (·.1.isNone)) = true)
    (hk : ∀ h, P h → ∃ k, (k = Keeper.frame ∨ k = Keeper.machine ∨ k = Keeper.boundFrame) ∧ Looks (model prog w) h (keeperOf f) k)
    (h : wpAny (model prog w) A (evalArgs f true args kws) (fun a s₁ => P s₁.heap ∧ wpAny (model prog w) A (call f (first ++ a.pos) a.kw) Q E s₁) E s) : wpAny (model prog w) A (callWith pos f first args kws) Q E s := by
  unfold callWith
  refine wpAny_bind (wpAny_holding (wpAny_mono h (fun a s₁ h₁ => wpAny_bind (wpAny_standAt ?_)) fun _ _ x => x))
  obtain ⟨k, hk', L⟩ := hk _ h₁.1
  simp only [hst]
  refine wpAny_bind (L.here ?_)
  have tail : ∀ {t : Sem Value}, wpAny (model prog w) A t Q E s₁ → wpAny (model prog w) A (t >>= fun r => holding [r] point >>= fun _ => pure r) Q E s₁ :=
    fun ht => wpAny_bind (wpAny_mono ht (fun r s₂ hr => wpAny_bind (wpAny_holding (wpAny_point (wpAny_pure hr)))) fun _ _ x => x)
  have marked (mk : Value) : wpAny (model prog w) A (callMarked mk f (first ++ a.pos) a.kw) Q E s₁ := by unfold callMarked; exact Calls.wpAny_keep h₁.2
  rcases hk' with rfl | rfl | rfl <;> dsimp only <;> first | exact tail (marked _) | exact tail (wpAny_operating h₁.2)
theorem ks_getAttr_super {so D x C f : Addr} {of : Obj} {l₀ l : List Value} {K : Frag} {name : Str} {b : Bool} {h : Heap} {g : Array GenState} {d : Drawn} {t : Nat} {os : OsState} {Q : Value → Shared → Prop}
    (hso : h.get? so = some { cls := .type "super", dict := none, data := .fields #[.ref D, .ref x, .ref C], slots := #[] }) (hno : Looks (model prog w) h (opaqueClassAbove (.ref C)) none)
    (hC : Looks (model prog w) h (mroOf (.ref C)) l₀) (hl : (l₀.dropWhile (· != .ref D)).drop 1 = l) (X : K.In h)
    (hf : alongIn K name l = some (some (.ref f))) (hfo : h.get? f = some of) (hfc : of.cls = .type "function") (hxC : x ≠ C) (hn : (name == ("__class__" : Str)) = false)
    (hq : Q (.ref h.objs.size) ⟨h.push { cls := .type "method", data := .fields #[.ref f, .ref x] }, g, d, t + 1, os⟩) :
    wpAny (model prog w) A (getAttr (.ref so) name b) Q E ⟨h, g, d, t, os⟩ := by
  have hlk := PySem.F.ks_slot_super_ga.lookup
  have hT : ∀ t', (⟨h, g, d, t', os⟩ : Shared).TypeIs (.ref so) "super" := fun _ => ⟨_, hso, rfl⟩
  unfold getAttr getAttrBy
  refine wpAny_bind (wpAny_mkText (wpAny_holding (wpAny_bind (wpAny_typeOf (hT _) (wpAny_bind (wpAny_of_eq hlk ?_))))))
  show wpAny _ _ (getAttrByItsOwn (.ref so) (.str name t) (.type "super") (.builtin "super.__getattribute__") true b) _ _ _
  unfold getAttrByItsOwn hookBefore callGetattribute boundAndCalled
  refine wpAny_bind (wpAny_of_eq (show (if onTheHeap (.type "super") then typeLookup (.type "super") "__getattr__" else pure none) = pure none from rfl) ?_)
  refine wpAny_bind (wpAny_attempt (wpAny_holding ?_))
  have hb : (b && onTheHeap (.builtin "super.__getattribute__")) = false := by cases b <;> rfl
  rw [if_neg (by rw [hb]; decide)]
  refine wpAny_bind (wpAny_of_eq (PySem.F.ks_slot_super_ga.bind _) ?_)
  refine wpAny_mono (Q := fun v s' => v = .ref h.objs.size ∧ s' = ⟨h.push { cls := .type "method", data := .fields #[.ref f, .ref x] }, g, d, t + 1, os⟩) (E := fun _ _ => False)
    (wpAny_call_entry PySem.F.ks_slot_super_ga (hT _) PySem.F.ks_entry_super_ga (ks_wpAny_super_ga hso hno hC hl X hf hfo hfc hxC hn ⟨_, rfl, rfl, rfl⟩) (PySem.F.ks_gaArgs_super _ _)) (fun v s' hv => ?_) fun _ _ z => z.elim
  obtain ⟨rfl, rfl⟩ := hv
  exact wpAny_pure hq
theorem ks_attr {x C D f2 so : Addr} {ox : Obj} {odx : Option Obj} {K : Frag} {name : Str} {b : Bool} {Q : Value → Shared → Prop} (F : Fr h₀ L s.heap m) (X₀ : K.In h₀) (N : News h₀ L s.heap news) (hso : (so, ks_superObj D x C) ∈ news) (I : InstAt s.heap x ox C odx) (ho : nsIn K cStatics "thirdparty.any" = some none)
    (hm : ks_superIn K C D name = some (some (.ref f2))) (ht : typeIn K (.ref f2) = some (.type "function")) (hn : (name == ("__class__" : Str)) = false)
    (h : ∀ q h', Fr h₀ L h' m → News h₀ L h' ((q, methodObj (.ref f2) (.ref x)) :: news) → (∀ p ∈ news, p.1 < q) → Q (.ref q) { s with heap := h', toks := s.toks + 1 }) : wpAny (model prog w) A (getAttr (.ref so) name b) Q E s := by
  have X : K.In s.heap := X₀.keeps F.keep
  obtain ⟨hh, g, d, t, os⟩ := s
  cases hc : clsIn K C with
  | none => unfold ks_superIn at hm; rw [hc] at hm; cases hm
  | some cd =>
    unfold ks_superIn at hm
    rw [hc] at hm
    obtain ⟨of, hof, hofc⟩ : ∃ of, hh.get? f2 = some of ∧ of.cls = .type "function" := by
      have ht' : (K.lookup f2).map (·.cls) = some (.type "function") := ht
      cases z : K.lookup f2 with
      | none => rw [z] at ht'; cases ht'
      | some of => rw [z] at ht'; exact ⟨of, X _ _ z, Option.some.inj ht'⟩
    refine ks_getAttr_super (N _ hso).1 (looks_opaque X ho) (l₀ := cd.mro) ?_ rfl X hm hof hofc (ks_ne X I hc) hn ?_
    · exact fun A Q E s k q => wpAny_bind ((looks_clsIn X hc) A _ E s k (wpAny_pure q))
    · obtain ⟨F', N', l'⟩ := ks_newsPush (s := ⟨hh, g, d, t, os⟩) (o := methodObj (.ref f2) (.ref x)) F N rfl (Heap.get?_push_at rfl rfl) (fun b o e => Heap.get?_push_of_some _ e)
      exact h _ _ F' N' l'
theorem ks_wpAt_MethodKW {M : Model} {c : Code} {env : Env} {o : Expr} {name : Str} {apos pos : Pos} {args : List Expr} {kws : List Keyword} {Q : Value → Shared → Prop}
    (h : PySem.wpAt M A c (attributeBase o name env (eval o env)) (fun ov s₁ => wpAny M A (getAttr ov name true) (fun f s₂ => wpAny M A (callWith pos f [] (backTo pos (starEach args env)) (backToKw pos (keywordEach kws env))) Q E s₂) E s₁) E s)
    (hfew : methodCallForm (args.length + kws.length) (backTo pos (starEach args env)) (backToKw pos (keywordEach kws env)) = false := by rfl) :
    PySem.wpAt M A c (eval (.Call (.Attribute o name apos) args kws pos) env) Q E s := by
  show PySem.wpAt M A c (do
      let ov ← attributeBase o name env (eval o env)
      standAt apos.atName
      methodCall o name apos pos env ov (args.length + kws.length) (backTo pos (starEach args env)) (backToKw pos (keywordEach kws env))) Q E s
  refine PySem.wpAt_bind (ks_wpAt_mono h (fun ov s₁ h₁ => PySem.wpAt_of_wpAny (wpAny_bind (wpAny_standAt ?_))) fun _ _ x => x)
  unfold methodCall calleeOf methodCallPos
  rw [hfew]
  refine wpAny_bind (wpAny_holding (wpAny_bind (wpAny_mono h₁ (fun f s₂ h₂ => wpAny_pure ?_) fun _ _ x => x)))
  refine wpAny_bind (wpAny_pure ?_)
  exact h₂
/-- what a name's reading gives wherever the frame stands -/
def Gives (prog : Program) (w : World) (A : Around) (h₀ : Heap) (L : Addr) (m : Str → Option Value) (x : Sem Value) (v : Value) : Prop := ∀ (Q' : Value → Shared → Prop) (E' : Value → Shared → Prop) s', Fr h₀ L s'.heap m → Q' v s' → wpAny (model prog w) A x Q' E' s'
theorem Gives.name {cn : Str} {cs : Scope} {L' b : Addr} {ccd v : Value} {cl : List (Str × Addr)} {x : Str} {pos : Pos} (hv : m x = some v) (hk : cs.kind = .function) (hx : (envX cn cs L b ccd cl).kindOf x = some .local) (hd : (x == ("__debug__" : Str)) = false) : Gives prog w A h₀ L m (eval (.Name x pos) (envX cn cs L b ccd cl)) v :=
  fun _ _ _ F q => nameX_L F hv q hk hx hd
theorem Gives.stand {x : Sem Value} {v : Value} {pos : Pos} (h : Gives prog w A h₀ L m x v) : Gives prog w A h₀ L m (do let v ← x; standAt pos; pure v) v :=
  fun _ _ _ F q => wpAny_bind (h _ _ _ F (wpAny_bind (wpAny_standAt (wpAny_pure q))))
theorem callM_A {K : Frag} {q g : Addr} {self v0 v : Value} {k : Str} {t : Tok} {n : Nat} {env : Env} {e1 e2 : Expr} {pos p2 : Pos} {Q : Value → Shared → Prop} (F : Fr h₀ L s.heap m) (N : News h₀ L s.heap news) (X₀ : K.In h₀) (hq : (q, methodObj (.ref g) self) ∈ news) (hf : fnIn K g = true)
    (hm : (a, dictOf (kwEs w.params t [(k, v)]) n) ∈ news) (lo : (a == sysModules) = false) (ha : starEach [e1] env = [(false, eval e1 env)]) (hy : Gives prog w A h₀ L m (eval e1 env) v0) (hx : Gives prog w A h₀ L m (eval e2 env) (.ref a))
    (h : ∀ D h', Fr h₀ L h' m → News h₀ L h' ((D, dictOf [⟨PyData.keyHash w.params k, .str k t, v⟩] 1) :: news) → (∀ p ∈ news, p.1 < D) → wpAny (model prog w) A (call (.ref q) [v0] [(k, v)]) Q E { s with heap := h' }) :
    wpAny (model prog w) A (callWith pos (.ref q) [] (backTo pos (starEach [e1] env)) (backToKw pos (keywordEach [⟨none, e2, p2⟩] env))) Q E s := by
  rw [ha]
  refine call_dd (P := MethP K q g self) rfl (keeps_M hf) (evalArgs_dd (v0 := v0) rfl hy F (mergedA F N hm lo (Gives.stand hx) fun D h' F' N' l => ?_))
  exact ⟨_, _, _, _, _, _, (N' _ (.head _)).1, rfl, methP N' (.tail _ hq) (X₀.keeps F'.keep), h D h' F' N' l⟩
theorem callM_B {K : Frag} {q g : Addr} {self v0 v : Value} {k : Str} {n : Nat} {env : Env} {e1 e2 e3 : Expr} {pos p2 p3 : Pos} {Q : Value → Shared → Prop} (F : Fr h₀ L s.heap m) (N : News h₀ L s.heap news) (X₀ : K.In h₀) (hlim : h₀.NoLimit) (hq : (q, methodObj (.ref g) self) ∈ news) (hf : fnIn K g = true)
    (hm : (a, dictOf [] n) ∈ news) (lo : (a == sysModules) = false) (ha : starEach [e1] env = [(false, eval e1 env)]) (hy : Gives prog w A h₀ L m (eval e1 env) v0) (hz : Gives prog w A h₀ L m (eval e3 env) v) (hx : Gives prog w A h₀ L m (eval e2 env) (.ref a))
    (h : ∀ D S h' o t tk, Fr h₀ L h' m → News h₀ L h' ((S, o) :: (D, dictOf [⟨PyData.keyHash w.params k, .str k t, v⟩] 1) :: news) → (∀ p ∈ news, p.1 < D) → D < S → wpAny (model prog w) A (call (.ref q) [v0] [(k, v)]) Q E { s with heap := h', toks := tk }) :
    wpAny (model prog w) A (callWith pos (.ref q) [] (backTo pos (starEach [e1] env)) (backToKw pos (keywordEach [⟨some k, e3, p3⟩, ⟨none, e2, p2⟩] env))) Q E s := by
  rw [ha]
  refine call_dd (P := MethP K q g self) rfl (keeps_M hf) (evalArgs_dd (v0 := v0) rfl hy F (mergedB F N hlim hm lo (Gives.stand hx) (Gives.stand hz) fun D S h' o t tk F' N' l l' => ?_))
  exact ⟨_, _, _, _, _, _, (N' _ (.head _)).1, rfl, methP N' (.tail _ (.tail _ hq)) (X₀.keeps F'.keep), h D S h' o t tk F' (fun q hq => N' q (by simp only [List.mem_cons] at hq ⊢; rcases hq with h | h | h <;> simp only [h, true_or, or_true])) l l'⟩
end
end Mine
namespace Mine
local macro_rules | `(tactic| walk_at "zz") => `(tactic| fail)
theorem rs_GX : True := by w_top off; trivial
local macro_rules | `(tactic| k_all) => `(tactic| assumption)
local macro_rules | `(tactic| k_ne) => `(tactic| first | assumption | exact Ne.symm (by assumption) | exact Nat.ne_of_lt (by assumption) | exact Nat.ne_of_gt (by assumption))
local macro_rules | `(tactic| k_room) => `(tactic| ktr_room)
local macro_rules | `(tactic| walk_at "call builtin:getattr") => `(tactic| (k_here; (with_reducible show wpAny _ _ (call (Value.builtin _) [_, Value.str _ _, _]) _ _ _); k_dflt (first
  | (refine' ga3_own ?k1 ?k2 ?k3 ?k4 ?k5 ?k6 ?k7 ?k8 ?k9 ?k10 ?k11 ?_; (case k1 => k_asm); (case k2 => k_asm); (case k3 => k_inst); (case k4 => k_is); (case k5 => k_is); (case k6 => k_is); (case k7 => k_is); (case k8 => k_get); (case k9 => k_handed); (case k10 => decide +kernel); (case k11 => k_is); k_whole)
  | (refine' ga3_miss ?k1 ?k2 ?k3 ?k4 ?k5 ?k6 ?k7 ?k8 ?k9 ?k10 ?k11 ?k12 ?k13 ?_; (case k1 => k_asm); (case k2 => k_asm); (case k3 => k_asm); (case k4 => k_inst); (case k5 => k_is); (case k6 => k_is); (case k7 => k_is); (case k8 => decide +kernel); (case k9 => k_get); (case k10 => decide +kernel); (case k11 => k_is); (case k12 => exact rfl); (case k13 => (first | (refine' MsgOk.of ?q1 ?q2 ?q3; (case q1 => k_is); (case q2 => decide +kernel); (case q3 => decide +kernel)) | (rename IsEx _ => h5; rcases h5 with e5 | e5 | e5 | e5 | e5 <;> subst e5 <;> (refine' MsgOk.of ?q1 ?q2 ?q3; (case q1 => k_is); (case q2 => decide +kernel); (case q3 => decide +kernel))))); k_whole; intro h' tk' F' N'; (try k_sweep)))))
local macro_rules | `(tactic| k_upd) => `(tactic| first | (refine' Off.head ?a; (case a => k_all)) | (refine' Off.tail ?a ?b; (case a => k_ne); (case b => k_upd)))
local macro_rules | `(tactic| walk_at "pyIter ref") => `(tactic| (k_here; (with_reducible show wpAny _ _ (pyIter (Value.ref _)) (fun it s₂ => codeAny _ _ (Code.forLoop _ it _ _ _) _ s₂) _ _); k_dflt (refine' tup_iter ?k1 ?k2 ?k3 ?_; (case k1 => k_asm); (case k2 => k_asm); (case k3 => exact News.isTup (by k_asm) (by k_mem)); k_whole); intro I' h' o' F' N' x' l1 l2; (try k_lt l1); (try k_lt2 l2); (try k_sweep)))
local macro_rules | `(tactic| walk_at "codeAny forLoop") => `(tactic| (k_here; (with_reducible show codeAny _ _ (Code.forLoop _ (Value.ref _) _ _ _) (okR _) _); k_dflt (first
  | (refine' tup_last ?k1 ?k2 ?k3 ?k4 ?k5 ?k6 ?k7 ?_; (case k1 => k_asm); (case k4 => assumption); (case k2 => k_asm); (case k3 => k_upd); (case k5 => exact News.isTup (by k_asm) (by k_mem)); (case k6 => exact rfl); (case k7 => exact rfl); k_whole; intro h' F' N'; (try k_sweep))
  | (refine' tup_turn ?k1 ?k2 ?k3 ?k4 ?k5 ?k6 ?k7 ?_; (case k1 => k_asm); (case k4 => assumption); (case k2 => k_asm); (case k3 => k_updF); (case k5 => exact News.isTup (by k_asm) (by k_mem)); (case k6 => first | exact get2_0 | exact get2_1 | exact rfl); (case k7 => k_ne); k_whole; intro h' o' F' N' x' T'; (try k_sweep)))))
local macro_rules | `(tactic| walk_at "call builtin:len") => `(tactic| (k_here; (with_reducible show wpAny _ _ (call (Value.builtin _) [Value.ref _]) _ _ _); k_dflt (refine' d_len (knd := intKind _ _) ?k1 ?k2 ?k3 ?k4 ?k5 ?k6 ?_; (case k1 => k_asm); (case k2 => k_mem); (case k3 => assumption); (case k4 => assumption); (case k5 => first | exact rowsK_length _ | rfl); (case k6 => (first | omega | (simp only [List.length_append, List.length_cons, List.length_nil]; omega))); k_whole; intro tk')))
local macro_rules | `(tactic| walk_at "getMethod ref") => `(tactic| (k_here; (with_reducible show wpAny _ _ (getMethod (Value.ref _) (Str.ofString "get") _) _ _ _); k_dflt (refine' d_meth (knd := intKind _ _) ?k1 ?k2 ?k3 PySem.F.slot_dict_get PySem.F.type_dict_get ?_; (case k1 => k_asm); (case k2 => k_mem); (case k3 => assumption); k_whole)))
local macro_rules | `(tactic| walk_at "call builtin:dict.get") => `(tactic| (k_here; (with_reducible show wpAny _ _ (call (Value.builtin _) [Value.ref _, Value.int _ _]) _ _ _); k_dflt (refine' d_get (knd := intKind _ _) ?k1 ?k2 ?k3 ?k4 (intKind_is _ _ _ _) ?_; (case k1 => k_asm); (case k2 => k_mem); (case k3 => assumption); (case k4 => assumption); k_whole)))
local macro_rules | `(tactic| walk_at "compareOp In int ref") => `(tactic| (k_here; k_dflt (refine' d_in (knd := intKind _ _) ?k1 ?k2 ?k3 ?k4 (intKind_is _ _ _ _) ?_; (case k1 => k_asm); (case k2 => k_mem); (case k3 => assumption); (case k4 => assumption); k_whole)))
local macro_rules | `(tactic| walk_at "subscriptTail") => `(tactic| (k_here; (with_reducible show wpAny _ _ (subscriptTail _ _ (Value.ref _) (Value.int _ _)) _ _ _); k_dflt (refine' d_item (knd := intKind _ _) ?k1 ?k2 ?k3 (intKind_is _ _ _ _) ?k5 ?_; (case k1 => k_asm); (case k2 => k_mem); (case k3 => assumption); (case k5 => assumption); k_whole)))
local macro_rules | `(tactic| walk_at "setItem ref int") => `(tactic| (k_here; k_dflt (refine' d_set (knd := intKind _ _) ?k1 ?k2 ?k3 ?k4 (intKind_is _ _ _ _) ?k6 ?_; (case k1 => k_asm); (case k2 => k_asm); (case k3 => k_updF); (case k4 => assumption); (case k6 => (rw [sizeLine_eq]; (first | omega | (simp only [rowsK_length, rowK_length, List.length_map, List.length_append, List.length_cons, List.length_nil]; omega)))); k_whole); intro h' o' F' N' hd'; (try dsimp only at N'); (try simp only [rowsK_length, stored_rows] at hd'); (try k_sweep)))
local macro_rules | `(tactic| k_all) => `(tactic| first | assumption | (refine List.forall_mem_append.mpr ⟨?_, ?_⟩ <;> k_all) | (exact tbn_neAll (by first | assumption | tbn_find)) | (exact tbn_neAll (tbn_up (by assumption) (by tbn_find))))
local macro_rules | `(tactic| k_mem) => `(tactic| ((with_reducible show List.Mem _ _); first | (show (_ : Addr × Obj) ∈ (_ : List (Addr × Obj)); ktr_member) | ((with_reducible show List.Mem _ (_ ++ _)); first | (refine' List.mem_append_left _ ?q; (case q => k_mem)) | (refine' List.mem_append_right _ ?q; (case q => k_mem)))))
local macro_rules | `(tactic| k_put) => `(tactic| first | exact putL_nil _ _ _ _ _ | exact putL_one _ _ _ _ _ _ _ _)
local macro_rules | `(tactic| walk_at "eval Name") => `(tactic| (k_here; k_dflt (refine' nameX_L ?F ?v ?_ ?a ?b; (case F => k_asm); (case a => rfl); (case b => rfl); (case v => assumption); k_whole)))
local macro_rules | `(tactic| k_put) => `(tactic| first | exact putL_nil _ _ _ _ _ | exact putL_one _ _ _ _ _ _ _ _ | exact putL_err_pos | exact putL_err_expr)
local macro_rules | `(tactic| walk_at "getAttr ref") => `(tactic| (k_here; k_dflt (refine' exc_getD ?k1 ?k2 ?k3 ?k4 ?k5 ?k6 ?k7 ?k8 ?k9 ?k10 ?k11 ?_; (case k1 => k_asm); (case k2 => k_asm); (case k3 => (refine' InstAt.of_newsF ?N ?h1 ?h2; (case N => k_asm); (case h1 => k_mem); (case h2 => k_mem))); (case k4 => k_is); (case k5 => k_is); (case k6 => k_is); (case k7 => k_is); (case k8 => k_is); (case k9 => k_is); (case k10 => k_get); (case k11 => k_handed); k_whole)))
local macro_rules | `(tactic| walk_at "setAttr ref") => `(tactic| (k_here; k_dflt (refine' exc_set ?k1 ?k2 ?k3 ?k4 ?k5 ?k6 ?k7 ?k8 ?k9 ?k10 ?k11 ?k12 ?k13 ?_; (case k1 => k_asm); (case k2 => k_asm); (case k3 => k_asm); (case k4 => (refine' InstAt.of_newsF ?N ?h1 ?h2; (case N => k_asm); (case h1 => k_mem); (case h2 => k_mem))); (case k5 => exact rfl); (case k6 => k_is); (case k7 => kernel_rfl); (case k8 => k_is); (case k9 => k_is); (case k10 => k_get); (case k11 => k_put); (case k12 => k_upd); (case k13 => exact Nat.le_of_ble_eq_true rfl); k_whole; intro h' F' N'; (try k_sweep))))
local macro_rules | `(tactic| k_slotget) => `(tactic| first | assumption | rfl)
local macro_rules | `(tactic| walk_at "getAttr ref") => `(tactic| (k_here; k_dflt (refine' get_slotW ?k1 ?k2 ?k3 ?k4 ?k5 ?k6 ?k7 ?k8 ?k9 ?k10 ?k11 ?_; (case k1 => k_asm); (case k2 => k_asm); (case k3 => k_asm); (case k4 => k_mem); (case k5 => k_is); (case k6 => k_is); (case k7 => k_is); (case k8 => k_is); (case k9 => k_is); (case k10 => k_slotget); (case k11 => k_handed); k_whole)))
local macro_rules | `(tactic| walk_at "call builtin:len") => `(tactic| (k_here; (with_reducible show wpAny _ _ (call (Value.builtin _) [Value.str _ _]) _ _ _); k_dflt (refine' SC.len_str ?k1 ?_; (case k1 => assumption); k_whole)))
local macro_rules | `(tactic| walk_at "getMethod ref") => `(tactic| (k_here; (with_reducible show wpAny _ _ (getMethod (Value.ref _) (Str.ofString "match_core") _) _ _ _); k_dflt (refine' meth_core ?k1 ?k2 ?k3 ?k4 ?k5 ?_; (case k1 => k_asm); (case k2 => k_asm); (case k4 => k_inst); (case k3 => assumption); (case k5 => assumption); k_whole)))
local macro_rules | `(tactic| walk_at "call ref") => `(tactic| (k_here; (with_reducible show wpAny _ _ (call (Value.ref 266) _) _ _ _); refine Held.out ?_))
local macro_rules | `(tactic| walk_at "exec For Name Attribute cons nil") => `(tactic| (k_here; refine for_F ?_))
local macro_rules | `(tactic| walk_at "truthy ref") => `(tactic| (k_here; k_dflt (refine' truthyL ?k1 ?k2 ?k3 ?k4 ?_; (case k1 => k_asm); (case k2 => k_mem); (case k3 => first | assumption | (simp only [List.size_toArray, List.length_cons, List.length_nil]; decide) | (simp only [Array.size_push, List.size_toArray, List.length_cons, List.length_nil]; omega)); (case k4 => first | assumption | exact ne1 | exact ne0 | exact neP); k_whole); intro tk'))
section
open PySem.Spec PySem.Calls PyProof.V Builtin
variable {prog : Program} {w : World} {A : Around} {K : Frag} {C : Addr} {R : Result → Shared → Prop} {h : Heap} {g : Array GenState} {d : Drawn} {t : Nat} {os : OsState}
variable {nm q : Str} {N : Addr} {bs bm bmB : List Value} {hdct : Bool} {sn : List Str} {sub : List Value} {ab : Bool} {col : Option Bool} {dd : Option Addr} {k0 k1 k2 k3 k5 : Option Value} {B newId initId : String}
abbrev excO (C a : Addr) : Obj := { cls := .ref C, data := .fields #[.ref a, .none, .none, .none, .bool false, .none] }
theorem err_core {rest : List Value} {init : Value} (Fe : ExcBaseFacts B newId initId bmB) (T : OwnTail h bmB bm) (hC : h.get? C = some (excClassObj nm q C N bs bm hdct sn sub ab col dd k0 k1 k2 k3 k5 newId))
    (call : Looks (model prog w) h (specialOf (.ref C) "__call__") (some (.builtin "type.__call__"))) (typ : Looks (model prog w) h (isInstance (.ref C) (.type "type")) true) (self : Looks (model prog w) h (isSubtype (.ref C) (.ref C)) true)
    (hi : Looks (model prog w) h (typeLookup (.ref C) "__init__") (some init)) (hb : ∀ self, Looks (model prog w) h (bindSpecial init self) (init, [self])) (hrest : rest.length ≤ sizeLine)
    (hq : codeAny (model prog w) (A.under (.builtin "type.__call__" ⟨.ref C :: rest, []⟩)) (.call init ⟨.ref (h.objs.size + 1) :: rest, []⟩) (InitBack (h.objs.size + 1) R) ⟨(h.push { cls := .type "tuple", data := .seq rest.toArray }).push (excO C h.objs.size), g, d, t, os⟩) :
    codeAny (model prog w) A (.call (.ref C) ⟨rest, []⟩) R ⟨h, g, d, t, os⟩ := by
  refine codeAny_of_tree ?_
  show wpAny _ _ (callAny (.ref C) _) _ _ _
  refine wpAny_bind (wpAny_load hC ?_)
  show wpAny _ _ (callAny.viaDunder (.ref C) _) _ _ _
  unfold callAny.viaDunder
  refine wpAny_bind (call.at ?_)
  dsimp only
  rw [tc_bind]
  refine wpAny_bind (wpAny_pure (wpAny_bind (wpAny_pure ?_)))
  refine wpAny_pure (a := Fin.again (.call (.builtin "type.__call__") ⟨.ref C :: rest, []⟩)) (And.intro rfl ?_)
  refine codeAny_call_builtin_at (Code.quiet_builtin _ (by decide +kernel)) entry_typeCall (check_slot tc_kind tc_split typ (tc_args _ _ _) ?_)
  unfold Builtin.«type.__call__»
  repeat (first | with_reducible refine wpAny_loadPart_at hC ?_ | with_reducible refine wpAny_madeBy_exc hC ?_ | wp_step)
  refine codeAny_call_builtin_code (Code.quiet_builtin _ Fe.quiet) (wpAny_check_new_subU Fe Fe.hasB T hC ?_)
  refine codeAny_exc_new_subU Fe Fe.hasB Fe T hC ?_ hrest
  show wpAny _ _ _ _ _ _
  have k : ∀ b o, h.get? b = some o → ((h.push { cls := .type "tuple", data := .seq rest.toArray }).push (excO C h.objs.size)).get? b = some o := fun b o e => Heap.get?_push_of_some _ (Heap.get?_push_of_some _ e)
  have hx : ((h.push { cls := .type "tuple", data := .seq rest.toArray }).push (excO C h.objs.size)).get? (h.objs.size + 1) = some (excO C h.objs.size) := by heap_get
  have t1 : Looks (model prog w) ((h.push { cls := .type "tuple", data := .seq rest.toArray }).push (excO C h.objs.size)) (typeOf (.ref (h.objs.size + 1))) (.ref C) := (Looks.ld hx).andThen .now
  have s1 := self.keeps k
  have i1 := hi.keeps k
  have b1 := (hb (.ref (h.objs.size + 1))).keeps k
  unfold isInstance callSpecial? specialOf
  repeat (first | with_reducible refine wpAny_call ?_ | lk)
  refine codeAny_mono hq fun r s' z => ?_
  rcases r with e | (v | _ | _ | _) <;> first | exact z | exact z.elim | skip
  obtain ⟨rfl, z⟩ := z
  exact wpAny_pure (wpAny_pure z)
end
end Mine
namespace Mine
/-! the plain law: what the program computes, with no program in sight -/
inductive Tree where
  | nd (n s e : Nat) (cs : List Tree)
def Tree.n : Tree → Nat | .nd n _ _ _ => n
def Tree.s : Tree → Nat | .nd _ s _ _ => s
def Tree.e : Tree → Nat | .nd _ _ e _ => e
def Tree.cs : Tree → List Tree | .nd _ _ _ c => c
/-- an expression, its names -/
inductive PE where
  | word (n : Nat) (w : List Nat)
  | look (n : Nat) (neg : Bool) (e : PE)
  | many (n least : Nat) (most : Option Nat) (e : PE)
  | choice (n : Nat) (a b : PE)
  | chain (n : Nat) (a b : PE)
def PE.n : PE → Nat
  | .word n _ => n | .look n _ _ => n | .many n _ _ _ => n | .choice n _ _ => n | .chain n _ _ => n
abbrev Tab := List (Nat × Option Tree)
inductive TT where
  | nil
  | nd (tab : Option Tab) (l r : TT)
def TT.tab : TT → Option Tab | .nil => none | .nd t _ _ => t
def TT.l : TT → TT | .nil => .nil | .nd _ l _ => l
def TT.r : TT → TT | .nil => .nil | .nd _ _ r => r
abbrev Err := Option (Nat × Nat)
def post (n p : Nat) (r : Option Tree) (err : Err) : Err :=
  if r.isNone && (match err with | none => true | some (_, q) => decide (q ≤ p)) then some (n, p) else err
abbrev Out := Option Tree × TT × Err
abbrev Run := TT → Nat → Err → Out
def memo (n : Nat) (u : Run) : Run := fun tt p err =>
  match (tt.tab.getD []).lookup p with
  | some r => (r, .nd (some (tt.tab.getD [])) tt.l tt.r, post n p r err)
  | none => let o := u tt p err; (o.1, .nd (some (tt.tab.getD [] ++ [(p, o.1)])) o.2.1.l o.2.1.r, post n p o.1 o.2.2)
def hasAt (T w : List Nat) (p : Nat) : Bool := decide (p ≤ T.length) && (T.drop p).take w.length == w
def uWord (T : List Nat) (n : Nat) (w : List Nat) : Run := fun tt p err => (if hasAt T w p then some (.nd n p (p + w.length) []) else none, tt, err)
def uLook (n : Nat) (neg : Bool) (f : Run) : Run := fun tt p err =>
  let o := f tt.l p err; (if o.1.isNone == neg then some (.nd n p p []) else none, .nd tt.tab o.2.1 tt.r, o.2.2)
def uChoice (n : Nat) (f g : Run) : Run := fun tt p err =>
  let o := f tt.l p err
  match o.1 with
  | some t => (some (.nd n p t.e [t]), .nd tt.tab o.2.1 tt.r, o.2.2)
  | none =>
    let q := g tt.r p o.2.2
    match q.1 with
    | some t => (some (.nd n p t.e [t]), .nd tt.tab o.2.1 q.2.1, q.2.2)
    | none => (none, .nd tt.tab o.2.1 q.2.1, q.2.2)
def uChain (n : Nat) (f g : Run) : Run := fun tt p err =>
  let o := f tt.l p err
  match o.1 with
  | none => (none, .nd tt.tab o.2.1 tt.r, o.2.2)
  | some t =>
    let q := g tt.r (p + (t.e - t.s)) o.2.2
    match q.1 with
    | none => (none, .nd tt.tab o.2.1 q.2.1, q.2.2)
    | some t2 => (some (.nd n p (p + (t.e - t.s) + (t2.e - t2.s)) [t, t2]), .nd tt.tab o.2.1 q.2.1, q.2.2)
def manyGo (f : Run) (size least : Nat) (most : Option Nat) : Nat → TT → Nat → List Tree → Err → Nat × List Tree × TT × Err
  | 0, tl, np, cs, err => (np, cs, tl, err)
  | k + 1, tl, np, cs, err =>
    if np < size && most.all (fun m => cs.length < m) then
      let o := f tl np err
      match o.1 with
      | none => (np, cs, o.2.1, o.2.2)
      | some t => if least ≤ cs.length + 1 && t.e - t.s == 0 then (np, cs ++ [t], o.2.1, o.2.2) else manyGo f size least most k o.2.1 (np + (t.e - t.s)) (cs ++ [t]) o.2.2
    else (np, cs, tl, err)
def uMany (T : List Nat) (n least : Nat) (most : Option Nat) (f : Run) : Run := fun tt p err =>
  let o := manyGo f T.length least most (T.length + least + 1) tt.l p [] err
  (if least ≤ o.2.1.length then some (.nd n p o.1 o.2.1) else none, .nd tt.tab o.2.2.1 tt.r, o.2.2.2)
def unc (T : List Nat) (core : PE → Run) : PE → Run
  | .word n w => uWord T n w
  | .look n neg e => uLook n neg (core e)
  | .many n least most e => uMany T n least most (core e)
  | .choice n a b => uChoice n (core a) (core b)
  | .chain n a b => uChain n (core a) (core b)
def core (T : List Nat) : PE → Run
  | .word n w => memo n (uWord T n w)
  | .look n neg e => memo n (uLook n neg (core T e))
  | .many n least most e => memo n (uMany T n least most (core T e))
  | .choice n a b => memo n (uChoice n (core T a) (core T b))
  | .chain n a b => memo n (uChain n (core T a) (core T b))
theorem core_memo (T : List Nat) (e : PE) : core T e = memo e.n (unc T (core T) e) := by cases e <;> rfl
/-- what is found at p of a text of length n -/
def okE (n p : Nat) (r : Option Tree) : Prop := ∀ t, r = some t → t.s = p ∧ p ≤ t.e ∧ t.e ≤ n
def okT (n : Nat) (tab : Option Tab) : Prop := ∀ y ∈ tab.getD [], y.1 ≤ n ∧ okE n y.1 y.2
def Good (n : Nat) : PE → TT → Prop
  | .word .., tt => okT n tt.tab
  | .look _ _ e, tt => okT n tt.tab ∧ Good n e tt.l
  | .many _ _ _ e, tt => okT n tt.tab ∧ Good n e tt.l
  | .choice _ a b, tt => okT n tt.tab ∧ Good n a tt.l ∧ Good n b tt.r
  | .chain _ a b, tt => okT n tt.tab ∧ Good n a tt.l ∧ Good n b tt.r
/-- of the children's tables alone -/
def GoodK (n : Nat) : PE → TT → Prop
  | .word .., _ => True
  | .look _ _ e, tt => Good n e tt.l
  | .many _ _ _ e, tt => Good n e tt.l
  | .choice _ a b, tt => Good n a tt.l ∧ Good n b tt.r
  | .chain _ a b, tt => Good n a tt.l ∧ Good n b tt.r
theorem good_iff {n : Nat} {e : PE} {tt : TT} : Good n e tt ↔ okT n tt.tab ∧ GoodK n e tt := by cases e <;> simp [Good, GoodK]
theorem okE_none {n p : Nat} : okE n p none := fun _ h => nomatch h
theorem okE_some {n p e m : Nat} {cs : List Tree} (h1 : p ≤ e) (h2 : e ≤ n) : okE n p (some (.nd m p e cs)) := by
  intro t h; cases h; exact ⟨rfl, h1, h2⟩
theorem memo_good {n m : Nat} {u : Run} {e : PE} (hu : ∀ tt p err, p ≤ n → GoodK n e tt → okE n p (u tt p err).1 ∧ GoodK n e (u tt p err).2.1) (hK : ∀ t t' l r, GoodK n e (.nd t l r) → GoodK n e (.nd t' l r)) (hn : ∀ tt, GoodK n e tt → GoodK n e (.nd tt.tab tt.l tt.r))
    (tt : TT) (p : Nat) (err : Err) (hp : p ≤ n) (h : Good n e tt) : okE n p (memo m u tt p err).1 ∧ Good n e (memo m u tt p err).2.1 := by
  obtain ⟨h1, h2⟩ := good_iff.mp h
  unfold memo
  cases hl : (tt.tab.getD []).lookup p with
  | some r =>
    refine ⟨?_, good_iff.mpr ⟨h1, hK _ _ _ _ (hn tt h2)⟩⟩
    have : ∀ (l : Tab), l.lookup p = some r → (p, r) ∈ l := by
      intro l
      induction l with
      | nil => intro h; cases h
      | cons a l ih =>
        obtain ⟨a, b⟩ := a
        intro h
        rw [List.lookup_cons] at h
        by_cases hq : (p == a) = true
        · rw [hq] at h; cases h; have := beq_iff_eq.mp hq; subst this; exact .head _
        · simp only [Bool.not_eq_true] at hq; rw [hq] at h; exact .tail _ (ih h)
    exact (h1 _ (this _ hl)).2
  | none =>
    obtain ⟨h3, h4⟩ := hu tt p err hp h2
    refine ⟨h3, good_iff.mpr ⟨?_, ?_⟩⟩
    · intro y hy
      rcases List.mem_append.mp hy with hy | hy
      · exact h1 y hy
      · rw [List.mem_singleton.mp hy]; exact ⟨hp, h3⟩
    · exact hK _ _ _ _ (hn _ h4)
theorem manyGo_good {n : Nat} {e : PE} {f : Run} (hf : ∀ tt p err, p ≤ n → Good n e tt → okE n p (f tt p err).1 ∧ Good n e (f tt p err).2.1) (least : Nat) (most : Option Nat) : ∀ (k : Nat) (tl : TT) (np : Nat) (cs : List Tree) (err : Err), np ≤ n → Good n e tl →
    np ≤ (manyGo f n least most k tl np cs err).1 ∧ (manyGo f n least most k tl np cs err).1 ≤ n ∧ Good n e (manyGo f n least most k tl np cs err).2.2.1
  | 0, tl, np, cs, err, hp, h => ⟨Nat.le_refl _, hp, h⟩
  | k + 1, tl, np, cs, err, hp, h => by
    unfold manyGo
    split
    · obtain ⟨h1, h2⟩ := hf tl np err hp h
      simp only []
      split
      · exact ⟨Nat.le_refl _, hp, h2⟩
      · rename_i t ht
        obtain ⟨a, b, c⟩ := h1 t ht
        split
        · exact ⟨Nat.le_refl _, hp, h2⟩
        · obtain ⟨x, y, z⟩ := manyGo_good hf least most k (f tl np err).2.1 (np + (t.e - t.s)) (cs ++ [t]) (f tl np err).2.2 (by omega) h2
          exact ⟨by omega, y, z⟩
    · exact ⟨Nat.le_refl _, hp, h⟩
theorem unc_good {T : List Nat} {c : PE → Run} {e : PE} (hc : ∀ e', sizeOf e' < sizeOf e → ∀ tt p err, p ≤ T.length → Good T.length e' tt → okE T.length p (c e' tt p err).1 ∧ Good T.length e' (c e' tt p err).2.1) (tt : TT) (p : Nat) (err : Err) (hp : p ≤ T.length) (h : GoodK T.length e tt) :
    okE T.length p (unc T c e tt p err).1 ∧ GoodK T.length e (unc T c e tt p err).2.1 := by
  cases e with
  | word n w =>
    simp only [unc, uWord]
    refine ⟨?_, h⟩
    split
    · rename_i hh
      simp only [hasAt, Bool.and_eq_true, decide_eq_true_eq, beq_iff_eq] at hh
      have := congrArg List.length hh.2
      rw [List.length_take, List.length_drop] at this
      exact okE_some (by omega) (by omega)
    · exact okE_none
  | look n neg e =>
    obtain ⟨h1, h2⟩ := hc e (by simp) tt.l p err hp h
    simp only [unc, uLook]
    refine ⟨?_, h2⟩
    split
    · exact okE_some (Nat.le_refl _) hp
    · exact okE_none
  | many n least most e =>
    obtain ⟨h1, h2, h3⟩ := manyGo_good (hc e (by simp; omega)) least most (T.length + least + 1) tt.l p [] err hp h
    simp only [unc, uMany]
    refine ⟨?_, h3⟩
    split
    · exact okE_some h1 h2
    · exact okE_none
  | choice n a b =>
    obtain ⟨g1, g2⟩ := h
    obtain ⟨h1, h2⟩ := hc a (by simp; omega) tt.l p err hp g1
    simp only [unc, uChoice]
    split
    · rename_i t ht
      obtain ⟨_, q1, q2⟩ := h1 t ht
      exact ⟨okE_some q1 q2, h2, g2⟩
    · obtain ⟨h3, h4⟩ := hc b (by simp; omega) tt.r p (c a tt.l p err).2.2 hp g2
      split
      · rename_i t ht
        obtain ⟨_, q1, q2⟩ := h3 t ht
        exact ⟨okE_some q1 q2, h2, h4⟩
      · exact ⟨okE_none, h2, h4⟩
  | chain n a b =>
    obtain ⟨g1, g2⟩ := h
    obtain ⟨h1, h2⟩ := hc a (by simp; omega) tt.l p err hp g1
    simp only [unc, uChain]
    split
    · exact ⟨okE_none, h2, g2⟩
    · rename_i t ht
      obtain ⟨q0, q1, q2⟩ := h1 t ht
      obtain ⟨h3, h4⟩ := hc b (by simp; omega) tt.r (p + (t.e - t.s)) (c a tt.l p err).2.2 (by omega) g2
      split
      · exact ⟨okE_none, h2, h4⟩
      · rename_i t2 ht2
        obtain ⟨r0, r1, r2⟩ := h3 t2 ht2
        exact ⟨okE_some (by omega) (by omega), h2, h4⟩
theorem goodK_tab {n : Nat} {e : PE} : ∀ {t t' : Option Tab} {l r : TT}, GoodK n e (.nd t l r) → GoodK n e (.nd t' l r) := by
  intro t t' l r h; cases e <;> exact h
theorem goodK_nd {n : Nat} {e : PE} {tt : TT} (h : GoodK n e tt) : GoodK n e (.nd tt.tab tt.l tt.r) := by cases e <;> exact h
theorem core_good {T : List Nat} : ∀ (e : PE) (tt : TT) (p : Nat) (err : Err), p ≤ T.length → Good T.length e tt → okE T.length p (core T e tt p err).1 ∧ Good T.length e (core T e tt p err).2.1
  | e, tt, p, err, hp, h => by
    rw [core_memo]
    exact memo_good (fun tt p err hp h => unc_good (fun e' _ tt p err hp h => core_good e' tt p err hp h) tt p err hp h) (fun _ _ _ _ => goodK_tab) (fun _ => goodK_nd) tt p err hp h
termination_by e => sizeOf e
end Mine
namespace Mine
def drawn (ns : List Int) (used : Nat) (lim : Int) : Int := if h : used < ns.length then Int.fmod (ns[used]) lim else 0
theorem drawn_range (ns : List Int) (used : Nat) {lim : Int} (h : 0 < lim) : 0 ≤ drawn ns used lim ∧ drawn ns used lim < lim := by
  unfold drawn
  split
  · exact ⟨Int.fmod_nonneg_of_pos _ h, Int.fmod_lt_of_pos _ h⟩
  · exact ⟨Int.le_refl _, h⟩
/-- a draw as a number -/
def draw (ns : List Int) (used lim : Nat) : Nat := (drawn ns used lim).toNat
theorem draw_eq (ns : List Int) (used : Nat) {lim : Nat} (h : 0 < lim) : drawn ns used lim = (draw ns used lim : Int) ∧ draw ns used lim < lim := by
  obtain ⟨h1, h2⟩ := drawn_range ns used (lim := lim) (by omega)
  unfold draw
  omega
def wordAt : Nat → List Nat
  | 0 => [97] | 1 => [98] | 2 => [97, 98] | 3 => [98, 97] | 4 => [98, 98] | _ => []
def mostAt : Nat → Option Nat
  | 0 => none | 1 => some 1 | _ => some 2
/-- the expression that the script tells, what it has drawn and named -/
def grown (ns : List Int) : Nat → Nat → Nat → PE × Nat × Nat
  | 0, used, names => (.word (names + 1) (wordAt (draw ns (used + 1) 6)), used + 2, names + 1)
  | d + 1, used, names =>
    let pick := draw ns used 8
    if pick < 2 then (.word (names + 1) (wordAt (draw ns (used + 1) 6)), used + 2, names + 1)
    else
      let one := grown ns d (used + 1) (names + 1)
      if pick < 4 then (.look (names + 1) (pick == 3) one.1, one.2.1, one.2.2)
      else if pick = 4 then (.many (names + 1) (draw ns one.2.1 3) (mostAt (draw ns (one.2.1 + 1) 3)) one.1, one.2.1 + 2, one.2.2)
      else
        let two := grown ns d one.2.1 one.2.2
        if pick = 5 then (.choice (names + 1) one.1 two.1, two.2.1, two.2.2) else (.chain (names + 1) one.1 two.1, two.2.1, two.2.2)
theorem grown_bounds (ns : List Int) : ∀ (d used names : Nat), (grown ns d used names).2.1 + 3 ≤ used + 5 * 2 ^ d ∧ (grown ns d used names).2.2 + 1 ≤ names + 2 ^ (d + 1) ∧ used ≤ (grown ns d used names).2.1 ∧ names < (grown ns d used names).2.2
  | 0, used, names => by simp [grown]
  | d + 1, used, names => by
    obtain ⟨a1, a2, a3, a4⟩ := grown_bounds ns d (used + 1) (names + 1)
    obtain ⟨b1, b2, b3, b4⟩ := grown_bounds ns d (grown ns d (used + 1) (names + 1)).2.1 (grown ns d (used + 1) (names + 1)).2.2
    have e1 : 2 ^ (d + 1) = 2 * 2 ^ d := by rw [Nat.pow_succ]; omega
    have e2 : 2 ^ (d + 1 + 1) = 2 * 2 ^ (d + 1) := by rw [Nat.pow_succ]; omega
    have e3 : 1 ≤ 2 ^ d := Nat.one_le_two_pow
    unfold grown
    simp only []
    split
    · simp only []; omega
    · split
      · simp only []; omega
      · split
        · simp only []; omega
        · split <;> (simp only []; omega)
/-- most, as the script tells it -/
def mostI : Option Nat → Int
  | none => -1
  | some k => k
theorem most_val {n : Nat} (h : n < 3) : ([-1, 1, 2] : List Int).getD n 0 = mostI (mostAt n) := by
  match n, h with
  | 0, _ => rfl
  | 1, _ => rfl
  | 2, _ => rfl
theorem most_none {n : Nat} (h : n < 3) (h1 : ([-1, 1, 2] : List Int).getD n 0 < 0) : mostAt n = none := by
  match n, h, h1 with
  | 0, _, _ => rfl
  | 1, _, h => exact absurd h (by decide)
  | 2, _, h => exact absurd h (by decide)
theorem most_some {n : Nat} (h : n < 3) (h1 : ¬ ([-1, 1, 2] : List Int).getD n 0 < 0) : ∃ k, mostAt n = some k ∧ ([-1, 1, 2] : List Int).getD n 0 = (k : Int) := by
  match n, h, h1 with
  | 0, _, h => exact absurd (by decide) h
  | 1, _, _ => exact ⟨1, rfl, rfl⟩
  | 2, _, _ => exact ⟨2, rfl, rfl⟩
end Mine
namespace Mine
/-- own reading: where it ends, how far it looked -/
def manyR (f : Nat → Nat → Option Nat × Nat) (size least : Nat) (most : Option Nat) : Nat → Nat → Nat → Nat → Option Nat × Nat
  | 0, count, p, l => (if least ≤ count then some p else none, l)
  | k + 1, count, p, l =>
    let l1 := max l (p + 1)
    if size ≤ p ∨ most = some count then (if least ≤ count then some p else none, l1)
    else
      let o := f p l1
      match o.1 with
      | none => (if least ≤ count then some p else none, o.2)
      | some e => if least ≤ count + 1 ∧ e = p then (if least ≤ count + 1 then some p else none, o.2) else manyR f size least most k (count + 1) e o.2
def readP (T : List Nat) : PE → Nat → Nat → Option Nat × Nat
  | .word _ w, p, l => (if (T.drop p).take w.length = w then some (p + w.length) else none, max l (p + w.length))
  | .look _ neg e, p, l => let o := readP T e p l; (if o.1.isNone = neg then some p else none, o.2)
  | .many _ least most e, p, l => manyR (readP T e) T.length least most (T.length + 4) 0 p l
  | .choice _ a b, p, l => let o := readP T a p l; match o.1 with | some e => (some e, o.2) | none => readP T b p o.2
  | .chain _ a b, p, l => let o := readP T a p l; match o.1 with | some e => readP T b e o.2 | none => (none, o.2)
def endI : Option Nat → Int
  | none => -1
  | some e => e
theorem manyR_le {f : Nat → Nat → Option Nat × Nat} {n : Nat} (hf : ∀ p l e, p ≤ n → (f p l).1 = some e → p ≤ e ∧ e ≤ n) (least : Nat) (most : Option Nat) : ∀ (k count p l e : Nat), p ≤ n → (manyR f n least most k count p l).1 = some e → p ≤ e ∧ e ≤ n
  | 0, count, p, l, e, hp, h => by
    unfold manyR at h
    split at h
    · cases h; exact ⟨Nat.le_refl _, hp⟩
    · cases h
  | k + 1, count, p, l, e, hp, h => by
    unfold manyR at h
    simp only [] at h
    split at h
    · simp only [] at h
      split at h
      · cases h; exact ⟨Nat.le_refl _, hp⟩
      · cases h
    · split at h
      · simp only [] at h
        split at h
        · cases h; exact ⟨Nat.le_refl _, hp⟩
        · cases h
      · rename_i e' he'
        obtain ⟨a, b⟩ := hf p _ e' hp he'
        split at h
        · simp only [] at h
          split at h
          · cases h; exact ⟨Nat.le_refl _, hp⟩
          · cases h
        · obtain ⟨c, d⟩ := manyR_le hf least most k (count + 1) e' _ e b h
          exact ⟨Nat.le_trans a c, d⟩
theorem readP_le {T : List Nat} : ∀ (e : PE) (p l e' : Nat), p ≤ T.length → (readP T e p l).1 = some e' → p ≤ e' ∧ e' ≤ T.length
  | .word n w, p, l, e', hp, h => by
    simp only [readP] at h
    split at h
    · rename_i hh
      cases h
      have := congrArg List.length hh
      rw [List.length_take, List.length_drop] at this
      omega
    · cases h
  | .look n neg e, p, l, e', hp, h => by
    simp only [readP] at h
    split at h
    · cases h; exact ⟨Nat.le_refl _, hp⟩
    · cases h
  | .many n least most e, p, l, e', hp, h => manyR_le (fun p l e' hp h => readP_le e p l e' hp h) least most _ _ _ _ _ hp h
  | .choice n a b, p, l, e', hp, h => by
    simp only [readP] at h
    split at h
    · rename_i e1 h1
      cases h
      exact readP_le a p l _ hp h1
    · exact readP_le b p _ e' hp h
  | .chain n a b, p, l, e', hp, h => by
    simp only [readP] at h
    split at h
    · rename_i e1 h1
      obtain ⟨x, y⟩ := readP_le a p l e1 hp h1
      obtain ⟨u, v⟩ := readP_le b e1 _ e' y h
      exact ⟨Nat.le_trans x u, v⟩
    · cases h
def PE.ok : PE → Prop
  | .word _ w => w.length ≤ 2
  | .look _ _ e => e.ok
  | .many _ least _ e => least ≤ 2 ∧ e.ok
  | .choice _ a b => a.ok ∧ b.ok
  | .chain _ a b => a.ok ∧ b.ok
def PE.deep : PE → Nat
  | .word _ _ => 0
  | .look _ _ e => e.deep + 1
  | .many _ _ _ e => e.deep + 1
  | .choice _ a b => max a.deep b.deep + 1
  | .chain _ a b => max a.deep b.deep + 1
mutual
def Tree.deep : Tree → Nat
  | .nd _ _ _ cs => deeps cs + 1
def deeps : List Tree → Nat
  | [] => 0
  | t :: ts => max t.deep (deeps ts)
end
mutual
/-- no node has too many children -/
def Tree.fit : Tree → Prop
  | .nd _ _ _ cs => cs.length ≤ 5000 ∧ fits cs
def fits : List Tree → Prop
  | [] => True
  | t :: ts => t.fit ∧ fits ts
end
theorem deep_mem : ∀ {ts : List Tree} {t : Tree}, t ∈ ts → t.deep ≤ deeps ts
  | a :: ts, t, h => by
    rw [deeps]
    rcases List.mem_cons.mp h with rfl | h
    · exact Nat.le_max_left _ _
    · exact Nat.le_trans (deep_mem h) (Nat.le_max_right _ _)
theorem fit_mem : ∀ {ts : List Tree} {t : Tree}, fits ts → t ∈ ts → t.fit
  | a :: ts, t, hf, h => by
    rw [fits] at hf
    rcases List.mem_cons.mp h with rfl | h
    · exact hf.1
    · exact fit_mem hf.2 h
end Mine
namespace Mine
/-! what a run finds is own reading's, and so are its tables -/
def readE (T : List Nat) (e : PE) (p : Nat) : Option Nat := (readP T e p 0).1
theorem manyR_fst {f : Nat → Nat → Option Nat × Nat} {size least : Nat} {most : Option Nat} (hf : ∀ p l l', (f p l).1 = (f p l').1) : ∀ (k count p l l' : Nat), (manyR f size least most k count p l).1 = (manyR f size least most k count p l').1
  | 0, _, _, _, _ => rfl
  | k + 1, count, p, l, l' => by
    simp only [manyR]
    by_cases h1 : size ≤ p ∨ most = some count
    · rw [if_pos h1, if_pos h1]
    · rw [if_neg h1, if_neg h1]
      have h2 := hf p (max l (p + 1)) (max l' (p + 1))
      rw [← h2]
      cases h3 : (f p (max l (p + 1))).1 with
      | none => rfl
      | some e =>
        simp only []
        by_cases h4 : least ≤ count + 1 ∧ e = p
        · rw [if_pos h4, if_pos h4]
        · rw [if_neg h4, if_neg h4]; exact manyR_fst hf k _ _ _ _
theorem readP_fst {T : List Nat} : ∀ (e : PE) (p l l' : Nat), (readP T e p l).1 = (readP T e p l').1
  | .word _ _, _, _, _ => rfl
  | .look _ neg e, p, l, l' => by simp only [readP]; rw [readP_fst e p l l']
  | .many _ least most e, p, l, l' => manyR_fst (readP_fst e) _ _ _ _ _
  | .choice _ a b, p, l, l' => by
    simp only [readP]
    rw [readP_fst a p l l']
    cases (readP T a p l').1 with
    | none => exact readP_fst b p _ _
    | some e => rfl
  | .chain _ a b, p, l, l' => by
    simp only [readP]
    rw [readP_fst a p l l']
    cases (readP T a p l').1 with
    | none => rfl
    | some e => exact readP_fst b e _ _
theorem manyR_snd {f : Nat → Nat → Option Nat × Nat} {size least : Nat} {most : Option Nat} (hf : ∀ p l, l ≤ (f p l).2) (hg : ∀ p l e, (f p l).1 = some e → e ≤ (f p l).2) : ∀ (k count p l : Nat), l ≤ (manyR f size least most k count p l).2 ∧ (0 < k → p < (manyR f size least most k count p l).2) ∧ ∀ e, (manyR f size least most k count p l).1 = some e → p ≤ l ∨ 0 < k → e ≤ (manyR f size least most k count p l).2
  | 0, count, p, l => by
    refine ⟨Nat.le_refl _, fun h => by omega, fun e h h2 => ?_⟩
    simp only [manyR] at h ⊢
    split at h
    · cases h; omega
    · cases h
  | k + 1, count, p, l => by
    simp only [manyR]
    by_cases h1 : size ≤ p ∨ most = some count
    · rw [if_pos h1]
      refine ⟨by simp only []; omega, fun _ => by simp only []; omega, fun e h _ => ?_⟩
      simp only [] at h ⊢
      split at h
      · cases h; omega
      · cases h
    · rw [if_neg h1]
      have h2 := hf p (max l (p + 1))
      cases h3 : (f p (max l (p + 1))).1 with
      | none =>
        refine ⟨by simp only []; omega, fun _ => by simp only []; omega, fun e h _ => ?_⟩
        simp only [] at h ⊢
        split at h
        · cases h; omega
        · cases h
      | some e =>
        have h5 := hg p _ e h3
        simp only []
        by_cases h4 : least ≤ count + 1 ∧ e = p
        · rw [if_pos h4]
          refine ⟨by simp only []; omega, fun _ => by simp only []; omega, fun e h _ => ?_⟩
          simp only [] at h ⊢
          split at h
          · cases h; omega
          · cases h
        · rw [if_neg h4]
          obtain ⟨a, b, c⟩ := manyR_snd (size := size) (least := least) (most := most) hf hg k (count + 1) e (f p (max l (p + 1))).2
          exact ⟨by omega, fun _ => by omega, fun e' h' _ => c e' h' (.inl h5)⟩
theorem readP_snd {T : List Nat} : ∀ (e : PE) (p l : Nat), l ≤ (readP T e p l).2 ∧ p ≤ (readP T e p l).2 ∧ ∀ e', (readP T e p l).1 = some e' → e' ≤ (readP T e p l).2
  | .word _ w, p, l => by
    simp only [readP]
    refine ⟨by omega, by omega, fun e' h => ?_⟩
    split at h
    · cases h; omega
    · cases h
  | .look _ neg e, p, l => by
    obtain ⟨a, b, _⟩ := readP_snd (T := T) e p l
    simp only [readP]
    refine ⟨a, b, fun e' h => ?_⟩
    split at h
    · cases h; exact b
    · cases h
  | .many _ least most e, p, l => by
    obtain ⟨a, b, c⟩ := manyR_snd (size := T.length) (least := least) (most := most) (fun p l => (readP_snd (T := T) e p l).1) (fun p l e' h => (readP_snd e p l).2.2 e' h) (T.length + 4) 0 p l
    simp only [readP]
    exact ⟨a, Nat.le_of_lt (b (by omega)), fun e' h => c e' h (.inr (by omega))⟩
  | .choice _ a b, p, l => by
    obtain ⟨x, y, z⟩ := readP_snd (T := T) a p l
    simp only [readP]
    cases h : (readP T a p l).1 with
    | some e => simp only []; exact ⟨x, y, fun e' h' => z e' (by rw [h]; exact h')⟩
    | none =>
      obtain ⟨u, v, w⟩ := readP_snd (T := T) b p (readP T a p l).2
      simp only []
      exact ⟨by omega, v, w⟩
  | .chain _ a b, p, l => by
    obtain ⟨x, y, z⟩ := readP_snd (T := T) a p l
    simp only [readP]
    cases h : (readP T a p l).1 with
    | none => simp only []; exact ⟨x, y, fun e' h' => nomatch h'⟩
    | some e =>
      obtain ⟨u, v, w⟩ := readP_snd (T := T) b e (readP T a p l).2
      simp only []
      exact ⟨by omega, by omega, w⟩
def PInv (T : List Nat) (e : PE) (q : Nat) (r : Option Tree) : Prop := okE T.length q r ∧ r.map Tree.e = readE T e q ∧ ∀ t, r = some t → t.fit ∧ t.deep ≤ e.deep + 1
def tabOK (T : List Nat) (e : PE) (tab : Option Tab) : Prop := ∀ y ∈ tab.getD [], y.1 ≤ T.length ∧ PInv T e y.1 y.2
def AllT (T : List Nat) : PE → TT → Prop
  | .word n w, tt => tabOK T (.word n w) tt.tab
  | .look n neg e, tt => tabOK T (.look n neg e) tt.tab ∧ AllT T e tt.l
  | .many n least most e, tt => tabOK T (.many n least most e) tt.tab ∧ AllT T e tt.l
  | .choice n a b, tt => tabOK T (.choice n a b) tt.tab ∧ AllT T a tt.l ∧ AllT T b tt.r
  | .chain n a b, tt => tabOK T (.chain n a b) tt.tab ∧ AllT T a tt.l ∧ AllT T b tt.r
def AllK (T : List Nat) : PE → TT → Prop
  | .word .., _ => True
  | .look _ _ e, tt => AllT T e tt.l
  | .many _ _ _ e, tt => AllT T e tt.l
  | .choice _ a b, tt => AllT T a tt.l ∧ AllT T b tt.r
  | .chain _ a b, tt => AllT T a tt.l ∧ AllT T b tt.r
theorem allT_iff {T : List Nat} {e : PE} {tt : TT} : AllT T e tt ↔ tabOK T e tt.tab ∧ AllK T e tt := by cases e <;> simp [AllT, AllK]
theorem allT_nil {T : List Nat} : ∀ e : PE, AllT T e .nil
  | .word .. => fun _ h => nomatch h
  | .look _ _ e => ⟨fun _ h => (nomatch h), allT_nil e⟩
  | .many _ _ _ e => ⟨fun _ h => (nomatch h), allT_nil e⟩
  | .choice _ a b => ⟨fun _ h => (nomatch h), allT_nil a, allT_nil b⟩
  | .chain _ a b => ⟨fun _ h => (nomatch h), allT_nil a, allT_nil b⟩
theorem lookup_mem {p : Nat} {r : Option Tree} : ∀ {l : Tab}, l.lookup p = some r → (p, r) ∈ l
  | [], h => nomatch h
  | (a, b) :: l, h => by
    rw [List.lookup_cons] at h
    by_cases hq : (p == a) = true
    · rw [hq] at h; cases h; have := beq_iff_eq.mp hq; subst this; exact .head _
    · simp only [Bool.not_eq_true] at hq; rw [hq] at h; exact .tail _ (lookup_mem h)
theorem memo_inv {T : List Nat} {m : Nat} {u : Run} {e : PE} (hu : ∀ tt p err, p ≤ T.length → AllK T e tt → PInv T e p (u tt p err).1 ∧ AllK T e (u tt p err).2.1) (hK : ∀ t t' l r, AllK T e (.nd t l r) → AllK T e (.nd t' l r)) (hn : ∀ tt, AllK T e tt → AllK T e (.nd tt.tab tt.l tt.r))
    (tt : TT) (p : Nat) (err : Err) (hp : p ≤ T.length) (h : AllT T e tt) : PInv T e p (memo m u tt p err).1 ∧ AllT T e (memo m u tt p err).2.1 := by
  obtain ⟨h1, h2⟩ := allT_iff.mp h
  unfold memo
  cases hl : (tt.tab.getD []).lookup p with
  | some r => exact ⟨(h1 _ (lookup_mem hl)).2, allT_iff.mpr ⟨h1, hK _ _ _ _ (hn tt h2)⟩⟩
  | none =>
    obtain ⟨h3, h4⟩ := hu tt p err hp h2
    refine ⟨h3, allT_iff.mpr ⟨?_, hK _ _ _ _ (hn _ h4)⟩⟩
    intro y hy
    rcases List.mem_append.mp hy with hy | hy
    · exact h1 y hy
    · rw [List.mem_singleton.mp hy]; exact ⟨hp, h3⟩
theorem deeps_le {d : Nat} : ∀ {cs : List Tree}, (∀ t ∈ cs, t.deep ≤ d) → deeps cs ≤ d
  | [], _ => Nat.zero_le _
  | t :: ts, h => by rw [deeps]; exact Nat.max_le.mpr ⟨h t (.head _), deeps_le fun t ht => h t (.tail _ ht)⟩
theorem fits_of : ∀ {cs : List Tree}, (∀ t ∈ cs, t.fit) → fits cs
  | [], _ => trivial
  | t :: ts, h => ⟨h t (.head _), fits_of fun t ht => h t (.tail _ ht)⟩
/-- the loop of a quantifier: where it ends is own reading's -/
theorem manyGo_inv {T : List Nat} {e : PE} {f : Run} {least : Nat} {most : Option Nat} (hf : ∀ tt p err, p ≤ T.length → AllT T e tt → PInv T e p (f tt p err).1 ∧ AllT T e (f tt p err).2.1) :
    ∀ (k k2 : Nat) (tl : TT) (np l : Nat) (cs : List Tree) (err : Err), np ≤ T.length → AllT T e tl → (T.length - np) + (least - cs.length) < k → (T.length - np) + (least - cs.length) < k2 → (∀ m, most = some m → cs.length ≤ m) → (∀ t ∈ cs, t.fit ∧ t.deep ≤ e.deep + 1) →
    np ≤ (manyGo f T.length least most k tl np cs err).1 ∧ (manyGo f T.length least most k tl np cs err).1 ≤ T.length ∧ AllT T e (manyGo f T.length least most k tl np cs err).2.2.1 ∧ (manyGo f T.length least most k tl np cs err).2.1.length ≤ cs.length + k ∧ (∀ t ∈ (manyGo f T.length least most k tl np cs err).2.1, t.fit ∧ t.deep ≤ e.deep + 1) ∧
    (if least ≤ (manyGo f T.length least most k tl np cs err).2.1.length then some (manyGo f T.length least most k tl np cs err).1 else none) = (manyR (readP T e) T.length least most k2 cs.length np l).1
  | 0, _, _, _, _, _, _, _, _, h, _, _, _ => by omega
  | _ + 1, 0, _, _, _, _, _, _, _, _, h, _, _ => by omega
  | k + 1, k2 + 1, tl, np, l, cs, err, hp, h, hk, hk2, hm, hcs => by
    simp only [manyGo, manyR]
    have htest : (decide (np < T.length) && most.all fun m => decide (cs.length < m)) = true ↔ ¬ (T.length ≤ np ∨ most = some cs.length) := by
      rw [Bool.and_eq_true, decide_eq_true_eq, not_or, Nat.not_le]
      refine and_congr Iff.rfl ?_
      cases most with
      | none => simp
      | some m => have := hm m rfl; simp only [Option.all_some, decide_eq_true_eq, Option.some.injEq]; omega
    by_cases h1 : T.length ≤ np ∨ most = some cs.length
    · rw [if_neg (by rw [htest]; exact not_not_intro h1), if_pos h1]
      exact ⟨Nat.le_refl _, hp, h, Nat.le_add_right _ _, hcs, rfl⟩
    · rw [if_pos (htest.mpr h1), if_neg h1]
      rw [not_or, Nat.not_le] at h1
      obtain ⟨⟨a1, a2, a3⟩, a4⟩ := hf tl np err hp h
      have a5 : (readP T e np (max l (np + 1))).1 = (f tl np err).1.map Tree.e := by rw [a2, readE]; exact readP_fst _ _ _ _
      rw [a5]
      cases hr : (f tl np err).1 with
      | none => exact ⟨Nat.le_refl _, hp, a4, by simp only []; omega, hcs, rfl⟩
      | some t =>
        obtain ⟨b1, b2, b3⟩ := a1 t hr
        obtain ⟨b4, b5⟩ := a3 t hr
        have hcs' : ∀ t' ∈ cs ++ [t], t'.fit ∧ t'.deep ≤ e.deep + 1 := by
          intro t' ht'
          rcases List.mem_append.mp ht' with ht' | ht'
          · exact hcs t' ht'
          · rw [List.mem_singleton.mp ht']; exact ⟨b4, b5⟩
        simp only [Option.map_some]
        have hts : ((decide (least ≤ cs.length + 1) && (t.e - t.s == 0)) = true) ↔ (least ≤ cs.length + 1 ∧ t.e = np) := by
          rw [Bool.and_eq_true, decide_eq_true_eq, beq_iff_eq]
          refine and_congr Iff.rfl ?_
          omega
        by_cases h2 : least ≤ cs.length + 1 ∧ t.e = np
        · rw [if_pos (hts.mpr h2), if_pos h2]
          refine ⟨Nat.le_refl _, hp, a4, by simp only [List.length_append, List.length_cons, List.length_nil]; omega, hcs', ?_⟩
          simp only [List.length_append, List.length_cons, List.length_nil]
        · rw [if_neg (fun x => h2 (hts.mp x)), if_neg h2]
          have e1 : np + (t.e - t.s) = t.e := by omega
          rw [e1]
          have hl : (cs ++ [t]).length = cs.length + 1 := by simp
          have hmm : ∀ m, most = some m → cs.length + 1 ≤ m := fun m hm' => by
            have := hm m hm'
            have : cs.length ≠ m := fun h => h1.2 (by rw [hm', h])
            omega
          obtain ⟨c1, c2, c3, c4, c5, c6⟩ := manyGo_inv (least := least) (most := most) hf k k2 (f tl np err).2.1 t.e (readP T e np (max l (np + 1))).2 (cs ++ [t]) (f tl np err).2.2 b3 a4 (by rw [hl]; omega) (by rw [hl]; omega) (by rw [hl]; exact hmm) hcs'
          rw [hl] at c4 c6
          exact ⟨by omega, c2, c3, by omega, c5, c6⟩
theorem unc_inv {T : List Nat} {c : PE → Run} {e : PE} (hT : T.length ≤ 1000) (hok : e.ok) (hc : ∀ e', sizeOf e' < sizeOf e → e'.ok → ∀ tt p err, p ≤ T.length → AllT T e' tt → PInv T e' p (c e' tt p err).1 ∧ AllT T e' (c e' tt p err).2.1) (tt : TT) (p : Nat) (err : Err) (hp : p ≤ T.length) (h : AllK T e tt) :
    PInv T e p (unc T c e tt p err).1 ∧ AllK T e (unc T c e tt p err).2.1 := by
  have nil1 : ∀ {n s e' : Nat} {d : Nat}, (Tree.nd n s e' []).fit ∧ (Tree.nd n s e' []).deep ≤ d + 1 := by
    intro n s e' d
    simp [Tree.fit, fits, Tree.deep, deeps]
  cases e with
  | word n w =>
    refine ⟨?_, h⟩
    simp only [unc, uWord, PInv, readE, readP]
    have hh : hasAt T w p = true ↔ (T.drop p).take w.length = w := by
      simp only [hasAt, Bool.and_eq_true, decide_eq_true_eq, beq_iff_eq]
      exact ⟨fun h => h.2, fun h => ⟨hp, h⟩⟩
    by_cases h1 : (T.drop p).take w.length = w
    · rw [if_pos (hh.mpr h1), if_pos h1]
      have := congrArg List.length h1
      rw [List.length_take, List.length_drop] at this
      exact ⟨okE_some (by omega) (by omega), rfl, fun t ht => by cases ht; exact nil1⟩
    · rw [if_neg (fun x => h1 (hh.mp x)), if_neg h1]
      exact ⟨okE_none, rfl, fun t ht => nomatch ht⟩
  | look n neg e =>
    obtain ⟨⟨h1, h2, h3⟩, h4⟩ := hc e (by simp) hok tt.l p err hp h
    refine ⟨?_, h4⟩
    simp only [unc, uLook, PInv, readE, readP]
    rw [readE] at h2
    rw [← h2, Option.isNone_map]
    by_cases h5 : (c e tt.l p err).1.isNone = neg
    · rw [if_pos (by simpa using h5), if_pos h5]
      exact ⟨okE_some (Nat.le_refl _) hp, rfl, fun t ht => by cases ht; exact nil1⟩
    · rw [if_neg (by simpa using h5), if_neg h5]
      exact ⟨okE_none, rfl, fun t ht => nomatch ht⟩
  | many n least most e =>
    obtain ⟨c1, c2, c3, c4, c5, c6⟩ := manyGo_inv (least := least) (most := most) (hc e (by simp; omega) hok.2) (T.length + least + 1) (T.length + 4) tt.l p 0 [] err hp h (by simp; omega) (by have := hok.1; simp; omega) (fun m _ => by simp) (fun t ht => nomatch ht)
    refine ⟨?_, c3⟩
    simp only [unc, uMany, PInv, readE, readP]
    simp only [List.length_nil] at c6
    rw [← c6]
    by_cases h5 : least ≤ (manyGo (c e) T.length least most (T.length + least + 1) tt.l p [] err).2.1.length
    · rw [if_pos h5, if_pos h5]
      refine ⟨okE_some c1 c2, rfl, fun t ht => ?_⟩
      cases ht
      simp only [List.length_nil] at c4
      have := hok.1
      rw [Tree.fit, Tree.deep, PE.deep]
      exact ⟨⟨by omega, fits_of fun t ht => (c5 t ht).1⟩, by have := deeps_le fun t ht => (c5 t ht).2; omega⟩
    · rw [if_neg h5, if_neg h5]
      exact ⟨okE_none, rfl, fun t ht => nomatch ht⟩
  | choice n a b =>
    obtain ⟨g1, g2⟩ := h
    obtain ⟨⟨h1, h2, h3⟩, h4⟩ := hc a (by simp; omega) hok.1 tt.l p err hp g1
    obtain ⟨⟨k1, k2, k3⟩, k4⟩ := hc b (by simp; omega) hok.2 tt.r p (c a tt.l p err).2.2 hp g2
    simp only [unc, uChoice, PInv, readE, readP]
    rw [readE] at h2 k2
    rw [← h2]
    cases hr : (c a tt.l p err).1 with
    | some t =>
      obtain ⟨_, q1, q2⟩ := h1 t hr
      obtain ⟨f1, f2⟩ := h3 t hr
      refine ⟨⟨okE_some q1 q2, rfl, fun t' ht => ?_⟩, h4, g2⟩
      cases ht
      simp only [Tree.fit, fits, Tree.deep, deeps, PE.deep, List.length_cons, List.length_nil]
      exact ⟨⟨by omega, f1, trivial⟩, by omega⟩
    | none =>
      simp only [Option.map_none]
      rw [readP_fst b p _ 0, ← k2]
      cases hr2 : (c b tt.r p (c a tt.l p err).2.2).1 with
      | some t =>
        obtain ⟨_, q1, q2⟩ := k1 t hr2
        obtain ⟨f1, f2⟩ := k3 t hr2
        refine ⟨⟨okE_some q1 q2, rfl, fun t' ht => ?_⟩, h4, k4⟩
        cases ht
        simp only [Tree.fit, fits, Tree.deep, deeps, PE.deep, List.length_cons, List.length_nil]
        exact ⟨⟨by omega, f1, trivial⟩, by omega⟩
      | none => exact ⟨⟨okE_none, rfl, fun t ht => nomatch ht⟩, h4, k4⟩
  | chain n a b =>
    obtain ⟨g1, g2⟩ := h
    obtain ⟨⟨h1, h2, h3⟩, h4⟩ := hc a (by simp; omega) hok.1 tt.l p err hp g1
    simp only [unc, uChain, PInv, readE, readP]
    rw [readE] at h2
    rw [← h2]
    cases hr : (c a tt.l p err).1 with
    | none => exact ⟨⟨okE_none, rfl, fun t ht => nomatch ht⟩, h4, g2⟩
    | some t =>
      obtain ⟨q0, q1, q2⟩ := h1 t hr
      obtain ⟨f1, f2⟩ := h3 t hr
      have e1 : p + (t.e - t.s) = t.e := by omega
      obtain ⟨⟨k1, k2, k3⟩, k4⟩ := hc b (by simp; omega) hok.2 tt.r t.e (c a tt.l p err).2.2 (by omega) g2
      simp only [Option.map_some, e1]
      rw [readE] at k2
      rw [readP_fst b t.e _ 0, ← k2]
      cases hr2 : (c b tt.r t.e (c a tt.l p err).2.2).1 with
      | none => exact ⟨⟨okE_none, rfl, fun t ht => nomatch ht⟩, h4, k4⟩
      | some t2 =>
        obtain ⟨r0, r1, r2⟩ := k1 t2 hr2
        obtain ⟨f3, f4⟩ := k3 t2 hr2
        have e2 : t.e + (t2.e - t2.s) = t2.e := by omega
        simp only [e2]
        refine ⟨⟨okE_some (by omega) (by omega), rfl, fun t' ht => ?_⟩, h4, k4⟩
        cases ht
        simp only [Tree.fit, fits, Tree.deep, deeps, PE.deep, List.length_cons, List.length_nil]
        exact ⟨⟨by omega, f1, f3, trivial⟩, by omega⟩
theorem allK_tab {T : List Nat} {e : PE} : ∀ {t t' : Option Tab} {l r : TT}, AllK T e (.nd t l r) → AllK T e (.nd t' l r) := by
  intro t t' l r h; cases e <;> exact h
theorem allK_nd {T : List Nat} {e : PE} {tt : TT} (h : AllK T e tt) : AllK T e (.nd tt.tab tt.l tt.r) := by cases e <;> exact h
theorem core_inv {T : List Nat} (hT : T.length ≤ 1000) : ∀ (e : PE), e.ok → ∀ (tt : TT) (p : Nat) (err : Err), p ≤ T.length → AllT T e tt → PInv T e p (core T e tt p err).1 ∧ AllT T e (core T e tt p err).2.1
  | e, hok, tt, p, err, hp, h => by
    rw [core_memo]
    exact memo_inv (fun tt p err hp h => unc_inv hT hok (fun e' _ hok' tt p err hp h => core_inv hT e' hok' tt p err hp h) tt p err hp h) (fun _ _ _ _ => allK_tab) (fun _ => allK_nd) tt p err hp h
termination_by e => sizeOf e
/-- where nothing is found, something is kept -/
theorem core_kept {T : List Nat} {e : PE} {tt : TT} {p : Nat} {err : Err} (h : (core T e tt p err).1 = none) : (core T e tt p err).2.2 ≠ none := by
  have hp : ∀ n p err, post n p none err ≠ none := by
    intro n p err
    cases err with
    | none => simp [post]
    | some x =>
      unfold post
      by_cases h : ((none : Option Tree).isNone && (match some x with | none => true | some (_, q) => decide (q ≤ p))) = true
      · rw [if_pos h]; exact fun h => nomatch h
      · rw [if_neg h]; exact fun h => nomatch h
  rw [core_memo] at h ⊢
  unfold memo at h ⊢
  cases hl : (tt.tab.getD []).lookup p with
  | some r => rw [hl] at h; simp only [] at h ⊢; rw [h]; exact hp _ _ _
  | none => rw [hl] at h; simp only [] at h ⊢; rw [h]; exact hp _ _ _
end Mine
namespace Mine
/-! two texts that agree up to what is looked at: the run is the same, shifted -/
mutual
def Tree.sh (a : Nat) : Tree → Tree
  | .nd n s e cs => .nd n (s + a) (e + a) (shs a cs)
def shs (a : Nat) : List Tree → List Tree
  | [] => []
  | t :: ts => t.sh a :: shs a ts
end
theorem shs_append (a : Nat) : ∀ (x y : List Tree), shs a (x ++ y) = shs a x ++ shs a y
  | [], _ => rfl
  | t :: ts, y => by rw [List.cons_append, shs, shs, shs_append a ts y, List.cons_append]
theorem shs_length (a : Nat) : ∀ x : List Tree, (shs a x).length = x.length
  | [] => rfl
  | t :: ts => by rw [shs, List.length_cons, List.length_cons, shs_length a ts]
theorem sh_s (a : Nat) (t : Tree) : (t.sh a).s = t.s + a := by cases t; rfl
theorem sh_e (a : Nat) (t : Tree) : (t.sh a).e = t.e + a := by cases t; rfl
abbrev resSh (a : Nat) (r : Option Tree) : Option Tree := r.map (Tree.sh a)
def tabSh (a : Nat) (l : Tab) : Tab := l.map fun y => (y.1 + a, resSh a y.2)
def TT.sh (a : Nat) : TT → TT
  | .nil => .nil
  | .nd t l r => .nd (t.map (tabSh a)) (l.sh a) (r.sh a)
def errSh (a : Nat) (x : Err) : Err := x.map fun y => (y.1, y.2 + a)
def outSh (a : Nat) (o : Out) : Out := (resSh a o.1, o.2.1.sh a, errSh a o.2.2)
theorem tt_tab (a : Nat) (tt : TT) : (tt.sh a).tab = tt.tab.map (tabSh a) := by cases tt <;> rfl
theorem tt_l (a : Nat) (tt : TT) : (tt.sh a).l = tt.l.sh a := by cases tt <;> rfl
theorem tt_r (a : Nat) (tt : TT) : (tt.sh a).r = tt.r.sh a := by cases tt <;> rfl
theorem tab_getD (a : Nat) (t : Option Tab) : (t.map (tabSh a)).getD [] = tabSh a (t.getD []) := by cases t <;> rfl
theorem tab_lookup (a p : Nat) : ∀ l : Tab, (tabSh a l).lookup (p + a) = (l.lookup p).map (resSh a)
  | [] => rfl
  | (q, r) :: l => by
    show List.lookup (p + a) ((q + a, resSh a r) :: tabSh a l) = _
    rw [List.lookup_cons, List.lookup_cons]
    by_cases h : p = q
    · subst h; simp
    · have h1 : (p == q) = false := by simpa using h
      have h2 : (p + a == q + a) = false := by simp; omega
      rw [h1, h2]; exact tab_lookup a p l
theorem post_sh (a n p : Nat) (r : Option Tree) (err : Err) : post n (p + a) (resSh a r) (errSh a err) = errSh a (post n p r err) := by
  cases r with
  | some t => cases err <;> rfl
  | none =>
    cases err with
    | none => rfl
    | some x =>
      obtain ⟨m, q⟩ := x
      show (if (true && decide (q + a ≤ p + a)) = true then some (n, p + a) else some (m, q + a)) = errSh a (if (true && decide (q ≤ p)) = true then some (n, p) else some (m, q))
      by_cases h : q ≤ p
      · rw [if_pos (by simpa using h), if_pos (by simpa using h)]; rfl
      · rw [if_neg (by simpa using h), if_neg (by simpa using h)]; rfl
section
variable {T T' : List Nat} {a K : Nat}
theorem memo_sim {n p : Nat} {u u' : Run} {tt : TT} {err : Err} (h : tt.tab.getD [] |>.lookup p |>.isNone → u (tt.sh a) (p + a) (errSh a err) = outSh a (u' tt p err)) : memo n u (tt.sh a) (p + a) (errSh a err) = outSh a (memo n u' tt p err) := by
  unfold memo
  rw [tt_tab, tab_getD, tab_lookup]
  cases hl : (tt.tab.getD []).lookup p with
  | some r =>
    simp only [Option.map_some]
    rw [tt_l, tt_r, post_sh]; rfl
  | none =>
    simp only [Option.map_none]
    rw [h (by rw [hl]; rfl)]
    simp only [outSh]
    rw [tt_l, tt_r, post_sh]
    have e : tabSh a (tt.tab.getD []) ++ [(p + a, resSh a (u' tt p err).1)] = tabSh a (tt.tab.getD [] ++ [(p, (u' tt p err).1)]) := by rw [tabSh, tabSh, List.map_append]; rfl
    rw [e]; rfl
theorem agree_drop (hA : ∀ i, i < K → T[a + i]? = T'[i]?) (p m : Nat) (h : p + m ≤ K) : (T.drop (p + a)).take m = (T'.drop p).take m := by
  apply List.ext_getElem?
  intro i
  rw [List.getElem?_take, List.getElem?_take]
  by_cases hi : i < m
  · rw [if_pos hi, if_pos hi, List.getElem?_drop, List.getElem?_drop, ← hA (p + i) (by omega)]
    congr 1; omega
  · rw [if_neg hi, if_neg hi]
theorem reach (hA : ∀ i, i < K → T[a + i]? = T'[i]?) (ha : a ≤ T.length) {q : Nat} (h1 : q ≤ K) (h2 : q ≤ T'.length) : q + a ≤ T.length := by
  cases q with
  | zero => omega
  | succ q =>
    have h := hA q (by omega)
    rw [List.getElem?_eq_getElem (show q < T'.length by omega)] at h
    have := (List.getElem?_eq_some_iff.mp h).1
    omega
theorem less (hA : ∀ i, i < K → T[a + i]? = T'[i]?) {q : Nat} (h1 : q < K) : q + a < T.length ↔ q < T'.length := by
  have h := hA q h1
  by_cases h2 : q < T'.length
  · rw [List.getElem?_eq_getElem h2] at h
    have := (List.getElem?_eq_some_iff.mp h).1
    exact ⟨fun _ => h2, fun _ => by omega⟩
  · rw [List.getElem?_eq_none (by omega : T'.length ≤ q)] at h
    have := List.getElem?_eq_none_iff.mp h
    exact ⟨fun _ => by omega, fun h => absurd h h2⟩
theorem manyGo_sim {e : PE} {f f' : Run} {least : Nat} {most : Option Nat} (hA : ∀ i, i < K → T[a + i]? = T'[i]?) (hI : ∀ tt p err, p ≤ T'.length → AllT T' e tt → PInv T' e p (f' tt p err).1 ∧ AllT T' e (f' tt p err).2.1)
    (hf : ∀ tt p l err, p ≤ T'.length → AllT T' e tt → (readP T' e p l).2 ≤ K → f (tt.sh a) (p + a) (errSh a err) = outSh a (f' tt p err)) :
    ∀ (k k' k2 : Nat) (tl : TT) (np l : Nat) (cs : List Tree) (err : Err), np ≤ T'.length → AllT T' e tl → (T.length - (np + a)) + (least - cs.length) < k → (T'.length - np) + (least - cs.length) < k' → (T'.length - np) + (least - cs.length) < k2 → (∀ m, most = some m → cs.length ≤ m) →
      (manyR (readP T' e) T'.length least most k2 cs.length np l).2 ≤ K →
      manyGo f T.length least most k (tl.sh a) (np + a) (shs a cs) (errSh a err) = ((manyGo f' T'.length least most k' tl np cs err).1 + a, shs a (manyGo f' T'.length least most k' tl np cs err).2.1, (manyGo f' T'.length least most k' tl np cs err).2.2.1.sh a, errSh a (manyGo f' T'.length least most k' tl np cs err).2.2.2)
  | 0, _, _, _, _, _, _, _, _, _, h, _, _, _, _ => by omega
  | _ + 1, 0, _, _, _, _, _, _, _, _, _, h, _, _, _ => by omega
  | _ + 1, _ + 1, 0, _, _, _, _, _, _, _, _, _, h, _, _ => by omega
  | k + 1, k' + 1, k2 + 1, tl, np, l, cs, err, hp, h, hk, hk', hk2, hm, hK => by
    have hK1 : max l (np + 1) ≤ (manyR (readP T' e) T'.length least most (k2 + 1) cs.length np l).2 := by
      obtain ⟨x, y, z⟩ := manyR_snd (size := T'.length) (least := least) (most := most) (fun p l => (readP_snd (T := T') e p l).1) (fun p l e' h => (readP_snd e p l).2.2 e' h) (k2 + 1) cs.length np l
      have := y (by omega)
      omega
    have hlt := less (q := np) hA (by omega)
    simp only [manyR] at hK
    simp only [manyGo]
    rw [shs_length]
    have htest : (decide (np < T'.length) && most.all fun m => decide (cs.length < m)) = true ↔ ¬ (T'.length ≤ np ∨ most = some cs.length) := by
      rw [Bool.and_eq_true, decide_eq_true_eq, not_or, Nat.not_le]
      refine and_congr Iff.rfl ?_
      cases most with
      | none => simp
      | some m => have := hm m rfl; simp only [Option.all_some, decide_eq_true_eq, Option.some.injEq]; omega
    have hdec : decide (np + a < T.length) = decide (np < T'.length) := decide_eq_decide.mpr hlt
    rw [hdec]
    by_cases h1 : T'.length ≤ np ∨ most = some cs.length
    · rw [if_neg (by rw [htest]; exact not_not_intro h1), if_neg (by rw [htest]; exact not_not_intro h1)]
    · rw [if_neg h1] at hK
      rw [if_pos (htest.mpr h1), if_pos (htest.mpr h1)]
      rw [not_or, Nat.not_le] at h1
      have hK2 : (readP T' e np (max l (np + 1))).2 ≤ K := by
        revert hK
        cases hr : (readP T' e np (max l (np + 1))).1 with
        | none => exact fun h => h
        | some e1 =>
          simp only []
          split
          · exact fun h => h
          · intro h
            refine Nat.le_trans ?_ h
            exact (manyR_snd (size := T'.length) (least := least) (most := most) (fun p l => (readP_snd (T := T') e p l).1) (fun p l e' h => (readP_snd e p l).2.2 e' h) k2 _ _ _).1
      rw [hf tl np _ err hp h hK2]
      obtain ⟨⟨a1, a2, a3⟩, a4⟩ := hI tl np err hp h
      have a5 : (readP T' e np (max l (np + 1))).1 = (f' tl np err).1.map Tree.e := by rw [a2, readE]; exact readP_fst _ _ _ _
      rw [a5] at hK
      simp only [outSh]
      cases hr : (f' tl np err).1 with
      | none => rfl
      | some t =>
        rw [hr] at hK
        obtain ⟨b1, b2, b3⟩ := a1 t hr
        simp only [Option.map_some] at hK ⊢
        have e0 : (t.sh a).e - (t.sh a).s = t.e - t.s := by rw [sh_e, sh_s]; omega
        rw [e0]
        have e2 : shs a cs ++ [t.sh a] = shs a (cs ++ [t]) := by rw [shs_append]; rfl
        rw [e2]
        by_cases h2 : (decide (least ≤ cs.length + 1) && (t.e - t.s == 0)) = true
        · rw [if_pos h2, if_pos h2]
        · rw [if_neg h2, if_neg h2]
          have h3 : ¬ (least ≤ cs.length + 1 ∧ t.e = np) := by
            intro h3
            apply h2
            rw [Bool.and_eq_true, decide_eq_true_eq, beq_iff_eq]
            omega
          rw [if_neg h3] at hK
          have e1 : np + (t.e - t.s) = t.e := by omega
          have e3 : np + a + (t.e - t.s) = t.e + a := by omega
          rw [e1, e3]
          have hl : (cs ++ [t]).length = cs.length + 1 := by simp
          have hmm : ∀ m, most = some m → cs.length + 1 ≤ m := fun m hm' => by
            have := hm m hm'
            have : cs.length ≠ m := fun h => h1.2 (by rw [hm', h])
            omega
          have := hlt.mpr h1.1
          exact manyGo_sim hA hI hf k k' k2 (f' tl np err).2.1 t.e _ (cs ++ [t]) (f' tl np err).2.2 b3 a4 (by rw [hl]; omega) (by rw [hl]; omega) (by rw [hl]; omega) (by rw [hl]; exact hmm) (by rw [hl]; exact hK)
theorem unc_sim {c c' : PE → Run} {e : PE} (hA : ∀ i, i < K → T[a + i]? = T'[i]?) (ha : a ≤ T.length) (hok : e.ok)
    (hI : ∀ e', sizeOf e' < sizeOf e → e'.ok → ∀ tt p err, p ≤ T'.length → AllT T' e' tt → PInv T' e' p (c' e' tt p err).1 ∧ AllT T' e' (c' e' tt p err).2.1)
    (hc : ∀ e', sizeOf e' < sizeOf e → e'.ok → ∀ tt p l err, p ≤ T'.length → AllT T' e' tt → (readP T' e' p l).2 ≤ K → c e' (tt.sh a) (p + a) (errSh a err) = outSh a (c' e' tt p err))
    (tt : TT) (p l : Nat) (err : Err) (hp : p ≤ T'.length) (h : AllK T' e tt) (hK : (readP T' e p l).2 ≤ K) : unc T c e (tt.sh a) (p + a) (errSh a err) = outSh a (unc T' c' e tt p err) := by
  have hpK := (readP_snd (T := T') e p l).2.1
  have hpa : p + a ≤ T.length := reach hA ha (by omega) hp
  cases e with
  | word n w =>
    simp only [readP] at hK
    simp only [unc, uWord]
    have e1 : hasAt T w (p + a) = hasAt T' w p := by
      unfold hasAt
      rw [agree_drop hA p w.length (by omega), decide_eq_true hp, decide_eq_true hpa]
    rw [e1]
    unfold outSh
    simp only [Prod.mk.injEq, and_true]
    split
    · simp [Tree.sh, shs]; omega
    · rfl
  | look n neg e =>
    simp only [readP] at hK
    simp only [unc, uLook]
    rw [tt_l, tt_r, tt_tab, hc e (by simp) hok tt.l p l err hp h hK]
    simp only [outSh, Option.isNone_map, TT.sh, Prod.mk.injEq, and_true]
    split <;> rfl
  | many n least most e =>
    simp only [readP] at hK
    simp only [unc, uMany]
    have := hok.1
    have := manyGo_sim (least := least) (most := most) hA (hI e (by simp; omega) hok.2) (hc e (by simp; omega) hok.2) (T.length + least + 1) (T'.length + least + 1) (T'.length + 4) tt.l p l [] err hp h (by simp; omega) (by simp; omega) (by simp; omega) (fun m _ => by simp) hK
    rw [shs] at this
    rw [tt_l, tt_r, tt_tab, this]
    simp only [shs_length, outSh, TT.sh, Prod.mk.injEq, and_true]
    split <;> rfl
  | choice n x y =>
    obtain ⟨g1, g2⟩ := h
    simp only [readP] at hK
    obtain ⟨⟨h1, h2, h3⟩, h4⟩ := hI x (by simp; omega) hok.1 tt.l p err hp g1
    have h5 : (readP T' x p l).1 = (c' x tt.l p err).1.map Tree.e := by rw [h2, readE]; exact readP_fst _ _ _ _
    rw [h5] at hK
    simp only [unc, uChoice]
    have hK1 : (readP T' x p l).2 ≤ K := by
      cases hr : (c' x tt.l p err).1 with
      | some t => rw [hr] at hK; exact hK
      | none => rw [hr] at hK; exact Nat.le_trans (readP_snd y p _).1 hK
    rw [tt_l, tt_r, tt_tab, hc x (by simp; omega) hok.1 tt.l p l err hp g1 hK1]
    simp only [outSh]
    cases hr : (c' x tt.l p err).1 with
    | some t => simp only [Option.map_some, sh_e, Tree.sh, shs, TT.sh]
    | none =>
      rw [hr] at hK
      simp only [Option.map_none] at hK ⊢
      rw [hc y (by simp; omega) hok.2 tt.r p _ _ hp g2 hK]
      simp only [outSh]
      cases hr2 : (c' y tt.r p (c' x tt.l p err).2.2).1 with
      | some t => simp only [Option.map_some, sh_e, Tree.sh, shs, TT.sh]
      | none => simp only [Option.map_none, TT.sh]
  | chain n x y =>
    obtain ⟨g1, g2⟩ := h
    simp only [readP] at hK
    obtain ⟨⟨h1, h2, h3⟩, h4⟩ := hI x (by simp; omega) hok.1 tt.l p err hp g1
    have h5 : (readP T' x p l).1 = (c' x tt.l p err).1.map Tree.e := by rw [h2, readE]; exact readP_fst _ _ _ _
    rw [h5] at hK
    simp only [unc, uChain]
    have hK1 : (readP T' x p l).2 ≤ K := by
      cases hr : (c' x tt.l p err).1 with
      | none => rw [hr] at hK; exact hK
      | some t => rw [hr] at hK; exact Nat.le_trans (readP_snd y _ _).1 hK
    rw [tt_l, tt_r, tt_tab, hc x (by simp; omega) hok.1 tt.l p l err hp g1 hK1]
    simp only [outSh]
    cases hr : (c' x tt.l p err).1 with
    | none => simp only [Option.map_none, TT.sh]
    | some t =>
      obtain ⟨q0, q1, q2⟩ := h1 t hr
      rw [hr] at hK
      simp only [Option.map_some] at hK ⊢
      have e1 : p + (t.e - t.s) = t.e := by omega
      have e2 : p + a + ((t.sh a).e - (t.sh a).s) = t.e + a := by rw [sh_e, sh_s]; omega
      rw [e1, e2, hc y (by simp; omega) hok.2 tt.r t.e _ _ (by omega) g2 hK]
      simp only [outSh]
      obtain ⟨⟨k1, k2, k3⟩, k4⟩ := hI y (by simp; omega) hok.2 tt.r t.e (c' x tt.l p err).2.2 (by omega) g2
      cases hr2 : (c' y tt.r t.e (c' x tt.l p err).2.2).1 with
      | none => simp only [Option.map_none, TT.sh]
      | some t2 =>
        obtain ⟨r0, r1, r2⟩ := k1 t2 hr2
        have e3 : t.e + a + ((t2.sh a).e - (t2.sh a).s) = t.e + (t2.e - t2.s) + a := by rw [sh_e, sh_s]; omega
        simp only [Option.map_some, Tree.sh, shs, TT.sh, e3]
theorem core_sim (hT' : T'.length ≤ 1000) (hA : ∀ i, i < K → T[a + i]? = T'[i]?) (ha : a ≤ T.length) : ∀ (e : PE), e.ok → ∀ (tt : TT) (p l : Nat) (err : Err), p ≤ T'.length → AllT T' e tt → (readP T' e p l).2 ≤ K → core T e (tt.sh a) (p + a) (errSh a err) = outSh a (core T' e tt p err)
  | e, hok, tt, p, l, err, hp, h, hK => by
    rw [core_memo, core_memo]
    refine memo_sim fun _ => ?_
    exact unc_sim hA ha hok (fun e' _ hok' tt p err hp h => core_inv hT' e' hok' tt p err hp h) (fun e' _ hok' tt p l err hp h hK => core_sim hT' hA ha e' hok' tt p l err hp h hK) tt p l err hp (allT_iff.mp h).2 hK
termination_by e => sizeOf e
end
end Mine
namespace Mine
def letter (d : Nat) : Nat := 97 + d
/-- the letters that the script tells -/
def letters (ns : List Int) (used n : Nat) : List Nat := (List.range n).map fun k => letter (draw ns (used + k) 2)
theorem letters_len (ns : List Int) (used n : Nat) : (letters ns used n).length = n := by simp [letters]
theorem letters_succ (ns : List Int) (used n : Nat) : letters ns used (n + 1) = letters ns used n ++ [letter (draw ns (used + n) 2)] := by
  simp [letters, List.range_succ]
theorem join_ones1 : ∀ l : List Nat, PySem.Str.join (PySem.Str.ofString "") (l.map fun x => (⟨#[x]⟩ : Str)) = ⟨l.toArray⟩
  | [] => rfl
  | [x] => rfl
  | x :: y :: r => by
    have h := join_ones1 (y :: r)
    rw [List.map_cons, List.map_cons, PySem.Str.join, ← List.map_cons (f := fun x => (⟨#[x]⟩ : Str)), h]
    · show (⟨(#[x] ++ #[]) ++ (y :: r).toArray⟩ : Str) = ⟨(x :: y :: r).toArray⟩
      simp
    · simp
theorem join_letters (l : List Nat) : Txt.join (PySem.Str.ofString "") (l.map fun x => (⟨#[x]⟩ : Str)) = ⟨l.toArray⟩ := by
  show (Builtin.Str.glued (PySem.Str.ofString "") _) = _
  rw [StrLaws.glued_eq_join]
  exact join_ones1 l
theorem strs_snoc {y : Str} {t : Tok} : ∀ {vs : List Value} {ys : List Str}, StrsAre vs ys → StrsAre (vs ++ [.str y t]) (ys ++ [y])
  | _, _, .nil => .cons y t .nil
  | _, _, .cons z u r => .cons z u (strs_snoc r)
end Mine
namespace Mine
abbrev PR := Challenge.rw_vj0019_01.row.prog
abbrev Led := List (Addr × Obj)
/-- an expression where it lies: its address, its dict, its members' tuple -/
inductive Ex where
  | word (x dx : Addr) (n : Nat) (wd : Str)
  | look (x dx mem : Addr) (n : Nat) (neg : Bool) (e : Ex)
  | many (x dx mem : Addr) (n least : Nat) (most : Option Nat) (e : Ex)
  | choice (x dx mem : Addr) (n : Nat) (a b : Ex)
  | chain (x dx mem : Addr) (n : Nat) (a b : Ex)
namespace Ex
def x : Ex → Addr | .word x .. => x | .look x .. => x | .many x .. => x | .choice x .. => x | .chain x .. => x
def dx : Ex → Addr | .word _ d .. => d | .look _ d .. => d | .many _ d .. => d | .choice _ d .. => d | .chain _ d .. => d
def n : Ex → Nat | .word _ _ n _ => n | .look _ _ _ n .. => n | .many _ _ _ n .. => n | .choice _ _ _ n .. => n | .chain _ _ _ n .. => n
def cls : Ex → Addr | .word .. => 336 | .look .. => 458 | .many .. => 497 | .choice .. => 420 | .chain .. => 394
def fU : Ex → Addr | .word .. => 325 | .look .. => 447 | .many .. => 486 | .choice .. => 410 | .chain .. => 384
def pe : Ex → PE
  | .word _ _ n wd => .word n wd.cps.toList
  | .look _ _ _ n neg e => .look n neg e.pe
  | .many _ _ _ n least most e => .many n least most e.pe
  | .choice _ _ _ n a b => .choice n a.pe b.pe
  | .chain _ _ _ n a b => .chain n a.pe b.pe
def deep : Ex → Nat | .word .. => 0 | .look _ _ _ _ _ e => e.deep + 1 | .many _ _ _ _ _ _ e => e.deep + 1 | .choice _ _ _ _ a b => max a.deep b.deep + 1 | .chain _ _ _ _ a b => max a.deep b.deep + 1
end Ex
/-- the name 'e' + str(n) -/
def nmS (n : Nat) : Str := Str.ofString "e" ++ Str.ofString (toString ((n : Nat) : Int))
def maxV (most : Option Nat) (v : Value) : Prop := match most with
  | some k => ∃ t, v = .int k t
  | none => ∃ t, v = .float (Float64.inf false) t
/-- where the name lies among the slots -/
def nmIx (C : Nat) : Nat := if C = 458 then 3 else if C = 497 then 4 else 2
/-- an expression's own object is of the ledger, its name in its slot -/
def Own (I : Led) (x dx C n : Nat) (sl : Array (Option Value)) : Prop := (x, (⟨.ref C, some dx, .plain, sl⟩ : Obj)) ∈ I ∧ ∃ t, (sl[nmIx C]?).join = some (.str (nmS n) t)
def ExIn (I : Led) : Ex → Prop
  | .word x dx n wd => ∃ idt t1 t2, (x, (⟨.ref 336, some dx, .plain, #[some (.str wd t2), some (.ref idt), some (.str (nmS n) t1)]⟩ : Obj)) ∈ I ∧ wd.cps.size ≤ 2 ∧ n ≤ 100
  | .look x dx mem n neg e => (∃ idt t1, (x, (⟨.ref 458, some dx, .plain, #[some (.bool neg), some (.ref mem), some (.ref idt), some (.str (nmS n) t1)]⟩ : Obj)) ∈ I) ∧ (mem, tupObj [.ref e.x]) ∈ I ∧ ExIn I e ∧ n ≤ 100
  | .many x dx mem n least most e => (∃ idt t1 t2 v, (x, (⟨.ref 497, some dx, .plain, #[some v, some (.int least t2), some (.ref mem), some (.ref idt), some (.str (nmS n) t1)]⟩ : Obj)) ∈ I ∧ maxV most v) ∧ (mem, tupObj [.ref e.x]) ∈ I ∧ ExIn I e ∧ least ≤ 2 ∧ n ≤ 100
  | .choice x dx mem n a b => (∃ idt t1, (x, (⟨.ref 420, some dx, .plain, #[some (.ref mem), some (.ref idt), some (.str (nmS n) t1)]⟩ : Obj)) ∈ I) ∧ (mem, tupObj [.ref a.x, .ref b.x]) ∈ I ∧ ExIn I a ∧ ExIn I b ∧ n ≤ 100
  | .chain x dx mem n a b => (∃ idt t1, (x, (⟨.ref 394, some dx, .plain, #[some (.ref mem), some (.ref idt), some (.str (nmS n) t1)]⟩ : Obj)) ∈ I) ∧ (mem, tupObj [.ref a.x, .ref b.x]) ∈ I ∧ ExIn I a ∧ ExIn I b ∧ n ≤ 100
/-- something of the ledger is an expression's object of the name n -/
def Named (I : Led) (x n : Nat) : Prop := ∃ C dx sl, (C = 336 ∨ C = 394 ∨ C = 420 ∨ C = 458 ∨ C = 497) ∧ Own I x dx C n sl
mutual
/-- a node of the tree, where it lies -/
inductive NodeIn (I : Led) (T : Str) : Value → Tree → Prop where
  | mk {a d cl x n s e ep ts te tT} {vs : List Value} {cs : List Tree} : (a, (⟨.ref 212, some d, .plain, #[some (.ref cl), some (.int (e : Nat) te), some (.ref x), some (.str T tT), some (.int (s : Nat) ts)]⟩ : Obj)) ∈ I → Named I x n →
      (cl, ({ cls := .type "list", data := .seq vs.toArray ep } : Obj)) ∈ I → NodesIn I T vs cs → NodeIn I T (.ref a) (.nd n s e cs)
inductive NodesIn (I : Led) (T : Str) : List Value → List Tree → Prop where
  | nil : NodesIn I T [] []
  | cons {v t vs ts} : NodeIn I T v t → NodesIn I T vs ts → NodesIn I T (v :: vs) (t :: ts)
end
def ResIn (I : Led) (T : Str) (v : Value) : Option Tree → Prop
  | none => v = .none
  | some t => NodeIn I T v t
def rowsK (rs : List Addr) : List (Int × Value) := rs.mapIdx fun i r => ((i : Int), Value.ref r)
def CacheObj (w : World) (o : Obj) (rs : List Addr) : Prop := o.IsDictOf (intKind PR w) (rowsK rs)
def rowK (es : List (Nat × Value)) : List (Int × Value) := es.map fun x => ((x.1 : Int), x.2)
/-- a row of the cache: what was found where -/
def RowObj (w : World) (I : Led) (T : Str) (o : Obj) (tab : Tab) : Prop := ∃ es : List (Nat × Value), o.IsDictOf (intKind PR w) (rowK es) ∧ es.length = tab.length ∧ (∀ y ∈ tab, y.1 ≤ T.cps.size ∧ okE T.cps.size y.1 y.2) ∧ ∀ (i : Nat) (x : Nat × Value) (y : Nat × Option Tree), es[i]? = some x → tab[i]? = some y → x.1 = y.1 ∧ ResIn I T x.2 y.2
/-- the pairs of oids -/
def OidsIn (I : Led) (tt : Addr) (l : List (Nat × Addr)) : Prop := ∃ ps : List Addr, (tt, tupObj (ps.map .ref)) ∈ I ∧ ps.length = l.length ∧ ∀ i (h : i < l.length) (h' : i < ps.length), ∃ tk, (ps[i], tupObj [.int (l[i].1 : Nat) tk, .ref l[i].2]) ∈ I
/-- an expression's dict: its oids -/
def OidsObj (I : Led) (o : Obj) (l : List (Nat × Addr)) : Prop :=
  (l = [] ∧ ∃ k, o = dictOf [] k) ∨ (l ≠ [] ∧ ∃ k hs t tt, o = dictOf [⟨hs, .str (Str.ofString "oids") t, .ref tt⟩] k ∧ OidsIn I tt l)
/-- one expression's own cells: its dict, and its row of the cache if it has asked -/
def NodeCells (w : World) (I : Led) (T : Str) (ol rs : List Addr) (dx : Addr) (tab : Option Tab) (l : Led) : Prop :=
  match tab with
  | none => ∃ od old, l = [(dx, od)] ∧ OidsObj I od old ∧ (∀ q ∈ old, q.2 ∈ ol) ∧ old.length ≤ ol.length ∧ ol.length ≤ 8000
  | some tab => ∃ od k r ro old, l = [(dx, od), (r, ro)] ∧ OidsObj I od ((k, r) :: old) ∧ rs[k]? = some r ∧ RowObj w I T ro tab ∧ (r == sysModules) = false ∧ old.length ≤ ol.length ∧ ol.length ≤ 8000 ∧ ∀ q ∈ old, q.2 ∈ ol
def Cells (w : World) (I : Led) (T : Str) (ol rs : List Addr) : Ex → TT → Led → Prop
  | .word _ dx _ _, tt, l => NodeCells w I T ol rs dx tt.tab l
  | .look _ dx _ _ _ e, tt, l => ∃ l1 l2, l = l1 ++ l2 ∧ NodeCells w I T ol rs dx tt.tab l1 ∧ Cells w I T ol rs e tt.l l2
  | .many _ dx _ _ _ _ e, tt, l => ∃ l1 l2, l = l1 ++ l2 ∧ NodeCells w I T ol rs dx tt.tab l1 ∧ Cells w I T ol rs e tt.l l2
  | .choice _ dx _ _ a b, tt, l => ∃ l1 l2 l3, l = l1 ++ (l2 ++ l3) ∧ NodeCells w I T ol rs dx tt.tab l1 ∧ Cells w I T ol rs a tt.l l2 ∧ Cells w I T ol rs b tt.r l3
  | .chain _ dx _ _ a b, tt, l => ∃ l1 l2 l3, l = l1 ++ (l2 ++ l3) ∧ NodeCells w I T ol rs dx tt.tab l1 ∧ Cells w I T ol rs a tt.l l2 ∧ Cells w I T ol rs b tt.r l3
/-- the children's cells -/
def Kids (w : World) (I : Led) (T : Str) (ol rs : List Addr) : Ex → TT → Led → Prop
  | .word .., _, l => l = []
  | .look _ _ _ _ _ e, tt, l => Cells w I T ol rs e tt.l l
  | .many _ _ _ _ _ _ e, tt, l => Cells w I T ol rs e tt.l l
  | .choice _ _ _ _ a b, tt, l => ∃ l2 l3, l = l2 ++ l3 ∧ Cells w I T ol rs a tt.l l2 ∧ Cells w I T ol rs b tt.r l3
  | .chain _ _ _ _ a b, tt, l => ∃ l2 l3, l = l2 ++ l3 ∧ Cells w I T ol rs a tt.l l2 ∧ Cells w I T ol rs b tt.r l3
theorem cells_split {w : World} {I : Led} {T : Str} {ol rs : List Addr} {e : Ex} {tt : TT} {l : Led} : Cells w I T ol rs e tt l ↔ ∃ l1 l2, l = l1 ++ l2 ∧ NodeCells w I T ol rs e.dx tt.tab l1 ∧ Kids w I T ol rs e tt l2 := by
  cases e with
  | word => simp [Cells, Kids, Ex.dx]
  | look => simp [Cells, Kids, Ex.dx]
  | many => simp [Cells, Kids, Ex.dx]
  | choice =>
    simp only [Cells, Kids, Ex.dx]
    exact ⟨fun ⟨l1, l2, l3, h, a, b, c⟩ => ⟨l1, l2 ++ l3, h, a, l2, l3, rfl, b, c⟩, fun ⟨l1, l, h, a, l2, l3, h', b, c⟩ => ⟨l1, l2, l3, by rw [h, h'], a, b, c⟩⟩
  | chain =>
    simp only [Cells, Kids, Ex.dx]
    exact ⟨fun ⟨l1, l2, l3, h, a, b, c⟩ => ⟨l1, l2 ++ l3, h, a, l2, l3, rfl, b, c⟩, fun ⟨l1, l, h, a, l2, l3, h', b, c⟩ => ⟨l1, l2, l3, by rw [h, h'], a, b, c⟩⟩
end Mine
namespace Mine
/-- all of I but for dicts is of I' -/
def Sub (I I' : Led) : Prop := ∀ p ∈ I, p.2.cls ≠ .type "dict" → p ∈ I'
theorem Sub.app {tl I : Led} : Sub I (tl ++ I) := fun _ h _ => List.mem_append_right _ h
theorem Sub.left {tl I : Led} : Sub tl (tl ++ I) := fun _ h _ => List.mem_append_left _ h
theorem Sub.both {tl I J : Led} (h : Sub I J) : Sub (tl ++ I) (tl ++ J) := fun p hp hd => (List.mem_append.mp hp).elim (fun q => List.mem_append_left _ q) fun q => List.mem_append_right _ (h p q hd)
theorem Sub.strip {a : Addr} {o : Obj} {I : Led} (h : o.cls = .type "dict") : Sub ((a, o) :: I) I := fun p hp hd => (List.mem_cons.mp hp).elim (fun e => absurd (e ▸ h) hd) id
theorem Sub.strips {l I : Led} (h : ∀ q ∈ l, q.2.cls = .type "dict") : Sub (l ++ I) I := fun p hp hd => (List.mem_append.mp hp).elim (fun e => absurd (h p e) hd) id
theorem Sub.rfl' {I : Led} : Sub I I := fun _ h _ => h
theorem Sub.cons {q : Addr × Obj} {I : Led} : Sub I (q :: I) := fun _ h _ => .tail _ h
theorem Sub.trans {a b c : Led} (h : Sub a b) (k : Sub b c) : Sub a c := fun p hp hd => k p (h p hp hd) hd
section
variable {w : World} {I I' : Led} {T : Str} (S : Sub I I')
include S
theorem ExIn.mono : ∀ {e : Ex}, ExIn I e → ExIn I' e
  | .word .., ⟨a, b, c, h, k⟩ => ⟨a, b, c, S _ h (by simp), k⟩
  | .look .., ⟨⟨a, b, h⟩, k, r, z⟩ => ⟨⟨a, b, S _ h (by simp)⟩, S _ k (by simp), ExIn.mono r, z⟩
  | .many .., ⟨⟨a, b, c, d, h, h'⟩, k, r, z⟩ => ⟨⟨a, b, c, d, S _ h (by simp), h'⟩, S _ k (by simp), ExIn.mono r, z⟩
  | .choice .., ⟨⟨a, b, h⟩, k, r, r', z⟩ => ⟨⟨a, b, S _ h (by simp)⟩, S _ k (by simp), ExIn.mono r, ExIn.mono r', z⟩
  | .chain .., ⟨⟨a, b, h⟩, k, r, r', z⟩ => ⟨⟨a, b, S _ h (by simp)⟩, S _ k (by simp), ExIn.mono r, ExIn.mono r', z⟩
theorem Named.mono {x n : Nat} (h : Named I x n) : Named I' x n := let ⟨C, dx, sl, a, b, c⟩ := h; ⟨C, dx, sl, a, S _ b (by simp), c⟩
mutual
theorem NodeIn.mono {v : Value} {t : Tree} : NodeIn I T v t → NodeIn I' T v t
  | .mk a b c d => .mk (S _ a (by simp)) (Named.mono S b) (S _ c (by simp)) (NodesIn.mono d)
theorem NodesIn.mono {vs : List Value} {ts : List Tree} : NodesIn I T vs ts → NodesIn I' T vs ts
  | .nil => .nil
  | .cons a b => .cons (NodeIn.mono a) (NodesIn.mono b)
end
theorem ResIn.mono {v : Value} : ∀ {r : Option Tree}, ResIn I T v r → ResIn I' T v r
  | none, h => h
  | some _, h => NodeIn.mono S h
theorem RowObj.mono {o : Obj} {tab : Tab} (h : RowObj w I T o tab) : RowObj w I' T o tab := let ⟨es, a, b, z, c⟩ := h; ⟨es, a, b, z, fun i x y h1 h2 => ⟨(c i x y h1 h2).1, ResIn.mono S (c i x y h1 h2).2⟩⟩
theorem OidsIn.mono {tt : Addr} {l : List (Nat × Addr)} (h : OidsIn I tt l) : OidsIn I' tt l := let ⟨ps, a, b, c⟩ := h; ⟨ps, S _ a (by simp), b, fun i h h' => let ⟨tk, k⟩ := c i h h'; ⟨tk, S _ k (by simp)⟩⟩
theorem OidsObj.mono {o : Obj} {l : List (Nat × Addr)} (h : OidsObj I o l) : OidsObj I' o l :=
  h.imp id fun ⟨z, k, hs, t, tt, a, b⟩ => ⟨z, k, hs, t, tt, a, OidsIn.mono S b⟩
theorem NodeCells.mono {ol rs : List Addr} {dx : Addr} {tab : Option Tab} {l : Led} (h : NodeCells w I T ol rs dx tab l) : NodeCells w I' T ol rs dx tab l := by
  cases tab with
  | none => obtain ⟨od, old, h1, h2, h3, h4⟩ := h; exact ⟨od, old, h1, OidsObj.mono S h2, h3, h4⟩
  | some tab => obtain ⟨od, k, r, ro, old, h1, h2, h3, h4, h5⟩ := h; exact ⟨od, k, r, ro, old, h1, OidsObj.mono S h2, h3, RowObj.mono S h4, h5⟩
theorem Cells.mono {ol rs : List Addr} : ∀ {e : Ex} {tt : TT} {l : Led}, Cells w I T ol rs e tt l → Cells w I' T ol rs e tt l
  | .word .., _, _, h => NodeCells.mono S h
  | .look .., _, _, ⟨l1, l2, a, b, c⟩ => ⟨l1, l2, a, NodeCells.mono S b, Cells.mono c⟩
  | .many .., _, _, ⟨l1, l2, a, b, c⟩ => ⟨l1, l2, a, NodeCells.mono S b, Cells.mono c⟩
  | .choice .., _, _, ⟨l1, l2, l3, a, b, c, d⟩ => ⟨l1, l2, l3, a, NodeCells.mono S b, Cells.mono c, Cells.mono d⟩
  | .chain .., _, _, ⟨l1, l2, l3, a, b, c, d⟩ => ⟨l1, l2, l3, a, NodeCells.mono S b, Cells.mono c, Cells.mono d⟩
theorem Kids.mono {ol rs : List Addr} : ∀ {e : Ex} {tt : TT} {l : Led}, Kids w I T ol rs e tt l → Kids w I' T ol rs e tt l
  | .word .., _, _, h => h
  | .look .., _, _, h => Cells.mono S h
  | .many .., _, _, h => Cells.mono S h
  | .choice .., _, _, ⟨l2, l3, a, c, d⟩ => ⟨l2, l3, a, Cells.mono S c, Cells.mono S d⟩
  | .chain .., _, _, ⟨l2, l3, a, c, d⟩ => ⟨l2, l3, a, Cells.mono S c, Cells.mono S d⟩
end
/-- the rows that come behind are new -/
def NewRows (I : Led) (rs rs' : List Addr) : Prop := ∃ more, rs' = rs ++ more ∧ ∀ r ∈ more, ∀ p ∈ I, p.1 ≠ r
theorem NewRows.refl {I : Led} {rs : List Addr} : NewRows I rs rs := ⟨[], by simp, fun _ h => nomatch h⟩
theorem NewRows.trans {I J : Led} {a b c : List Addr} (h : NewRows I a b) (k : NewRows J b c) (S : ∀ p ∈ I, p ∈ J) : NewRows I a c := by
  obtain ⟨m, rfl, hm⟩ := h
  obtain ⟨m', rfl, hm'⟩ := k
  refine ⟨m ++ m', by simp, fun r hr p hp => ?_⟩
  rcases List.mem_append.mp hr with hr | hr
  · exact hm r hr p hp
  · exact hm' r hr p (S p hp)
theorem NewRows.ol {I J : Led} {ol rs rs' : List Addr} (h : NewRows I rs rs') (hO : ∀ a ∈ ol, a ∉ rs ∧ ∃ o, (a, o) ∈ I) (S : ∀ p ∈ I, p ∈ J) : ∀ a ∈ ol, a ∉ rs' ∧ ∃ o, (a, o) ∈ J := by
  obtain ⟨m, rfl, hm⟩ := h
  intro a ha
  obtain ⟨h1, o, h2⟩ := hO a ha
  refine ⟨fun hx => ?_, o, S _ h2⟩
  rcases List.mem_append.mp hx with hx | hx
  · exact h1 hx
  · exact hm a hx _ h2 rfl
section
variable {w : World} {I J : Led} {T : Str} {ol rs rs' : List Addr} (R : NewRows J rs rs')
include R
theorem NodeCells.rows {dx : Addr} {tab : Option Tab} {l : Led} (h : NodeCells w I T ol rs dx tab l) : NodeCells w I T ol rs' dx tab l := by
  obtain ⟨more, rfl, R⟩ := R
  cases tab with
  | none =>
    obtain ⟨od, old, h1, h2, h3, h4⟩ := h
    exact ⟨od, old, h1, h2, h3, h4⟩
  | some tab =>
    obtain ⟨od, k, r, ro, old, h1, h2, h3, h4⟩ := h
    refine ⟨od, k, r, ro, old, h1, h2, ?_, h4⟩
    rw [List.getElem?_append_left (List.getElem?_eq_some_iff.mp h3).1]; exact h3
theorem Cells.rows : ∀ {e : Ex} {tt : TT} {l : Led}, Cells w I T ol rs e tt l → Cells w I T ol rs' e tt l
  | .word .., _, _, h => NodeCells.rows R h
  | .look .., _, _, ⟨l1, l2, a, b, c⟩ => ⟨l1, l2, a, NodeCells.rows R b, Cells.rows c⟩
  | .many .., _, _, ⟨l1, l2, a, b, c⟩ => ⟨l1, l2, a, NodeCells.rows R b, Cells.rows c⟩
  | .choice .., _, _, ⟨l1, l2, l3, a, b, c, d⟩ => ⟨l1, l2, l3, a, NodeCells.rows R b, Cells.rows c, Cells.rows d⟩
  | .chain .., _, _, ⟨l1, l2, l3, a, b, c, d⟩ => ⟨l1, l2, l3, a, NodeCells.rows R b, Cells.rows c, Cells.rows d⟩
theorem Kids.rows : ∀ {e : Ex} {tt : TT} {l : Led}, Kids w I T ol rs e tt l → Kids w I T ol rs' e tt l
  | .word .., _, _, h => h
  | .look .., _, _, h => Cells.rows R h
  | .many .., _, _, h => Cells.rows R h
  | .choice .., _, _, ⟨l2, l3, a, c, d⟩ => ⟨l2, l3, a, Cells.rows R c, Cells.rows R d⟩
  | .chain .., _, _, ⟨l2, l3, a, c, d⟩ => ⟨l2, l3, a, Cells.rows R c, Cells.rows R d⟩
end
theorem mem_mono {tl I Z : Led} (h : ∀ q ∈ I, q ∈ Z) : ∀ q ∈ tl ++ I, q ∈ tl ++ Z := fun q hq => (List.mem_append.mp hq).elim (fun a => List.mem_append_left _ a) fun a => List.mem_append_right _ (h q a)
/-- the rules of the cache and its rows -/
theorem rowsK_length (rs : List Addr) : (rowsK rs).length = rs.length := by simp [rowsK]
theorem valueAt_cons {K : Type} [DecidableEq K] (a : K) (v : Value) (l : List (K × Value)) (k : K) : valueAt ((a, v) :: l) k = if a = k then some v else valueAt l k := by
  by_cases h : a = k <;> simp [valueAt, h]
theorem valueAt_none {K : Type} [DecidableEq K] : ∀ {l : List (K × Value)} {k : K}, (∀ x ∈ l, x.1 ≠ k) → valueAt l k = none
  | [], _, _ => rfl
  | (a, v) :: l, k, h => by rw [valueAt_cons, if_neg (h _ (.head _)), valueAt_none fun x hx => h x (.tail _ hx)]
theorem valueAt_app {K : Type} [DecidableEq K] : ∀ {l l' : List (K × Value)} {k : K}, (∀ x ∈ l, x.1 ≠ k) → valueAt (l ++ l') k = valueAt l' k
  | [], _, _, _ => rfl
  | (a, v) :: l, l', k, h => by rw [List.cons_append, valueAt_cons, if_neg (h _ (.head _)), valueAt_app fun x hx => h x (.tail _ hx)]
theorem stored_new {K : Type} [DecidableEq K] {l : List (K × Value)} {k : K} {v : Value} (h : ∀ x ∈ l, x.1 ≠ k) : stored l k v = l ++ [(k, v)] := by
  unfold stored
  rw [if_neg]
  simp only [List.any_eq_true, decide_eq_true_eq, not_exists, not_and]
  exact fun x hx => h x hx
theorem stored_last {K : Type} [DecidableEq K] {l : List (K × Value)} {k : K} {u v : Value} (h : ∀ x ∈ l, x.1 ≠ k) : stored (l ++ [(k, u)]) k v = l ++ [(k, v)] := by
  unfold stored
  rw [if_pos (by simp)]
  rw [List.map_append]
  congr 1
  · exact (List.map_congr_left (g := id) (fun x hx => by simp [h x hx])).trans (by simp)
  · simp
theorem rowsK_keys (rs : List Addr) : ∀ x ∈ rowsK rs, x.1 ≠ (rs.length : Int) := by
  intro x hx
  unfold rowsK at hx
  obtain ⟨i, hi, rfl⟩ := List.mem_mapIdx.mp hx
  simp only []; omega
theorem rowsK_snoc (rs : List Addr) (r : Addr) : rowsK rs ++ [((rs.length : Int), Value.ref r)] = rowsK (rs ++ [r]) := by simp [rowsK]
theorem stored_rows (rs : List Addr) (r : Addr) : stored (rowsK rs) (rs.length : Int) (.ref r) = rowsK (rs ++ [r]) := by
  rw [stored_new (rowsK_keys rs), rowsK_snoc]
def rowsFrom : Nat → List Addr → List (Int × Value)
  | _, [] => []
  | i, r :: rs => ((i : Int), .ref r) :: rowsFrom (i + 1) rs
theorem rowsFrom_eq : ∀ (rs : List Addr) (i : Nat), rs.mapIdx (fun j r => (((i + j : Nat) : Int), Value.ref r)) = rowsFrom i rs
  | [], _ => rfl
  | r :: rs, i => by
    rw [List.mapIdx_cons, rowsFrom, ← rowsFrom_eq rs (i + 1)]
    congr 1
    congr 1; funext j r; congr 2; omega
theorem valueAt_from : ∀ (rs : List Addr) (i k : Nat), valueAt (rowsFrom i rs) ((i + k : Nat) : Int) = rs[k]?.map Value.ref
  | [], _, _ => rfl
  | r :: rs, i, k => by
    rw [rowsFrom, valueAt_cons]
    cases k with
    | zero => simp
    | succ k =>
      rw [if_neg (by omega), List.getElem?_cons_succ, ← valueAt_from rs (i + 1) k]
      congr 1; omega
theorem valueAt_rows (rs : List Addr) (k : Nat) : valueAt (rowsK rs) (k : Int) = rs[k]?.map Value.ref := by
  have h := valueAt_from rs 0 k
  rw [← rowsFrom_eq] at h
  simpa [rowsK] using h
theorem rowK_length (es : List (Nat × Value)) : (rowK es).length = es.length := by simp [rowK]
theorem putL_nil (name : Str) (hsh : Int) (key v : Value) (k : Nat) : (putL name hsh key v [], putN name [] k) = ([⟨hsh, key, v⟩], k + 1) := rfl
theorem putL_one (name : Str) (hsh hs : Int) (t : Tok) (key u v : Value) (k : Nat) : (putL name hsh key v [⟨hs, .str name t, u⟩], putN name [⟨hs, .str name t, u⟩] k) = ([⟨hs, .str name t, v⟩], k) := by
  simp [putL, putN, Value.isStr]
theorem nodup_le : ∀ (n : Nat) (l : List Nat), l.Nodup → (∀ x ∈ l, x ≤ n) → l.length ≤ n + 1
  | 0, l, hn, h => by
    match l, hn, h with
    | [], _, _ => simp
    | [a], _, _ => simp
    | a :: b :: r, hn, h =>
      have ha := h a (by simp)
      have hb := h b (by simp)
      simp only [List.nodup_cons, List.mem_cons, not_or] at hn
      exact absurd (by omega : a = b) hn.1.1
  | n + 1, l, hn, h => by
    by_cases hm : n + 1 ∈ l
    · have ih := nodup_le n (l.erase (n + 1)) (hn.erase _) fun x hx => by
        have := (List.Nodup.mem_erase_iff hn).mp hx
        have := h x this.2
        omega
      rw [List.length_erase_of_mem hm] at ih
      omega
    · have ih := nodup_le n l hn fun x hx => by
        have := h x hx
        rcases Nat.lt_or_ge x (n + 1) with h1 | h1
        · omega
        · exact absurd (by omega : x = n + 1) (fun e => hm (e ▸ hx))
      omega
theorem row_len {w : World} {I : Led} {T : Str} {o : Obj} {tab : Tab} {es : List (Nat × Value)} (h : o.IsDictOf (intKind PR w) (rowK es)) (hl : es.length = tab.length) (hb : ∀ y ∈ tab, y.1 ≤ T.cps.size ∧ okE T.cps.size y.1 y.2)
    (hr : ∀ (i : Nat) (x : Nat × Value) (y : Nat × Option Tree), es[i]? = some x → tab[i]? = some y → x.1 = y.1 ∧ ResIn I T x.2 y.2) : es.length ≤ T.cps.size + 1 := by
  obtain ⟨_, _, _, _, _, _, hn⟩ := h
  have hn' : (es.map (·.1)).Nodup := by
    unfold rowK List.Nodup at hn
    rw [List.pairwise_map, List.pairwise_map] at hn
    unfold List.Nodup
    rw [List.pairwise_map]
    exact hn.imp fun h e => h (by simp [e])
  have := nodup_le T.cps.size _ hn' fun k hk => by
    obtain ⟨x, hx, rfl⟩ := List.mem_map.mp hk
    obtain ⟨i, hi, rfl⟩ := List.getElem_of_mem hx
    have hi' : i < tab.length := hl ▸ hi
    have := (hr i _ _ (List.getElem?_eq_getElem hi) (List.getElem?_eq_getElem hi')).1
    rw [this]
    exact (hb _ (List.getElem_mem hi')).1
  simpa using this
theorem NodeCells.good {w : World} {I : Led} {T : Str} {ol rs : List Addr} {dx : Addr} {tab : Option Tab} {l : Led} (h : NodeCells w I T ol rs dx tab l) : okT T.cps.size tab := by
  cases tab with
  | none => intro y hy; cases hy
  | some tab => obtain ⟨_, _, _, _, _, _, _, _, ⟨_, _, _, h, _⟩, _⟩ := h; exact h
theorem Cells.good {w : World} {I : Led} {T : Str} {ol rs : List Addr} : ∀ {e : Ex} {tt : TT} {l : Led}, Cells w I T ol rs e tt l → Good T.cps.size e.pe tt
  | .word .., _, _, h => NodeCells.good h
  | .look .., _, _, ⟨_, _, _, b, c⟩ => ⟨NodeCells.good b, Cells.good c⟩
  | .many .., _, _, ⟨_, _, _, b, c⟩ => ⟨NodeCells.good b, Cells.good c⟩
  | .choice .., _, _, ⟨_, _, _, _, b, c, d⟩ => ⟨NodeCells.good b, Cells.good c, Cells.good d⟩
  | .chain .., _, _, ⟨_, _, _, _, b, c, d⟩ => ⟨NodeCells.good b, Cells.good c, Cells.good d⟩
theorem Kids.good {w : World} {I : Led} {T : Str} {ol rs : List Addr} : ∀ {e : Ex} {tt : TT} {l : Led}, Kids w I T ol rs e tt l → GoodK T.cps.size e.pe tt
  | .word .., _, _, _ => trivial
  | .look .., _, _, h => Cells.good h
  | .many .., _, _, h => Cells.good h
  | .choice .., _, _, ⟨_, _, _, c, d⟩ => ⟨Cells.good c, Cells.good d⟩
  | .chain .., _, _, ⟨_, _, _, c, d⟩ => ⟨Cells.good c, Cells.good d⟩
theorem Kids.okU {w : World} {I : Led} {T : Str} {ol rs : List Addr} {e : Ex} {tt : TT} {l : Led} (h : Kids w I T ol rs e tt l) {p : Nat} (err : Err) (hp : p ≤ T.cps.size) : okE T.cps.size p (unc T.cps.toList (core T.cps.toList) e.pe tt p err).1 := by
  have e1 : T.cps.toList.length = T.cps.size := Array.length_toList
  rw [← e1] at hp ⊢
  exact (unc_good (fun e' _ tt p err hp h => core_good e' tt p err hp h) tt p err hp (e1 ▸ h.good)).1
theorem Cells.okC {w : World} {I : Led} {T : Str} {ol rs : List Addr} {e : Ex} {tt : TT} {l : Led} (h : Cells w I T ol rs e tt l) {p : Nat} (err : Err) (hp : p ≤ T.cps.size) : okE T.cps.size p (core T.cps.toList e.pe tt p err).1 := by
  have e1 : T.cps.toList.length = T.cps.size := Array.length_toList
  rw [← e1] at hp ⊢
  exact (core_good e.pe tt p err hp (e1 ▸ h.good)).1
end Mine
namespace Mine
def ErrObj (I : Led) (T : Str) (oe : Obj) (err : Err) : Prop := ∃ k h1 h2 h3 t1 t2 t3 tT tq, ∃ (q : Int) (ev : Value),
  oe = dictOf [⟨h1, .str (Str.ofString "text") t1, .str T tT⟩, ⟨h2, .str (Str.ofString "pos") t2, .int q tq⟩, ⟨h3, .str (Str.ofString "expr") t3, ev⟩] k ∧
  match err with
  | none => q = -1 ∧ ev = .none
  | some (n, p) => q = (p : Nat) ∧ ∃ x, ev = .ref x ∧ Named I x n
theorem ErrObj.mono {I I' : Led} (S : Sub I I') {T : Str} {oe : Obj} {err : Err} (h : ErrObj I T oe err) : ErrObj I' T oe err := by
  obtain ⟨k, h1, h2, h3, t1, t2, t3, tT, tq, q, ev, e, r⟩ := h
  refine ⟨k, h1, h2, h3, t1, t2, t3, tT, tq, q, ev, e, ?_⟩
  cases err with
  | none => exact r
  | some x => obtain ⟨a, x, b, c⟩ := r; exact ⟨a, x, b, Named.mono S c⟩
abbrev errO (ed : Addr) (fs : Array Value) : Obj := ⟨.ref 94, some ed, .fields fs, #[]⟩
def cnt (tt : TT) : Nat := if tt.tab.isSome then 0 else 1
def unK (un : Ex → TT → Nat) : Ex → TT → Nat
  | .word .., _ => 0
  | .look _ _ _ _ _ e, tt => un e tt.l
  | .many _ _ _ _ _ _ e, tt => un e tt.l
  | .choice _ _ _ _ a b, tt => un a tt.l + un b tt.r
  | .chain _ _ _ _ a b, tt => un a tt.l + un b tt.r
def una : Ex → TT → Nat
  | .word .., tt => cnt tt
  | .look _ _ _ _ _ e, tt => cnt tt + una e tt.l
  | .many _ _ _ _ _ _ e, tt => cnt tt + una e tt.l
  | .choice _ _ _ _ a b, tt => cnt tt + (una a tt.l + una b tt.r)
  | .chain _ _ _ _ a b, tt => cnt tt + (una a tt.l + una b tt.r)
theorem una_eq (e : Ex) (tt : TT) : una e tt = cnt tt + unK una e tt := by cases e <;> rfl
def Sep (l I : Led) : Prop := (l.map (·.1)).Nodup ∧ ∀ p ∈ I, ∀ q ∈ l, p.1 ≠ q.1
theorem Sep.obj {ca ed : Addr} {oc oe oc' oe' : Obj} {l I : Led} (h : Sep ((ca, oc) :: (ed, oe) :: l) I) : Sep ((ca, oc') :: (ed, oe') :: l) I := by
  refine ⟨h.1, fun p hp q hq => ?_⟩
  simp only [List.mem_cons] at hq
  rcases hq with rfl | rfl | hq
  · exact h.2 p hp (ca, oc) (by simp)
  · exact h.2 p hp (ed, oe) (by simp)
  · exact h.2 p hp q (by simp [hq])
/-- what was made lies apart from what stood -/
def Fresh (tl I : Led) : Prop := ∀ p ∈ tl, ∀ q ∈ I, q.1 ≠ p.1
theorem Fresh.nil {I : Led} : Fresh [] I := fun _ h => nomatch h
/-- the state of a run of match_core, but for the cells -/
structure St (w : World) (T : Str) (I Z : Led) (e : Ex) (ca er ed : Addr) (oc oe : Obj) (fs : Array Value) (rs : List Addr) (err : Err) (lc : Led) : Prop where
  cache : CacheObj w oc rs
  err : ErrObj I T oe err
  ex : ExIn I e
  eo : (er, errO ed fs) ∈ I
  lo : (ca == sysModules) = false
  rows : ∀ r ∈ rs, ∃ o : Obj, o.cls = .type "dict" ∧ (r, o) ∈ lc ++ Z
abbrev Rets (Q : Value → Shared → Prop) (h₀ : Heap) (L : Addr) (m : Str → Option Value) (s : Shared) (w : World) (T : Str) (e : Ex) (ca er ed : Addr) (fs : Array Value) (rs : List Addr) (I Z : Led) (B : Nat) (cells : Led → List Addr → TT → Led → Prop) (una : TT → Nat) (o : Out) : Prop :=
  ∀ r h' tk' oc' oe' rs' lc' tl, Fr h₀ L h' m → News h₀ L h' ((ca, oc') :: (ed, oe') :: (lc' ++ (tl ++ Z))) → Sep ((ca, oc') :: (ed, oe') :: lc') (tl ++ Z) → St w T (tl ++ I) (tl ++ Z) e ca er ed oc' oe' fs rs' o.2.2 lc' → cells (tl ++ I) rs' o.2.1 lc' →
    NewRows Z rs rs' → Fresh tl Z → rs'.length + una o.2.1 ≤ B → ResIn (tl ++ I) T r o.1 → Q r { s with heap := h', toks := tk' }
/-- what a call of match_core of e does -/
def CoreOK (w : World) (T : Str) (e : Ex) : Prop :=
  ∀ (dp un : Nat) (gd : Option (List Code)) (cn : Str) (cs : Scope) (a : Addr) (ccd : Value) (cl : List (Str × Addr)) (outer : List Env) (A₀ : Around) (base h₀ : Heap) (L : Addr) (m : Str → Option Value) (s : Shared)
    (loose : List Str) (mean : ExcName → Option Value) (mg mb : Str → Option Value) (Q E : Value → Shared → Prop) (ca er ed : Addr) (oc oe : Obj) (fs : Array Value) (ol rs : List Addr) (lc I Z : Led) (tt : TT) (p : Nat) (err : Err) (t1 t2 : Tok) (Bd : Nat),
    Below A₀ base outer h₀ → Fr h₀ L s.heap m → (hd.heap_39 w.params).In h₀ → Top topProg loose mean mg mb h₀ → cs.kind = .function →
    (∀ q ∈ I, q ∈ Z) → News h₀ L s.heap ((ca, oc) :: (ed, oe) :: (lc ++ Z)) → Sep ((ca, oc) :: (ed, oe) :: lc) Z → St w T I Z e ca er ed oc oe fs rs err lc → Cells w I T ol rs e tt lc → (∀ a ∈ ol, a ∉ rs ∧ ∃ o, (a, o) ∈ Z) → p ≤ T.cps.size → rs.length + una e tt ≤ Bd → Bd ≤ 1000 → T.cps.size ≤ 1000 →
    dp + 4 * e.deep + 8 < recursionLimit → un + 60 * e.deep + 100 < cLine →
    Rets Q h₀ L m s w T e ca er ed fs rs I Z Bd (fun I' rs' tt' l' => Cells w I' T ol rs' e tt' l') (una e) (core T.cps.toList e.pe tt p err) →
    wpAny (model PR w) (ktrTop dp un gd cn cs L a ccd cl outer) (call (.ref 266) [.ref e.x, .str T t1, .int p t2, .ref ca, .ref er]) Q E s
/-- what a call of _uncached_match of e does -/
def UncOK (w : World) (T : Str) (e : Ex) : Prop :=
  ∀ (dp un : Nat) (gd : Option (List Code)) (cn : Str) (cs : Scope) (a : Addr) (ccd : Value) (cl : List (Str × Addr)) (outer : List Env) (A₀ : Around) (base h₀ : Heap) (L : Addr) (m : Str → Option Value) (s : Shared)
    (loose : List Str) (mean : ExcName → Option Value) (mg mb : Str → Option Value) (Q E : Value → Shared → Prop) (ca er ed : Addr) (oc oe : Obj) (fs : Array Value) (ol rs : List Addr) (lc I Z : Led) (tt : TT) (p : Nat) (err : Err) (t1 t2 : Tok) (Bd : Nat),
    Below A₀ base outer h₀ → Fr h₀ L s.heap m → (hd.heap_39 w.params).In h₀ → Top topProg loose mean mg mb h₀ → cs.kind = .function →
    (∀ q ∈ I, q ∈ Z) → News h₀ L s.heap ((ca, oc) :: (ed, oe) :: (lc ++ Z)) → Sep ((ca, oc) :: (ed, oe) :: lc) Z → St w T I Z e ca er ed oc oe fs rs err lc → Kids w I T ol rs e tt lc → (∀ a ∈ ol, a ∉ rs ∧ ∃ o, (a, o) ∈ Z) → p ≤ T.cps.size → rs.length + unK una e tt ≤ Bd → Bd ≤ 1000 → T.cps.size ≤ 1000 →
    dp + 4 * e.deep + 6 < recursionLimit → un + 60 * e.deep + 80 < cLine →
    Rets Q h₀ L m s w T e ca er ed fs rs I Z Bd (fun I' rs' tt' l' => Kids w I' T ol rs' e tt' l') (unK una e) (unc T.cps.toList (core T.cps.toList) e.pe tt p err) →
    wpAny (model PR w) (ktrTop dp un gd cn cs L a ccd cl outer) (call (.ref e.fU) [.ref e.x, .str T t1, .int p t2, .ref ca, .ref er]) Q E s
theorem ExIn.own {I : Led} : ∀ {e : Ex}, ExIn I e → IsEx e.cls ∧ ∃ sl t, (e.x, (⟨.ref e.cls, some e.dx, .plain, sl⟩ : Obj)) ∈ I ∧ (sl[nmIx e.cls]?).join = some (.str (nmS e.n) t)
  | .word .., ⟨_, t, _, h, _⟩ => ⟨.inl rfl, _, t, h, rfl⟩
  | .look .., ⟨⟨_, t, h⟩, _⟩ => ⟨.inr (.inr (.inr (.inl rfl))), _, t, h, rfl⟩
  | .many .., ⟨⟨_, t, _, _, h, _⟩, _⟩ => ⟨.inr (.inr (.inr (.inr rfl))), _, t, h, rfl⟩
  | .choice .., ⟨⟨_, t, h⟩, _⟩ => ⟨.inr (.inr (.inl rfl)), _, t, h, rfl⟩
  | .chain .., ⟨⟨_, t, h⟩, _⟩ => ⟨.inr (.inl rfl), _, t, h, rfl⟩
theorem ExIn.nle {I : Led} : ∀ {e : Ex}, ExIn I e → e.n ≤ 100
  | .word .., ⟨_, _, _, _, _, h⟩ => h
  | .look .., ⟨_, _, _, h⟩ => h
  | .many .., ⟨_, _, _, _, h⟩ => h
  | .choice .., ⟨_, _, _, _, h⟩ => h
  | .chain .., ⟨_, _, _, _, h⟩ => h
theorem ExIn.named {I : Led} {e : Ex} (h : ExIn I e) : Named I e.x e.n := let ⟨a, sl, t, b, c⟩ := h.own; ⟨_, _, sl, a, b, t, c⟩
theorem Sep.off {q : Addr × Obj} {l J : Led} (h : Sep (q :: l) J) : (∀ p ∈ l ++ J, p.1 ≠ q.1) ∧ Sep l J := by
  have h1 := h.1
  simp only [List.map_cons, List.nodup_cons, List.mem_map, not_exists, not_and] at h1
  refine ⟨fun p hp => ?_, h1.2, fun p hp c hc => h.2 p hp c (.tail _ hc)⟩
  rcases List.mem_append.mp hp with hp | hp
  · exact h1.1 p hp
  · exact h.2 p hp q (.head _)
theorem Sep.three {ca ed dx : Addr} {oc oe od : Obj} {lk J : Led} (h : Sep ((ca, oc) :: (ed, oe) :: (dx, od) :: lk) J) : (ca ≠ ed ∧ ca ≠ dx ∧ ed ≠ dx) ∧ (∀ p ∈ lk ++ J, p.1 ≠ ca) ∧ (∀ p ∈ lk ++ J, p.1 ≠ ed) ∧ ∀ p ∈ lk ++ J, p.1 ≠ dx := by
  obtain ⟨a1, h⟩ := h.off
  obtain ⟨a2, h⟩ := h.off
  obtain ⟨a3, h⟩ := h.off
  exact ⟨⟨Ne.symm (a1 (ed, oe) (by simp)), Ne.symm (a1 (dx, od) (by simp)), Ne.symm (a2 (dx, od) (by simp))⟩, fun p hp => a1 p (.tail _ (.tail _ hp)), fun p hp => a2 p (.tail _ hp), a3⟩
theorem Sep.four {ca ed dx r : Addr} {oc oe od ro : Obj} {lk J : Led} (h : Sep ((ca, oc) :: (ed, oe) :: (dx, od) :: (r, ro) :: lk) J) : (ca ≠ ed ∧ ca ≠ dx ∧ ca ≠ r ∧ ed ≠ dx ∧ ed ≠ r ∧ dx ≠ r) ∧ (∀ p ∈ lk ++ J, p.1 ≠ ca) ∧ (∀ p ∈ lk ++ J, p.1 ≠ ed) ∧ (∀ p ∈ lk ++ J, p.1 ≠ dx) ∧ ∀ p ∈ lk ++ J, p.1 ≠ r := by
  obtain ⟨a1, h⟩ := h.off
  obtain ⟨a2, h⟩ := h.off
  obtain ⟨a3, h⟩ := h.off
  obtain ⟨a4, h⟩ := h.off
  exact ⟨⟨Ne.symm (a1 (ed, oe) (by simp)), Ne.symm (a1 (dx, od) (by simp)), Ne.symm (a1 (r, ro) (by simp)), Ne.symm (a2 (dx, od) (by simp)), Ne.symm (a2 (r, ro) (by simp)), Ne.symm (a3 (r, ro) (by simp))⟩,
    fun p hp => a1 p (.tail _ (.tail _ (.tail _ hp))), fun p hp => a2 p (.tail _ (.tail _ hp)), fun p hp => a3 p (.tail _ hp), a4⟩
theorem News.in2 {h₀ : Heap} {L : Addr} {h : Heap} {a b c d : Addr × Obj} {l J : Led} (N : News h₀ L h (a :: b :: c :: d :: (l ++ J))) : News h₀ L h (a :: b :: (l ++ (c :: d :: J))) := fun q hq => N q (by
  simp only [List.mem_cons, List.mem_append] at hq ⊢
  rcases hq with h | h | h | h | h | h <;> simp only [h, true_or, or_true])
theorem News.out2 {h₀ : Heap} {L : Addr} {h : Heap} {a b c d : Addr × Obj} {l t J : Led} (N : News h₀ L h (a :: b :: (l ++ (t ++ (c :: d :: J))))) : News h₀ L h (a :: b :: c :: d :: (l ++ (t ++ J))) := fun q hq => N q (by
  simp only [List.mem_cons, List.mem_append] at hq ⊢
  rcases hq with h | h | h | h | h | h | h <;> simp only [h, true_or, or_true])
theorem Sep.in2 {ca ed dx r : Addr} {oc oe od ro oc' oe' od' ro' : Obj} {lk J : Led} (h : Sep ((ca, oc) :: (ed, oe) :: (dx, od) :: (r, ro) :: lk) J) : Sep ((ca, oc') :: (ed, oe') :: lk) ((dx, od') :: (r, ro') :: J) := by
  obtain ⟨⟨s1, s2, s3, s4, s5, s6⟩, r1, r2, r3, r4⟩ := h.four
  have hn := h.1
  simp only [List.map_cons, List.nodup_cons, List.mem_cons, List.mem_map, not_or, not_exists, not_and] at hn
  refine ⟨?_, ?_⟩
  · simp only [List.map_cons, List.nodup_cons, List.mem_cons, List.mem_map, not_or, not_exists, not_and]
    exact ⟨⟨s1, fun q hq => r1 q (List.mem_append_left _ hq)⟩, fun q hq => r2 q (List.mem_append_left _ hq), hn.2.2.2.2⟩
  · intro p hp q hq
    simp only [List.mem_cons] at hp hq
    rcases hp with rfl | rfl | hp <;> rcases hq with rfl | rfl | hq
    · exact Ne.symm s2
    · exact Ne.symm s4
    · exact Ne.symm (r3 q (List.mem_append_left _ hq))
    · exact Ne.symm s3
    · exact Ne.symm s5
    · exact Ne.symm (r4 q (List.mem_append_left _ hq))
    · exact h.2 p hp (ca, oc) (by simp)
    · exact h.2 p hp (ed, oe) (by simp)
    · exact h.2 p hp q (by simp [hq])
theorem Sep.out2 {ca ed dx r : Addr} {oc oe od ro od' ro' : Obj} {lk tl J : Led} (h : Sep ((ca, oc) :: (ed, oe) :: lk) (tl ++ ((dx, od) :: (r, ro) :: J))) (hF : Fresh tl ((dx, od) :: (r, ro) :: J)) (hd : dx ≠ r) (h3 : ∀ p ∈ J, p.1 ≠ dx) (h4 : ∀ p ∈ J, p.1 ≠ r) :
    Sep ((ca, oc) :: (ed, oe) :: (dx, od') :: (r, ro') :: lk) (tl ++ J) := by
  have hn := h.1
  simp only [List.map_cons, List.nodup_cons, List.mem_cons, List.mem_map, not_or, not_exists, not_and] at hn
  have hdx := fun q hq => h.2 (dx, od) (by simp) q hq
  have hr := fun q hq => h.2 (r, ro) (by simp) q hq
  refine ⟨?_, ?_⟩
  · simp only [List.map_cons, List.nodup_cons, List.mem_cons, List.mem_map, not_or, not_exists, not_and]
    exact ⟨⟨hn.1.1, Ne.symm (hdx (ca, oc) (by simp)), Ne.symm (hr (ca, oc) (by simp)), hn.1.2⟩, ⟨Ne.symm (hdx (ed, oe) (by simp)), Ne.symm (hr (ed, oe) (by simp)), hn.2.1⟩, ⟨hd, fun q hq => Ne.symm (hdx q (by simp [hq]))⟩, fun q hq => Ne.symm (hr q (by simp [hq])), hn.2.2⟩
  · intro p hp q hq
    have hp' : p ∈ tl ++ ((dx, od) :: (r, ro) :: J) := by
      rcases List.mem_append.mp hp with hp | hp
      · exact List.mem_append_left _ hp
      · exact List.mem_append_right _ (by simp [hp])
    simp only [List.mem_cons] at hq
    rcases hq with rfl | rfl | rfl | rfl | hq
    · exact h.2 p hp' _ (by simp)
    · exact h.2 p hp' _ (by simp)
    · rcases List.mem_append.mp hp with hp | hp
      · exact Ne.symm (hF p hp (dx, od) (by simp))
      · exact h3 p hp
    · rcases List.mem_append.mp hp with hp | hp
      · exact Ne.symm (hF p hp (r, ro) (by simp))
      · exact h4 p hp
    · exact h.2 p hp' q (by simp [hq])
end Mine
namespace Mine
local macro_rules | `(tactic| walk_at "zz") => `(tactic| fail)
local macro_rules | `(tactic| walk_at "zz") => `(tactic| fail)
theorem rs_A_e : True := by w_top off; trivial
local macro_rules | `(tactic| k_all) => `(tactic| assumption)
local macro_rules | `(tactic| k_ne) => `(tactic| first | assumption | exact Ne.symm (by assumption) | exact Nat.ne_of_lt (by assumption) | exact Nat.ne_of_gt (by assumption))
local macro_rules | `(tactic| k_room) => `(tactic| ktr_room)
local macro_rules | `(tactic| walk_at "call builtin:getattr") => `(tactic| (k_here; (with_reducible show wpAny _ _ (call (Value.builtin _) [_, Value.str _ _, _]) _ _ _); k_dflt (first
  | (refine' ga3_own ?k1 ?k2 ?k3 ?k4 ?k5 ?k6 ?k7 ?k8 ?k9 ?k10 ?k11 ?_; (case k1 => k_asm); (case k2 => k_asm); (case k3 => k_inst); (case k4 => k_is); (case k5 => k_is); (case k6 => k_is); (case k7 => k_is); (case k8 => k_get); (case k9 => k_handed); (case k10 => decide +kernel); (case k11 => k_is); k_whole)
  | (refine' ga3_miss ?k1 ?k2 ?k3 ?k4 ?k5 ?k6 ?k7 ?k8 ?k9 ?k10 ?k11 ?k12 ?k13 ?_; (case k1 => k_asm); (case k2 => k_asm); (case k3 => k_asm); (case k4 => k_inst); (case k5 => k_is); (case k6 => k_is); (case k7 => k_is); (case k8 => decide +kernel); (case k9 => k_get); (case k10 => decide +kernel); (case k11 => k_is); (case k12 => exact rfl); (case k13 => (first | (refine' MsgOk.of ?q1 ?q2 ?q3; (case q1 => k_is); (case q2 => decide +kernel); (case q3 => decide +kernel)) | (rename IsEx _ => h5; rcases h5 with e5 | e5 | e5 | e5 | e5 <;> subst e5 <;> (refine' MsgOk.of ?q1 ?q2 ?q3; (case q1 => k_is); (case q2 => decide +kernel); (case q3 => decide +kernel))))); k_whole; intro h' tk' F' N'; (try k_sweep)))))
local macro_rules | `(tactic| k_upd) => `(tactic| first | (refine' Off.head ?a; (case a => k_all)) | (refine' Off.tail ?a ?b; (case a => k_ne); (case b => k_upd)))
local macro_rules | `(tactic| walk_at "pyIter ref") => `(tactic| (k_here; (with_reducible show wpAny _ _ (pyIter (Value.ref _)) (fun it s₂ => codeAny _ _ (Code.forLoop _ it _ _ _) _ s₂) _ _); k_dflt (refine' tup_iter ?k1 ?k2 ?k3 ?_; (case k1 => k_asm); (case k2 => k_asm); (case k3 => exact News.isTup (by k_asm) (by k_mem)); k_whole); intro I' h' o' F' N' x' l1 l2; (try k_lt l1); (try k_lt2 l2); (try k_sweep)))
local macro_rules | `(tactic| walk_at "codeAny forLoop") => `(tactic| (k_here; (with_reducible show codeAny _ _ (Code.forLoop _ (Value.ref _) _ _ _) (okR _) _); k_dflt (first
  | (refine' tup_last ?k1 ?k2 ?k3 ?k4 ?k5 ?k6 ?k7 ?_; (case k1 => k_asm); (case k4 => assumption); (case k2 => k_asm); (case k3 => k_upd); (case k5 => exact News.isTup (by k_asm) (by k_mem)); (case k6 => exact rfl); (case k7 => exact rfl); k_whole; intro h' F' N'; (try k_sweep))
  | (refine' tup_turn ?k1 ?k2 ?k3 ?k4 ?k5 ?k6 ?k7 ?_; (case k1 => k_asm); (case k4 => assumption); (case k2 => k_asm); (case k3 => k_updF); (case k5 => exact News.isTup (by k_asm) (by k_mem)); (case k6 => first | exact get2_0 | exact get2_1 | exact rfl); (case k7 => k_ne); k_whole; intro h' o' F' N' x' T'; (try k_sweep)))))
local macro_rules | `(tactic| walk_at "call builtin:len") => `(tactic| (k_here; (with_reducible show wpAny _ _ (call (Value.builtin _) [Value.ref _]) _ _ _); k_dflt (refine' d_len (knd := intKind _ _) ?k1 ?k2 ?k3 ?k4 ?k5 ?k6 ?_; (case k1 => k_asm); (case k2 => k_mem); (case k3 => assumption); (case k4 => assumption); (case k5 => first | exact rowsK_length _ | rfl); (case k6 => (first | omega | (simp only [List.length_append, List.length_cons, List.length_nil]; omega))); k_whole; intro tk')))
local macro_rules | `(tactic| walk_at "getMethod ref") => `(tactic| (k_here; (with_reducible show wpAny _ _ (getMethod (Value.ref _) (Str.ofString "get") _) _ _ _); k_dflt (refine' d_meth (knd := intKind _ _) ?k1 ?k2 ?k3 PySem.F.slot_dict_get PySem.F.type_dict_get ?_; (case k1 => k_asm); (case k2 => k_mem); (case k3 => assumption); k_whole)))
local macro_rules | `(tactic| walk_at "call builtin:dict.get") => `(tactic| (k_here; (with_reducible show wpAny _ _ (call (Value.builtin _) [Value.ref _, Value.int _ _]) _ _ _); k_dflt (refine' d_get (knd := intKind _ _) ?k1 ?k2 ?k3 ?k4 (intKind_is _ _ _ _) ?_; (case k1 => k_asm); (case k2 => k_mem); (case k3 => assumption); (case k4 => assumption); k_whole)))
local macro_rules | `(tactic| walk_at "compareOp In int ref") => `(tactic| (k_here; k_dflt (refine' d_in (knd := intKind _ _) ?k1 ?k2 ?k3 ?k4 (intKind_is _ _ _ _) ?_; (case k1 => k_asm); (case k2 => k_mem); (case k3 => assumption); (case k4 => assumption); k_whole)))
local macro_rules | `(tactic| walk_at "subscriptTail") => `(tactic| (k_here; (with_reducible show wpAny _ _ (subscriptTail _ _ (Value.ref _) (Value.int _ _)) _ _ _); k_dflt (refine' d_item (knd := intKind _ _) ?k1 ?k2 ?k3 (intKind_is _ _ _ _) ?k5 ?_; (case k1 => k_asm); (case k2 => k_mem); (case k3 => assumption); (case k5 => assumption); k_whole)))
local macro_rules | `(tactic| walk_at "setItem ref int") => `(tactic| (k_here; k_dflt (refine' d_set (knd := intKind _ _) ?k1 ?k2 ?k3 ?k4 (intKind_is _ _ _ _) ?k6 ?_; (case k1 => k_asm); (case k2 => k_asm); (case k3 => k_updF); (case k4 => assumption); (case k6 => (rw [sizeLine_eq]; (first | omega | (simp only [rowsK_length, rowK_length, List.length_map, List.length_append, List.length_cons, List.length_nil]; omega)))); k_whole); intro h' o' F' N' hd'; (try dsimp only at N'); (try simp only [rowsK_length, stored_rows] at hd'); (try k_sweep)))
local macro_rules | `(tactic| k_all) => `(tactic| first | assumption | (refine List.forall_mem_append.mpr ⟨?_, ?_⟩ <;> k_all) | (exact tbn_neAll (by first | assumption | tbn_find)) | (exact tbn_neAll (tbn_up (by assumption) (by tbn_find))))
local macro_rules | `(tactic| k_mem) => `(tactic| ((with_reducible show List.Mem _ _); first | (show (_ : Addr × Obj) ∈ (_ : List (Addr × Obj)); ktr_member) | ((with_reducible show List.Mem _ (_ ++ _)); first | (refine' List.mem_append_left _ ?q; (case q => k_mem)) | (refine' List.mem_append_right _ ?q; (case q => k_mem)))))
local macro_rules | `(tactic| k_put) => `(tactic| first | exact putL_nil _ _ _ _ _ | exact putL_one _ _ _ _ _ _ _ _)
local macro_rules | `(tactic| walk_at "eval Name") => `(tactic| (k_here; k_dflt (refine' nameX_L ?F ?v ?_ ?a ?b; (case F => k_asm); (case a => rfl); (case b => rfl); (case v => assumption); k_whole)))
local macro_rules | `(tactic| k_put) => `(tactic| first | exact putL_nil _ _ _ _ _ | exact putL_one _ _ _ _ _ _ _ _ | exact putL_err_pos | exact putL_err_expr)
local macro_rules | `(tactic| walk_at "getAttr ref") => `(tactic| (k_here; k_dflt (refine' exc_getD ?k1 ?k2 ?k3 ?k4 ?k5 ?k6 ?k7 ?k8 ?k9 ?k10 ?k11 ?_; (case k1 => k_asm); (case k2 => k_asm); (case k3 => (refine' InstAt.of_newsF ?N ?h1 ?h2; (case N => k_asm); (case h1 => k_mem); (case h2 => k_mem))); (case k4 => k_is); (case k5 => k_is); (case k6 => k_is); (case k7 => k_is); (case k8 => k_is); (case k9 => k_is); (case k10 => k_get); (case k11 => k_handed); k_whole)))
local macro_rules | `(tactic| walk_at "setAttr ref") => `(tactic| (k_here; k_dflt (refine' exc_set ?k1 ?k2 ?k3 ?k4 ?k5 ?k6 ?k7 ?k8 ?k9 ?k10 ?k11 ?k12 ?k13 ?_; (case k1 => k_asm); (case k2 => k_asm); (case k3 => k_asm); (case k4 => (refine' InstAt.of_newsF ?N ?h1 ?h2; (case N => k_asm); (case h1 => k_mem); (case h2 => k_mem))); (case k5 => exact rfl); (case k6 => k_is); (case k7 => kernel_rfl); (case k8 => k_is); (case k9 => k_is); (case k10 => k_get); (case k11 => k_put); (case k12 => k_upd); (case k13 => exact Nat.le_of_ble_eq_true rfl); k_whole; intro h' F' N'; (try k_sweep))))
local macro_rules | `(tactic| k_slotget) => `(tactic| first | assumption | rfl)
local macro_rules | `(tactic| walk_at "getAttr ref") => `(tactic| (k_here; k_dflt (refine' get_slotW ?k1 ?k2 ?k3 ?k4 ?k5 ?k6 ?k7 ?k8 ?k9 ?k10 ?k11 ?_; (case k1 => k_asm); (case k2 => k_asm); (case k3 => k_asm); (case k4 => k_mem); (case k5 => k_is); (case k6 => k_is); (case k7 => k_is); (case k8 => k_is); (case k9 => k_is); (case k10 => k_slotget); (case k11 => k_handed); k_whole)))
local macro_rules | `(tactic| walk_at "call builtin:len") => `(tactic| (k_here; (with_reducible show wpAny _ _ (call (Value.builtin _) [Value.str _ _]) _ _ _); k_dflt (refine' SC.len_str ?k1 ?_; (case k1 => assumption); k_whole)))
local macro_rules | `(tactic| walk_at "getMethod ref") => `(tactic| (k_here; (with_reducible show wpAny _ _ (getMethod (Value.ref _) (Str.ofString "match_core") _) _ _ _); k_dflt (refine' meth_core ?k1 ?k2 ?k3 ?k4 ?k5 ?_; (case k1 => k_asm); (case k2 => k_asm); (case k4 => k_inst); (case k3 => assumption); (case k5 => assumption); k_whole)))
local macro_rules | `(tactic| walk_at "call ref") => `(tactic| (k_here; (with_reducible show wpAny _ _ (call (Value.ref 266) _) _ _ _); refine Held.out ?_))
local macro_rules | `(tactic| walk_at "exec For Name Attribute cons nil") => `(tactic| (k_here; refine for_F ?_))
local macro_rules | `(tactic| walk_at "truthy ref") => `(tactic| (k_here; k_dflt (refine' truthyL ?k1 ?k2 ?k3 ?k4 ?_; (case k1 => k_asm); (case k2 => k_mem); (case k3 => first | assumption | (simp only [List.size_toArray, List.length_cons, List.length_nil]; decide) | (simp only [Array.size_push, List.size_toArray, List.length_cons, List.length_nil]; omega)); (case k4 => first | assumption | exact ne1 | exact ne0 | exact neP); k_whole); intro tk'))
/-- each is newer than all of J -/
def Above (tl J : Led) : Prop := ∀ p ∈ tl, AllLt p.1 J
theorem Above.fresh {tl J I : Led} (h : Above tl J) (S : ∀ p ∈ I, p ∈ J) : Fresh tl I := fun p hp q hq => Nat.ne_of_lt (tb_ltOf (h p hp) q (S q hq))
theorem Above.sep {tl l I J : Led} (h : Above tl J) (S : ∀ p ∈ l, p ∈ J) (hS : Sep l I) : Sep l (tl ++ I) := by
  refine ⟨hS.1, fun p hp q hq => ?_⟩
  rcases List.mem_append.mp hp with hp | hp
  · exact Nat.ne_of_gt (tb_ltOf (h p hp) q (S q hq))
  · exact hS.2 p hp q hq
theorem Above.three {a b c : Addr × Obj} {J : Led} (h1 : AllLt c.1 J) (h2 : @LT.lt Nat _ c.1 b.1) (h3 : @LT.lt Nat _ b.1 a.1) : Above [a, b, c] J := by
  intro p hp
  simp only [List.mem_cons, List.not_mem_nil, or_false] at hp
  rcases hp with rfl | rfl | rfl
  · exact tbn_up h3 (tbn_up h2 h1)
  · exact tbn_up h2 h1
  · exact h1
theorem Above.two {b c : Addr × Obj} {J : Led} (h1 : AllLt c.1 J) (h2 : @LT.lt Nat _ c.1 b.1) : Above [b, c] J := by
  intro p hp
  simp only [List.mem_cons, List.not_mem_nil, or_false] at hp
  rcases hp with rfl | rfl
  · exact tbn_up h2 h1
  · exact h1
theorem node_end3 {h₀ h : Heap} {L : Addr} {l x d ca ed : Addr} {o1 o2 o3 oc oe : Obj} {lc J : Led} (N : News h₀ L h ((l, o1) :: (x, o2) :: (d, o3) :: (ca, oc) :: (ed, oe) :: (lc ++ J))) (h1 : AllLt d ((ca, oc) :: (ed, oe) :: (lc ++ J))) (h2 : @LT.lt Nat _ d x)
    (h3 : AllLt l ((x, o2) :: (d, o3) :: (ca, oc) :: (ed, oe) :: (lc ++ J))) (hS : Sep ((ca, oc) :: (ed, oe) :: lc) J) :
    News h₀ L h ((ca, oc) :: (ed, oe) :: (lc ++ ([(l, o1), (x, o2), (d, o3)] ++ J))) ∧ Sep ((ca, oc) :: (ed, oe) :: lc) ([(l, o1), (x, o2), (d, o3)] ++ J) ∧ Fresh [(l, o1), (x, o2), (d, o3)] J := by
  have hA : Above [(l, o1), (x, o2), (d, o3)] ((ca, oc) :: (ed, oe) :: (lc ++ J)) := Above.three h1 h2 h3.1
  refine ⟨fun q hq => N q ?_, hA.sep (fun p hp => ?_) hS, hA.fresh fun p hp => ?_⟩
  · simp only [List.mem_cons, List.mem_append, List.not_mem_nil, false_or, or_false] at hq ⊢
    rcases hq with h | h | h | (h | h | h) | h <;> simp only [h, true_or, or_true]
  · simp only [List.mem_cons, List.mem_append] at hp ⊢
    rcases hp with h | h | h <;> simp only [h, true_or, or_true]
  · simp only [List.mem_cons, List.mem_append]; simp only [hp, or_true]
theorem OidsObj.get {I : Led} {o : Obj} {l : List (Nat × Addr)} (h : OidsObj I o l) : ∃ es k, o = dictOf es k ∧ getL (Str.ofString "match_core") es = some none := by
  rcases h with ⟨_, k, rfl⟩ | ⟨_, k, hs, t, tt, rfl, _⟩
  · exact ⟨_, _, rfl, rfl⟩
  · exact ⟨_, _, rfl, by simp [getL, Value.isStr]; rfl⟩
theorem NodeCells.dict {w : World} {I : Led} {T : Str} {ol rs : List Addr} {dx : Addr} {tab : Option Tab} {l : Led} (h : NodeCells w I T ol rs dx tab l) : ∃ es k, (dx, dictOf es k) ∈ l ∧ getL (Str.ofString "match_core") es = some none := by
  cases tab with
  | none =>
    obtain ⟨od, old, rfl, h, _⟩ := h
    obtain ⟨es, k, rfl, hg⟩ := h.get
    exact ⟨es, k, .head _, hg⟩
  | some tab =>
    obtain ⟨od, k, r, ro, old, rfl, h, _⟩ := h
    obtain ⟨es, k, rfl, hg⟩ := h.get
    exact ⟨es, k, .head _, hg⟩
theorem Cells.dict {w : World} {I : Led} {T : Str} {ol rs : List Addr} {e : Ex} {tt : TT} {l : Led} (h : Cells w I T ol rs e tt l) : ∃ es k, (e.dx, dictOf es k) ∈ l ∧ getL (Str.ofString "match_core") es = some none := by
  obtain ⟨l1, l2, rfl, h, _⟩ := cells_split.mp h
  obtain ⟨es, k, a, b⟩ := h.dict
  exact ⟨es, k, List.mem_append_left _ a, b⟩
/-- the cells are dicts -/
theorem NodeCells.all {w : World} {I : Led} {T : Str} {ol rs : List Addr} {dx : Addr} {tab : Option Tab} {l : Led} (h : NodeCells w I T ol rs dx tab l) : ∀ q ∈ l, q.2.cls = .type "dict" := by
  have hO : ∀ {o : Obj} {l : List (Nat × Addr)}, OidsObj I o l → o.cls = .type "dict" := by
    rintro o l (⟨_, k, rfl⟩ | ⟨_, k, hs, t, tt, rfl, _⟩) <;> rfl
  cases tab with
  | none =>
    obtain ⟨od, old, rfl, h, _⟩ := h
    intro q hq; rw [List.mem_singleton.mp hq]; exact hO h
  | some tab =>
    obtain ⟨od, k, r, ro, old, rfl, h, _, h', _⟩ := h
    intro q hq
    rcases List.mem_cons.mp hq with rfl | hq
    · exact hO h
    · rw [List.mem_singleton.mp hq]
      obtain ⟨_, ⟨_, _, hx, _⟩, _⟩ := h'
      exact hx.1
theorem Cells.all {w : World} {I : Led} {T : Str} {ol rs : List Addr} : ∀ {e : Ex} {tt : TT} {l : Led}, Cells w I T ol rs e tt l → ∀ q ∈ l, q.2.cls = .type "dict"
  | .word .., _, _, h => NodeCells.all h
  | .look .., _, _, ⟨l1, l2, a, b, c⟩ => a ▸ List.forall_mem_append.mpr ⟨NodeCells.all b, Cells.all c⟩
  | .many .., _, _, ⟨l1, l2, a, b, c⟩ => a ▸ List.forall_mem_append.mpr ⟨NodeCells.all b, Cells.all c⟩
  | .choice .., _, _, ⟨l1, l2, l3, a, b, c, d⟩ => a ▸ List.forall_mem_append.mpr ⟨NodeCells.all b, List.forall_mem_append.mpr ⟨Cells.all c, Cells.all d⟩⟩
  | .chain .., _, _, ⟨l1, l2, l3, a, b, c, d⟩ => a ▸ List.forall_mem_append.mpr ⟨NodeCells.all b, List.forall_mem_append.mpr ⟨Cells.all c, Cells.all d⟩⟩
theorem meth_core {w : World} {A : Around} {E : Value → Shared → Prop} {s : Shared} {x C L : Addr} {ox : Obj} {h₀ : Heap} {m : Str → Option Value} {es : List DictEntry} {n : Nat} {pl : Sem Bool} {Q : Value × List Value → Shared → Prop}
    (F : Fr h₀ L s.heap m) (X : (hd.heap_39 w.params).In h₀) (hC : IsEx C) (I : InstAt s.heap x ox C (some (dictOf es n))) (hl : getL (Str.ofString "match_core") es = some none) (h : Q (.ref 266, [.ref x]) s) :
    wpAny (model PR w) A (getMethod (.ref x) (Str.ofString "match_core") pl) Q E s := by
  rcases hC with rfl | rfl | rfl | rfl | rfl <;> refine method_inst F X I (by k_is) (by k_is) (by k_is) hl h
theorem keep_core (P : Params) : keepIn (hd.heap_39 P) (.ref 266) = true := by k_is
/-- a node is made, its list of children after it -/
theorem unc_end3 {Q : Value → Shared → Prop} {h₀ h' : Heap} {L : Addr} {m : Str → Option Value} {s : Shared} {w : World} {T : Str} {e : Ex} {ca er ed : Addr} {fs : Array Value} {rs rs' : List Addr} {I Z : Led} {Bd : Nat} {cells : Led → List Addr → TT → Led → Prop} {un : TT → Nat}
    {p en : Nat} {tt' : TT} {err' : Err} {l x d : Addr} {od oc oe : Obj} {lc tl : Led} {te tT ts : Tok} {ep : Nat} {tk : Nat} {vs : List Value} {cs : List Tree}
    (ret : Rets Q h₀ L m s w T e ca er ed fs rs I Z Bd cells un (some (.nd e.n p en cs), tt', err')) (F : Fr h₀ L h' m)
    (N : News h₀ L h' ((l, { cls := .type "list", data := .seq vs.toArray ep }) :: (x, ⟨.ref 212, some d, .plain, #[some (.ref l), some (.int (en : Nat) te), some (.ref e.x), some (.str T tT), some (.int (p : Nat) ts)]⟩) :: (d, od) :: (ca, oc) :: (ed, oe) :: (lc ++ (tl ++ Z))))
    (h1 : AllLt d ((ca, oc) :: (ed, oe) :: (lc ++ (tl ++ Z)))) (h2 : @LT.lt Nat _ d x) (h3 : @LT.lt Nat _ x l) (hS : Sep ((ca, oc) :: (ed, oe) :: lc) (tl ++ Z))
    (hCo : CacheObj w oc rs') (hEo : ErrObj (tl ++ I) T oe err') (hEx : ExIn I e) (heo : (er, errO ed fs) ∈ I) (lo : (ca == sysModules) = false) (hRows : ∀ r ∈ rs', ∃ o : Obj, o.cls = .type "dict" ∧ (r, o) ∈ lc ++ (tl ++ Z))
    (hcell : ∀ J, Sub (tl ++ I) J → cells J rs' tt' lc) (hNR : NewRows Z rs rs') (hF : Fresh tl Z) (hB : rs'.length + un tt' ≤ Bd) (hN : NodesIn (tl ++ I) T vs cs) : Q (.ref x) { s with heap := h', toks := tk } := by
  obtain ⟨n1, n2, n3⟩ := node_end3 (lc := lc) (J := tl ++ Z) N h1 h2 ⟨h3, Nat.lt_trans h2 h3, tbn_up (Nat.lt_trans h2 h3) h1⟩ hS
  have A : ∀ J : Led, [(l, ({ cls := .type "list", data := .seq vs.toArray ep } : Obj)), (x, (⟨.ref 212, some d, .plain, #[some (.ref l), some (.int (en : Nat) te), some (.ref e.x), some (.str T tT), some (.int (p : Nat) ts)]⟩ : Obj)), (d, od)] ++ (tl ++ J) =
      ([(l, ({ cls := .type "list", data := .seq vs.toArray ep } : Obj)), (x, (⟨.ref 212, some d, .plain, #[some (.ref l), some (.int (en : Nat) te), some (.ref e.x), some (.str T tT), some (.int (p : Nat) ts)]⟩ : Obj)), (d, od)] ++ tl) ++ J := fun J => (List.append_assoc _ _ _).symm
  rw [A] at n1 n2
  refine ret _ _ _ oc oe rs' lc _ F n1 n2 ⟨hCo, ?_, ExIn.mono Sub.app hEx, List.mem_append_right _ heo, lo, ?_⟩ ?_ hNR ?_ hB ?_
  · rw [← A]; exact ErrObj.mono Sub.app hEo
  · intro r hr
    obtain ⟨o, a, b⟩ := hRows r hr
    refine ⟨o, a, ?_⟩
    rw [← A]
    rcases List.mem_append.mp b with b | b
    · exact List.mem_append_left _ b
    · exact List.mem_append_right _ (List.mem_append_right _ b)
  · exact hcell _ (by rw [← A]; exact Sub.app)
  · intro q hq z hz
    rcases List.mem_append.mp hq with hq | hq
    · exact n3 q hq z (List.mem_append_right _ hz)
    · exact hF q hq z hz
  · rw [← A]
    exact NodeIn.mk (List.mem_append_left _ (.tail _ (.head _))) (Named.mono (Sub.trans Sub.app Sub.app) hEx.named) (List.mem_append_left _ (.head _)) (NodesIn.mono Sub.app hN)
abbrev nodeObj (d l en x : Nat) (T : Str) (p : Nat) (te tT ts : Tok) : Obj := ⟨.ref 212, some d, .plain, #[some (.ref l), some (.int (en : Nat) te), some (.ref x), some (.str T tT), some (.int (p : Nat) ts)]⟩
abbrev listObj (vs : List Value) (ep : Nat) : Obj := { cls := .type "list", data := .seq vs.toArray ep }
/-- a node is made, its children's list somewhere -/
theorem unc_endG {Q : Value → Shared → Prop} {h₀ h' : Heap} {L : Addr} {m : Str → Option Value} {s : Shared} {w : World} {T : Str} {e : Ex} {ca er ed : Addr} {fs : Array Value} {rs rs' : List Addr} {I Z : Led} {Bd : Nat} {cells : Led → List Addr → TT → Led → Prop} {un : TT → Nat}
    {p en : Nat} {tt' : TT} {err' : Err} {l x d : Addr} {oc oe : Obj} {lc tl Y : Led} {te tT ts : Tok} {ep : Nat} {tk : Nat} {vs : List Value} {cs : List Tree}
    (ret : Rets Q h₀ L m s w T e ca er ed fs rs I Z Bd cells un (some (.nd e.n p en cs), tt', err')) (F : Fr h₀ L h' m) (N : News h₀ L h' Y)
    (hx : (x, nodeObj d l en e.x T p te tT ts) ∈ Y) (hl : (l, listObj vs ep) ∈ Y)
    (hY : ∀ q ∈ (ca, oc) :: (ed, oe) :: (lc ++ (tl ++ Z)), q ∈ Y) (ax : ∀ q ∈ (ca, oc) :: (ed, oe) :: (lc ++ (tl ++ Z)), q.1 ≠ x) (al : ∀ q ∈ (ca, oc) :: (ed, oe) :: (lc ++ (tl ++ Z)), q.1 ≠ l) (hS : Sep ((ca, oc) :: (ed, oe) :: lc) (tl ++ Z))
    (hCo : CacheObj w oc rs') (hEo : ErrObj (tl ++ I) T oe err') (hEx : ExIn I e) (heo : (er, errO ed fs) ∈ I) (lo : (ca == sysModules) = false) (hRows : ∀ r ∈ rs', ∃ o : Obj, o.cls = .type "dict" ∧ (r, o) ∈ lc ++ (tl ++ Z))
    (hcell : ∀ J, Sub (tl ++ I) J → cells J rs' tt' lc) (hNR : NewRows Z rs rs') (hF : Fresh tl Z) (hB : rs'.length + un tt' ≤ Bd) (hN : NodesIn (tl ++ I) T vs cs) : Q (.ref x) { s with heap := h', toks := tk } := by
  refine ret _ _ _ oc oe rs' lc ((x, nodeObj d l en e.x T p te tT ts) :: (l, listObj vs ep) :: tl) F (fun q hq => ?_) ⟨hS.1, fun q hq c hc => ?_⟩ ⟨hCo, ErrObj.mono (Sub.trans Sub.cons Sub.cons) hEo, ExIn.mono Sub.app hEx, List.mem_append_right _ heo, lo, ?_⟩ (hcell _ (Sub.trans Sub.cons Sub.cons)) hNR ?_ hB ?_
  · simp only [List.mem_cons, List.mem_append, List.cons_append] at hq
    rcases hq with rfl | rfl | h | rfl | rfl | h | h
    · exact N _ (hY _ (by simp))
    · exact N _ (hY _ (by simp))
    · exact N _ (hY _ (by simp [h]))
    · exact N _ hx
    · exact N _ hl
    · exact N _ (hY _ (by simp [h]))
    · exact N _ (hY _ (by simp [h]))
  · simp only [List.cons_append, List.mem_cons] at hq
    have hc' : c ∈ (ca, oc) :: (ed, oe) :: (lc ++ (tl ++ Z)) := by
      simp only [List.mem_cons, List.mem_append] at hc ⊢
      rcases hc with h | h | h <;> simp only [h, true_or, or_true]
    rcases hq with rfl | rfl | h
    · exact Ne.symm (ax c hc')
    · exact Ne.symm (al c hc')
    · exact hS.2 q h c hc
  · intro r hr
    obtain ⟨o, a, b⟩ := hRows r hr
    refine ⟨o, a, ?_⟩
    rcases List.mem_append.mp b with b | b
    · exact List.mem_append_left _ b
    · exact List.mem_append_right _ (.tail _ (.tail _ b))
  · intro q hq z hz
    rcases List.mem_cons.mp hq with rfl | hq
    · exact ax z (by simp [hz])
    rcases List.mem_cons.mp hq with rfl | hq
    · exact al z (by simp [hz])
    · exact hF q hq z hz
  · exact NodeIn.mk (.head _) (Named.mono Sub.app hEx.named) (.tail _ (.head _)) (NodesIn.mono (Sub.trans Sub.cons Sub.cons) hN)
theorem apart1 {q : Addr × Obj} {J : Led} (h : AllLt q.1 J) : ∀ x ∈ [q], ∀ p ∈ J, p.1 ≠ x.1 := by
  intro x hx p hp
  rw [List.mem_singleton.mp hx]
  exact Nat.ne_of_lt (tb_ltOf h p hp)
end Mine
namespace Mine
/-- the call of a child's match_core, its sibling's cells and more beside -/
theorem core_call {w : World} {T : Str} {e : Ex} (hC : CoreOK w T e) (X l1 l2 : Led) {dp un : Nat} {gd : Option (List Code)} {cn : Str} {cs : Scope} {a : Addr} {ccd : Value} {cl : List (Str × Addr)} {outer : List Env} {A₀ : Around} {base h₀ : Heap} {L : Addr} {m : Str → Option Value} {s : Shared}
    {loose : List Str} {mean : ExcName → Option Value} {mg mb : Str → Option Value} {Q E : Value → Shared → Prop} {ca er ed : Addr} {oc oe : Obj} {fs : Array Value} {ol rs : List Addr} {lc I Z : Led} {tt : TT} {p : Nat} {err : Err} {t1 t2 : Tok} {Bd : Nat}
    (B : Below A₀ base outer h₀) (F : Fr h₀ L s.heap m) (X₀ : (hd.heap_39 w.params).In h₀) (Tp : Top topProg loose mean mg mb h₀) (hk : cs.kind = .function) (hIZ : ∀ q ∈ I, q ∈ Z)
    (N : News h₀ L s.heap (X ++ ((ca, oc) :: (ed, oe) :: (l1 ++ (lc ++ (l2 ++ Z)))))) (hX : ∀ x ∈ X, ∀ p ∈ (ca, oc) :: (ed, oe) :: (l1 ++ (lc ++ (l2 ++ Z))), p.1 ≠ x.1) (hXd : ∀ x ∈ X, x.2.cls ≠ .type "dict")
    (hS : Sep ((ca, oc) :: (ed, oe) :: (l1 ++ (lc ++ l2))) Z) (hCo : CacheObj w oc rs) (hEo : ErrObj I T oe err) (hEx : ExIn I e) (heo : (er, errO ed fs) ∈ I) (lo : (ca == sysModules) = false)
    (hRows : ∀ r ∈ rs, ∃ o : Obj, o.cls = .type "dict" ∧ (r, o) ∈ (l1 ++ (lc ++ l2)) ++ Z) (hCl : Cells w I T ol rs e tt lc) (hOl : ∀ a ∈ ol, a ∉ rs ∧ ∃ o, (a, o) ∈ Z) (hp : p ≤ T.cps.size) (hB : rs.length + una e tt ≤ Bd) (hB2 : Bd ≤ 1000) (hT : T.cps.size ≤ 1000)
    (hd : dp + 4 * e.deep + 8 < recursionLimit) (hun : un + 60 * e.deep + 100 < cLine)
    (ret : ∀ r h' tk' oc' oe' rs' lc' tl, Fr h₀ L h' m → News h₀ L h' (X ++ ((ca, oc') :: (ed, oe') :: (l1 ++ (lc' ++ (l2 ++ (tl ++ Z)))))) → (∀ x ∈ X, ∀ p ∈ (ca, oc') :: (ed, oe') :: (l1 ++ (lc' ++ (l2 ++ (tl ++ Z)))), p.1 ≠ x.1) →
      Sep ((ca, oc') :: (ed, oe') :: (l1 ++ (lc' ++ l2))) (tl ++ Z) → CacheObj w oc' rs' → ErrObj (tl ++ I) T oe' (core T.cps.toList e.pe tt p err).2.2 → (∀ r ∈ rs', ∃ o : Obj, o.cls = .type "dict" ∧ (r, o) ∈ (l1 ++ (lc' ++ l2)) ++ (tl ++ Z)) →
      Cells w (tl ++ I) T ol rs' e (core T.cps.toList e.pe tt p err).2.1 lc' → NewRows Z rs rs' → Fresh tl Z → rs'.length + una e (core T.cps.toList e.pe tt p err).2.1 ≤ Bd → ResIn (tl ++ I) T r (core T.cps.toList e.pe tt p err).1 → Q r { s with heap := h', toks := tk' }) :
    wpAny (model PR w) (ktrTop dp un gd cn cs L a ccd cl outer) (call (.ref 266) [.ref e.x, .str T t1, .int p t2, .ref ca, .ref er]) Q E s := by
  have hn := hS.1
  simp only [List.map_cons, List.map_append, List.nodup_cons, List.mem_cons, List.mem_append, List.mem_map, not_or, not_exists, not_and, List.nodup_append] at hn
  obtain ⟨⟨c1, c2, c3, c4⟩, ⟨d2, d3, d4⟩, n1, ⟨n2, n3, n23⟩, n123⟩ := hn
  refine hC dp un gd cn cs a ccd cl outer A₀ base h₀ L m s loose mean mg mb Q E ca er ed oc oe fs ol rs lc I (l1 ++ (l2 ++ (X ++ Z))) tt p err t1 t2 Bd B F X₀ Tp hk (fun q hq => List.mem_append_right _ (List.mem_append_right _ (List.mem_append_right _ (hIZ q hq))))
    (fun q hq => N q ?_) ⟨?_, ?_⟩ ⟨hCo, hEo, hEx, heo, lo, ?_⟩ hCl ?_ hp hB hB2 hT hd hun ?_
  · simp only [List.mem_cons, List.mem_append] at hq ⊢
    rcases hq with h | h | h | h | h | h | h <;> simp only [h, true_or, or_true]
  · simp only [List.map_cons, List.nodup_cons, List.mem_cons, List.mem_map, not_or, not_exists, not_and]
    exact ⟨⟨c1, c3⟩, d3, n2⟩
  · intro p' hp' q hq
    simp only [List.mem_cons, List.mem_append] at hp' hq
    rcases hp' with h | h | h | h
    · rcases hq with rfl | rfl | hq
      · exact c2 p' h
      · exact d2 p' h
      · exact fun e => n123 _ ⟨p', h, rfl⟩ _ (.inl ⟨q, hq, rfl⟩) e
    · rcases hq with rfl | rfl | hq
      · exact c4 p' h
      · exact d4 p' h
      · exact fun e => n23 _ ⟨q, hq, rfl⟩ _ ⟨p', h, rfl⟩ e.symm
    · refine Ne.symm (hX p' h q ?_)
      simp only [List.mem_cons, List.mem_append]
      rcases hq with h | h | h <;> simp only [h, true_or, or_true]
    · refine hS.2 p' h q ?_
      simp only [List.mem_cons, List.mem_append]
      rcases hq with h | h | h <;> simp only [h, true_or, or_true]
  · intro r hr
    obtain ⟨o, h1, h2⟩ := hRows r hr
    refine ⟨o, h1, ?_⟩
    simp only [List.mem_append] at h2 ⊢
    rcases h2 with (h | h | h) | h <;> simp only [h, true_or, or_true]
  · intro b hb
    obtain ⟨h1, o, h2⟩ := hOl b hb
    exact ⟨h1, o, List.mem_append_right _ (List.mem_append_right _ (List.mem_append_right _ h2))⟩
  · intro r h' tk' oc' oe' rs' lc' tl F' N' S' St' C' R' Fr' B' V'
    have hn' := S'.1
    simp only [List.map_cons, List.nodup_cons, List.mem_cons, List.mem_map, not_or, not_exists, not_and] at hn'
    obtain ⟨⟨k1, k2⟩, k3, k4⟩ := hn'
    have inZ : ∀ q, q ∈ l1 ∨ q ∈ l2 ∨ q ∈ X ∨ q ∈ Z → q ∈ l1 ++ (l2 ++ (X ++ Z)) := fun q hq => by simpa only [List.mem_append] using hq
    have S2 := fun q (hq : q ∈ l1 ∨ q ∈ l2 ∨ q ∈ X ∨ q ∈ Z) => S'.2 q (List.mem_append_right tl (inZ q hq))
    refine ret r h' tk' oc' oe' rs' lc' tl F' (fun q hq => N' q ?_) ?_ ⟨?_, ?_⟩ St'.cache St'.err ?_ C' ?_ ?_ B' V'
    · simp only [List.mem_cons, List.mem_append] at hq ⊢
      rcases hq with h | h | h | h | h | h | h | h <;> simp only [h, true_or, or_true]
    · intro x hx p' hp'
      have h1 := S2 x (.inr (.inr (.inl hx)))
      have h2 := hX x hx
      simp only [List.mem_cons, List.mem_append] at hp' h2
      rcases hp' with rfl | rfl | h | h | h | h | h
      · exact Ne.symm (h1 _ (by simp))
      · exact Ne.symm (h1 _ (by simp))
      · exact h2 p' (by simp only [h, true_or, or_true])
      · exact Ne.symm (h1 _ (by simp [h]))
      · exact h2 p' (by simp only [h, true_or, or_true])
      · exact Ne.symm (Fr' p' h x (inZ x (.inr (.inr (.inl hx)))))
      · exact h2 p' (by simp only [h, true_or, or_true])
    · simp only [List.map_cons, List.map_append, List.nodup_cons, List.mem_cons, List.mem_append, List.mem_map, not_or, not_exists, not_and, List.nodup_append]
      refine ⟨⟨c1, c2, k2, c4⟩, ⟨d2, k3, d4⟩, n1, ⟨k4, n3, ?_⟩, ?_⟩
      · rintro _ ⟨q, hq, rfl⟩ _ ⟨q', hq', rfl⟩ e
        exact S2 q' (.inr (.inl hq')) q (by simp [hq]) e.symm
      · rintro _ ⟨q, hq, rfl⟩ _ (⟨q', hq', rfl⟩ | ⟨q', hq', rfl⟩) e
        · exact S2 q (.inl hq) q' (by simp [hq']) e
        · exact n123 _ ⟨q, hq, rfl⟩ _ (.inr ⟨q', hq', rfl⟩) e
    · intro p' hp' q hq
      simp only [List.mem_cons, List.mem_append] at hp' hq
      have hq1 : q ∈ (ca, oc') :: (ed, oe') :: lc' ∨ q ∈ l1 ∨ q ∈ l2 := by
        rcases hq with h | h | h | h | h
        · exact .inl (by simp [h])
        · exact .inl (by simp [h])
        · exact .inr (.inl h)
        · exact .inl (by simp [h])
        · exact .inr (.inr h)
      rcases hp' with hp' | hp'
      · rcases hq1 with h | h | h
        · exact S'.2 p' (List.mem_append_left _ hp') q h
        · exact Ne.symm (Fr' p' hp' q (inZ q (.inl h)))
        · exact Ne.symm (Fr' p' hp' q (inZ q (.inr (.inl h))))
      · rcases hq1 with h | h | h
        · exact S2 p' (.inr (.inr (.inr hp'))) q h
        · exact hS.2 p' hp' q (by simp [h])
        · exact hS.2 p' hp' q (by simp [h])
    · intro b hb
      obtain ⟨o, h1, h2⟩ := St'.rows b hb
      refine ⟨o, h1, ?_⟩
      simp only [List.mem_append] at h2 ⊢
      rcases h2 with h | h | h | h | h | h
      · simp only [h, true_or, or_true]
      · simp only [h, true_or, or_true]
      · simp only [h, true_or, or_true]
      · simp only [h, true_or, or_true]
      · exact absurd h1 (hXd _ h)
      · simp only [h, true_or, or_true]
    · obtain ⟨more, e1, e2⟩ := R'
      exact ⟨more, e1, fun b hb q hq => e2 b hb q (inZ q (.inr (.inr (.inr hq))))⟩
    · exact fun q hq z hz => Fr' q hq z (inZ z (.inr (.inr (.inr hz))))
/-- the end of an _uncached_match that has nothing to give -/
theorem unc_endN {Q : Value → Shared → Prop} {h₀ h' : Heap} {L : Addr} {m : Str → Option Value} {s : Shared} {w : World} {T : Str} {e : Ex} {ca er ed : Addr} {fs : Array Value} {rs rs' : List Addr} {I Z : Led} {Bd : Nat} {cells : Led → List Addr → TT → Led → Prop} {un : TT → Nat}
    {tt' : TT} {err' : Err} {oc oe : Obj} {lc tl Y : Led} {tk : Nat}
    (ret : Rets Q h₀ L m s w T e ca er ed fs rs I Z Bd cells un (none, tt', err')) (F : Fr h₀ L h' m) (N : News h₀ L h' Y) (hY : ∀ q ∈ (ca, oc) :: (ed, oe) :: (lc ++ (tl ++ Z)), q ∈ Y) (hS : Sep ((ca, oc) :: (ed, oe) :: lc) (tl ++ Z))
    (hCo : CacheObj w oc rs') (hEo : ErrObj (tl ++ I) T oe err') (hEx : ExIn I e) (heo : (er, errO ed fs) ∈ I) (lo : (ca == sysModules) = false) (hRows : ∀ r ∈ rs', ∃ o : Obj, o.cls = .type "dict" ∧ (r, o) ∈ lc ++ (tl ++ Z))
    (hcell : ∀ J, Sub (tl ++ I) J → cells J rs' tt' lc) (hNR : NewRows Z rs rs') (hF : Fresh tl Z) (hB : rs'.length + un tt' ≤ Bd) : Q .none { s with heap := h', toks := tk } :=
  ret _ _ _ oc oe rs' lc tl F (fun q hq => N q (hY q hq)) hS ⟨hCo, hEo, ExIn.mono Sub.app hEx, List.mem_append_right _ heo, lo, hRows⟩ (hcell _ Sub.rfl') hNR hF hB rfl
theorem apart2 {q r : Addr × Obj} {J : Led} (h1 : AllLt q.1 J) (h2 : AllLt r.1 J) : ∀ x ∈ [q, r], ∀ p ∈ J, p.1 ≠ x.1 := by
  intro x hx p hp
  rcases List.mem_cons.mp hx with rfl | hx
  · exact Nat.ne_of_lt (tb_ltOf h1 p hp)
  · rw [List.mem_singleton.mp hx]; exact Nat.ne_of_lt (tb_ltOf h2 p hp)
theorem NodeIn.inv {I : Led} {T : Str} {v : Value} {n s e : Nat} {cs : List Tree} (h : NodeIn I T v (.nd n s e cs)) : ∃ a d cl x ep ts te tT, ∃ vs : List Value, v = .ref a ∧ (a, (⟨.ref 212, some d, .plain, #[some (.ref cl), some (.int (e : Nat) te), some (.ref x), some (.str T tT), some (.int (s : Nat) ts)]⟩ : Obj)) ∈ I ∧ Named I x n ∧
    (cl, ({ cls := .type "list", data := .seq vs.toArray ep } : Obj)) ∈ I ∧ NodesIn I T vs cs := by
  cases h with
  | mk n1 n2 n3 n4 => exact ⟨_, _, _, _, _, _, _, _, _, rfl, n1, n2, n3, n4⟩
end Mine
namespace Mine
theorem lenL {w : World} {A : Around} {E : Value → Shared → Prop} {s : Shared} {h₀ : Heap} {L : Addr} {news : Led} {l : Addr} {vs : List Value} {ep k : Nat} {Q : Value → Shared → Prop} (N : News h₀ L s.heap news) (hm : (l, listObj vs ep) ∈ news) (hc : vs.length = k) (hf : k ≤ 100000)
    (h : Q (.int (k : Nat) (s.toks + 1)) { s with toks := s.toks + 1 + 1 }) : wpAny (model PR w) A (call (.builtin "len") [.ref l]) Q E s := by
  subst hc
  exact len_list (N.isList hm) (by simp; omega) (by simpa using h)
theorem lenP {w : World} {A : Around} {E : Value → Shared → Prop} {s : Shared} {h₀ : Heap} {L : Addr} {news : Led} {l : Addr} {vs : List Value} {u : Value} {ep k : Nat} {Q : Value → Shared → Prop} (N : News h₀ L s.heap news) (hm : (l, W.listOf (vs.toArray.push u) ep) ∈ news) (hc : vs.length = k) (hf : k ≤ 100000)
    (h : Q (.int ((k + 1 : Nat) : Int) (s.toks + 1)) { s with toks := s.toks + 1 + 1 }) : wpAny (model PR w) A (call (.builtin "len") [.ref l]) Q E s := by
  subst hc
  exact len_list (N.isList hm) (by simp; omega) (by simpa using h)
theorem loadX_L {w : World} {A : Around} {E : Value → Shared → Prop} {s : Shared} {h₀ : Heap} {m : Str → Option Value} {cn : Str} {cs : Scope} {L a : Addr} {ccd v : Value} {cl : List (Str × Addr)} {x : Str} {Q : Value → Shared → Prop} (F : Fr h₀ L s.heap m) (hv : m x = some v) (h : Q v s)
    (hk : cs.kind = .function) (hx : (envX cn cs L a ccd cl).kindOf x = some .local) : wpAny (model PR w) A (loadName (envX cn cs L a ccd cl) x) Q E s := wpAny_loadName_local hk hx F.ns hv h
theorem NodesIn.len {I : Led} {T : Str} : ∀ {vs : List Value} {cs : List Tree}, NodesIn I T vs cs → vs.length = cs.length
  | _, _, .nil => rfl
  | _, _, .cons _ r => by simp [NodesIn.len r]
theorem NodesIn.get {I : Led} {T : Str} : ∀ {vs : List Value} {cs : List Tree} {i : Nat} {v : Value}, NodesIn I T vs cs → vs[i]? = some v → ∃ t, cs[i]? = some t ∧ NodeIn I T v t
  | _, _, _, _, .nil, h => by simp at h
  | _, _, 0, _, .cons a _, h => by
    simp only [List.getElem?_cons_zero, Option.some.injEq] at h
    subst h
    exact ⟨_, rfl, a⟩
  | _, _, i + 1, _, .cons _ r, h => by
    rw [List.getElem?_cons_succ] at h
    obtain ⟨t, h1, h2⟩ := NodesIn.get r h
    exact ⟨t, by rw [List.getElem?_cons_succ]; exact h1, h2⟩
end Mine
namespace Mine
local macro_rules | `(tactic| walk_at "zz") => `(tactic| fail)
local macro_rules | `(tactic| walk_at "zz") => `(tactic| fail)
local macro_rules | `(tactic| walk_at "zz") => `(tactic| fail)
theorem rs_A_core : True := by w_top off; trivial
local macro_rules | `(tactic| k_all) => `(tactic| assumption)
local macro_rules | `(tactic| k_ne) => `(tactic| first | assumption | exact Ne.symm (by assumption) | exact Nat.ne_of_lt (by assumption) | exact Nat.ne_of_gt (by assumption))
local macro_rules | `(tactic| k_room) => `(tactic| ktr_room)
local macro_rules | `(tactic| walk_at "call builtin:getattr") => `(tactic| (k_here; (with_reducible show wpAny _ _ (call (Value.builtin _) [_, Value.str _ _, _]) _ _ _); k_dflt (first
  | (refine' ga3_own ?k1 ?k2 ?k3 ?k4 ?k5 ?k6 ?k7 ?k8 ?k9 ?k10 ?k11 ?_; (case k1 => k_asm); (case k2 => k_asm); (case k3 => k_inst); (case k4 => k_is); (case k5 => k_is); (case k6 => k_is); (case k7 => k_is); (case k8 => k_get); (case k9 => k_handed); (case k10 => decide +kernel); (case k11 => k_is); k_whole)
  | (refine' ga3_miss ?k1 ?k2 ?k3 ?k4 ?k5 ?k6 ?k7 ?k8 ?k9 ?k10 ?k11 ?k12 ?k13 ?_; (case k1 => k_asm); (case k2 => k_asm); (case k3 => k_asm); (case k4 => k_inst); (case k5 => k_is); (case k6 => k_is); (case k7 => k_is); (case k8 => decide +kernel); (case k9 => k_get); (case k10 => decide +kernel); (case k11 => k_is); (case k12 => exact rfl); (case k13 => (first | (refine' MsgOk.of ?q1 ?q2 ?q3; (case q1 => k_is); (case q2 => decide +kernel); (case q3 => decide +kernel)) | (rename IsEx _ => h5; rcases h5 with e5 | e5 | e5 | e5 | e5 <;> subst e5 <;> (refine' MsgOk.of ?q1 ?q2 ?q3; (case q1 => k_is); (case q2 => decide +kernel); (case q3 => decide +kernel))))); k_whole; intro h' tk' F' N'; (try k_sweep)))))
local macro_rules | `(tactic| k_upd) => `(tactic| first | (refine' Off.head ?a; (case a => k_all)) | (refine' Off.tail ?a ?b; (case a => k_ne); (case b => k_upd)))
local macro_rules | `(tactic| walk_at "pyIter ref") => `(tactic| (k_here; (with_reducible show wpAny _ _ (pyIter (Value.ref _)) (fun it s₂ => codeAny _ _ (Code.forLoop _ it _ _ _) _ s₂) _ _); k_dflt (refine' tup_iter ?k1 ?k2 ?k3 ?_; (case k1 => k_asm); (case k2 => k_asm); (case k3 => exact News.isTup (by k_asm) (by k_mem)); k_whole); intro I' h' o' F' N' x' l1 l2; (try k_lt l1); (try k_lt2 l2); (try k_sweep)))
local macro_rules | `(tactic| walk_at "codeAny forLoop") => `(tactic| (k_here; (with_reducible show codeAny _ _ (Code.forLoop _ (Value.ref _) _ _ _) (okR _) _); k_dflt (first
  | (refine' tup_last ?k1 ?k2 ?k3 ?k4 ?k5 ?k6 ?k7 ?_; (case k1 => k_asm); (case k4 => assumption); (case k2 => k_asm); (case k3 => k_upd); (case k5 => exact News.isTup (by k_asm) (by k_mem)); (case k6 => exact rfl); (case k7 => exact rfl); k_whole; intro h' F' N'; (try k_sweep))
  | (refine' tup_turn ?k1 ?k2 ?k3 ?k4 ?k5 ?k6 ?k7 ?_; (case k1 => k_asm); (case k4 => assumption); (case k2 => k_asm); (case k3 => k_updF); (case k5 => exact News.isTup (by k_asm) (by k_mem)); (case k6 => first | exact get2_0 | exact get2_1 | exact rfl); (case k7 => k_ne); k_whole; intro h' o' F' N' x' T'; (try k_sweep)))))
local macro_rules | `(tactic| walk_at "call builtin:len") => `(tactic| (k_here; (with_reducible show wpAny _ _ (call (Value.builtin _) [Value.ref _]) _ _ _); k_dflt (refine' d_len (knd := intKind _ _) ?k1 ?k2 ?k3 ?k4 ?k5 ?k6 ?_; (case k1 => k_asm); (case k2 => k_mem); (case k3 => assumption); (case k4 => assumption); (case k5 => first | exact rowsK_length _ | rfl); (case k6 => (first | omega | (simp only [List.length_append, List.length_cons, List.length_nil]; omega))); k_whole; intro tk')))
local macro_rules | `(tactic| walk_at "getMethod ref") => `(tactic| (k_here; (with_reducible show wpAny _ _ (getMethod (Value.ref _) (Str.ofString "get") _) _ _ _); k_dflt (refine' d_meth (knd := intKind _ _) ?k1 ?k2 ?k3 PySem.F.slot_dict_get PySem.F.type_dict_get ?_; (case k1 => k_asm); (case k2 => k_mem); (case k3 => assumption); k_whole)))
local macro_rules | `(tactic| walk_at "call builtin:dict.get") => `(tactic| (k_here; (with_reducible show wpAny _ _ (call (Value.builtin _) [Value.ref _, Value.int _ _]) _ _ _); k_dflt (refine' d_get (knd := intKind _ _) ?k1 ?k2 ?k3 ?k4 (intKind_is _ _ _ _) ?_; (case k1 => k_asm); (case k2 => k_mem); (case k3 => assumption); (case k4 => assumption); k_whole)))
local macro_rules | `(tactic| walk_at "compareOp In int ref") => `(tactic| (k_here; k_dflt (refine' d_in (knd := intKind _ _) ?k1 ?k2 ?k3 ?k4 (intKind_is _ _ _ _) ?_; (case k1 => k_asm); (case k2 => k_mem); (case k3 => assumption); (case k4 => assumption); k_whole)))
local macro_rules | `(tactic| walk_at "subscriptTail") => `(tactic| (k_here; (with_reducible show wpAny _ _ (subscriptTail _ _ (Value.ref _) (Value.int _ _)) _ _ _); k_dflt (refine' d_item (knd := intKind _ _) ?k1 ?k2 ?k3 (intKind_is _ _ _ _) ?k5 ?_; (case k1 => k_asm); (case k2 => k_mem); (case k3 => assumption); (case k5 => assumption); k_whole)))
local macro_rules | `(tactic| walk_at "setItem ref int") => `(tactic| (k_here; k_dflt (refine' d_set (knd := intKind _ _) ?k1 ?k2 ?k3 ?k4 (intKind_is _ _ _ _) ?k6 ?_; (case k1 => k_asm); (case k2 => k_asm); (case k3 => k_updF); (case k4 => assumption); (case k6 => (rw [sizeLine_eq]; (first | omega | (simp only [rowsK_length, rowK_length, List.length_map, List.length_append, List.length_cons, List.length_nil]; omega)))); k_whole); intro h' o' F' N' hd'; (try dsimp only at N'); (try simp only [rowsK_length, stored_rows] at hd'); (try k_sweep)))
local macro_rules | `(tactic| k_all) => `(tactic| first | assumption | (refine List.forall_mem_append.mpr ⟨?_, ?_⟩ <;> k_all) | (exact tbn_neAll (by first | assumption | tbn_find)) | (exact tbn_neAll (tbn_up (by assumption) (by tbn_find))))
local macro_rules | `(tactic| k_mem) => `(tactic| ((with_reducible show List.Mem _ _); first | (show (_ : Addr × Obj) ∈ (_ : List (Addr × Obj)); ktr_member) | ((with_reducible show List.Mem _ (_ ++ _)); first | (refine' List.mem_append_left _ ?q; (case q => k_mem)) | (refine' List.mem_append_right _ ?q; (case q => k_mem)))))
local macro_rules | `(tactic| k_put) => `(tactic| first | exact putL_nil _ _ _ _ _ | exact putL_one _ _ _ _ _ _ _ _)
local macro_rules | `(tactic| walk_at "eval Name") => `(tactic| (k_here; k_dflt (refine' nameX_L ?F ?v ?_ ?a ?b; (case F => k_asm); (case a => rfl); (case b => rfl); (case v => assumption); k_whole)))
local macro_rules | `(tactic| k_put) => `(tactic| first | exact putL_nil _ _ _ _ _ | exact putL_one _ _ _ _ _ _ _ _ | exact putL_err_pos | exact putL_err_expr)
local macro_rules | `(tactic| walk_at "getAttr ref") => `(tactic| (k_here; k_dflt (refine' exc_getD ?k1 ?k2 ?k3 ?k4 ?k5 ?k6 ?k7 ?k8 ?k9 ?k10 ?k11 ?_; (case k1 => k_asm); (case k2 => k_asm); (case k3 => (refine' InstAt.of_newsF ?N ?h1 ?h2; (case N => k_asm); (case h1 => k_mem); (case h2 => k_mem))); (case k4 => k_is); (case k5 => k_is); (case k6 => k_is); (case k7 => k_is); (case k8 => k_is); (case k9 => k_is); (case k10 => k_get); (case k11 => k_handed); k_whole)))
local macro_rules | `(tactic| walk_at "setAttr ref") => `(tactic| (k_here; k_dflt (refine' exc_set ?k1 ?k2 ?k3 ?k4 ?k5 ?k6 ?k7 ?k8 ?k9 ?k10 ?k11 ?k12 ?k13 ?_; (case k1 => k_asm); (case k2 => k_asm); (case k3 => k_asm); (case k4 => (refine' InstAt.of_newsF ?N ?h1 ?h2; (case N => k_asm); (case h1 => k_mem); (case h2 => k_mem))); (case k5 => exact rfl); (case k6 => k_is); (case k7 => kernel_rfl); (case k8 => k_is); (case k9 => k_is); (case k10 => k_get); (case k11 => k_put); (case k12 => k_upd); (case k13 => exact Nat.le_of_ble_eq_true rfl); k_whole; intro h' F' N'; (try k_sweep))))
local macro_rules | `(tactic| k_slotget) => `(tactic| first | assumption | rfl)
local macro_rules | `(tactic| walk_at "getAttr ref") => `(tactic| (k_here; k_dflt (refine' get_slotW ?k1 ?k2 ?k3 ?k4 ?k5 ?k6 ?k7 ?k8 ?k9 ?k10 ?k11 ?_; (case k1 => k_asm); (case k2 => k_asm); (case k3 => k_asm); (case k4 => k_mem); (case k5 => k_is); (case k6 => k_is); (case k7 => k_is); (case k8 => k_is); (case k9 => k_is); (case k10 => k_slotget); (case k11 => k_handed); k_whole)))
local macro_rules | `(tactic| walk_at "call builtin:len") => `(tactic| (k_here; (with_reducible show wpAny _ _ (call (Value.builtin _) [Value.str _ _]) _ _ _); k_dflt (refine' SC.len_str ?k1 ?_; (case k1 => assumption); k_whole)))
local macro_rules | `(tactic| walk_at "getMethod ref") => `(tactic| (k_here; (with_reducible show wpAny _ _ (getMethod (Value.ref _) (Str.ofString "match_core") _) _ _ _); k_dflt (refine' meth_core ?k1 ?k2 ?k3 ?k4 ?k5 ?_; (case k1 => k_asm); (case k2 => k_asm); (case k4 => k_inst); (case k3 => assumption); (case k5 => assumption); k_whole)))
local macro_rules | `(tactic| walk_at "call ref") => `(tactic| (k_here; (with_reducible show wpAny _ _ (call (Value.ref 266) _) _ _ _); refine Held.out ?_))
local macro_rules | `(tactic| walk_at "exec For Name Attribute cons nil") => `(tactic| (k_here; refine for_F ?_))
local macro_rules | `(tactic| walk_at "truthy ref") => `(tactic| (k_here; k_dflt (refine' truthyL ?k1 ?k2 ?k3 ?k4 ?_; (case k1 => k_asm); (case k2 => k_mem); (case k3 => first | assumption | (simp only [List.size_toArray, List.length_cons, List.length_nil]; decide) | (simp only [Array.size_push, List.size_toArray, List.length_cons, List.length_nil]; omega)); (case k4 => first | assumption | exact ne1 | exact ne0 | exact neP); k_whole); intro tk'))
theorem ex_name {w : World} {A : Around} {E : Value → Shared → Prop} {s : Shared} {x C L dx : Addr} {h₀ : Heap} {m : Str → Option Value} {od : Obj} {sl : Array (Option Value)} {v : Value} {b : Bool} {Q : Value → Shared → Prop}
    (F : Fr h₀ L s.heap m) (X : (hd.heap_39 w.params).In h₀) (hC : IsEx C) (I : InstAt s.heap x ⟨.ref C, some dx, .plain, sl⟩ C (some od)) (hsl : (sl[nmIx C]?).join = some v) (hv : handedIn v = true) (h : Q v { s with toks := s.toks + 1 }) :
    wpAny (model PR w) A (getAttr (.ref x) (Str.ofString "name") b) Q E s := by
  rcases hC with rfl | rfl | rfl | rfl | rfl <;> (refine' get_slot (i := nmIx _) (ox := ⟨_, some dx, .plain, sl⟩) F X I ?a ?b ?c ?d ?e ?f hsl hv h; (case a => k_is); (case b => k_is); (case c => k_is); (case d => k_is); (case e => k_is); (case f => k_is))
local macro_rules | `(tactic| k_is) => `(tactic| ((rename IsEx _ => h5); (rcases h5 with e5 | e5 | e5 | e5 | e5) <;> subst e5 <;> k_is))
theorem Sep.ne {l I : Led} (h : Sep l I) {p q : Addr × Obj} (hp : p ∈ I) (hq : q ∈ l) : p.1 ≠ q.1 := h.2 p hp q hq
structure Loc5 (x : Addr) (T : Str) (t1 : Tok) (p : Nat) (t2 : Tok) (ca er : Addr) (m : Str → Option Value) : Prop where
  e1 : m (Str.ofString "self") = some (.ref x)
  e2 : m (Str.ofString "text") = some (.str T t1)
  e3 : m (Str.ofString "pos") = some (.int p t2)
  e4 : m (Str.ofString "cache") = some (.ref ca)
  e5 : m (Str.ofString "error") = some (.ref er)
/-- what stands behind the loop: a row of its own -/
def Asked (w : World) (T : Str) (I Z : Led) (g : Heap) (L' : Addr) (s₀ : Shared) (e : Ex) (x : Addr) (t1 : Tok) (p : Nat) (t2 : Tok) (ca er ed dx : Addr) (oe : Obj) (lk : Led) (ol rs : List Addr) (tt : TT) (Bd : Nat) (s' : Shared) : Prop :=
  ∃ h' tk m' oc' od' r ro rs' k old tl, s' = { s₀ with heap := h', toks := tk } ∧ Fr g L' h' m' ∧ Loc5 x T t1 p t2 ca er m' ∧ m' (Str.ofString "expr_cache") = some (.ref r) ∧
    News g L' h' ((ca, oc') :: (ed, oe) :: (dx, od') :: (r, ro) :: (lk ++ (tl ++ Z))) ∧ Sep ((ca, oc') :: (ed, oe) :: (dx, od') :: (r, ro) :: lk) (tl ++ Z) ∧ oc'.IsDictOf (intKind PR w) (rowsK rs') ∧ OidsObj (tl ++ I) od' ((k, r) :: old) ∧ rs'[k]? = some r ∧
    RowObj w (tl ++ I) T ro (tt.tab.getD []) ∧ (r == sysModules) = false ∧ (old.length ≤ ol.length ∧ ol.length ≤ 8000 ∧ ∀ q ∈ old, q.2 ∈ ol) ∧ NewRows Z rs rs' ∧ Fresh tl Z ∧ rs'.length + unK una e tt ≤ Bd ∧
    ∀ q ∈ rs', ∃ o : Obj, o.cls = .type "dict" ∧ (q, o) ∈ (dx, od') :: (r, ro) :: (lk ++ (tl ++ Z))
theorem OidsIn.cons {I : Led} {D1 D2 d : Addr} {k : Nat} {tk : Tok} {ps : List Addr} {old : List (Nat × Addr)} (h1 : (D1, tupObj (.ref D2 :: ps.map .ref)) ∈ I) (h2 : (D2, tupObj [.int (k : Nat) tk, .ref d]) ∈ I)
    (hlen : ps.length = old.length) (hps : ∀ i (h : i < old.length) (h' : i < ps.length), ∃ tk, (ps[i], tupObj [.int (old[i].1 : Nat) tk, .ref old[i].2]) ∈ I) : OidsIn I D1 ((k, d) :: old) := by
  refine ⟨D2 :: ps, by simpa using h1, by simp [hlen], fun i h h' => ?_⟩
  cases i with
  | zero => exact ⟨tk, h2⟩
  | succ i => exact hps i (by simpa using h) (by simpa using h')
/-- an address that is none of the cells' -/
structure Apart (a ca ed dx r : Addr) (lk : Led) : Prop where
  h1 : a ≠ ca
  h2 : a ≠ ed
  h3 : a ≠ dx
  h4 : a ≠ r
  h5 : ∀ q ∈ lk, q.1 ≠ a
theorem asked_new {w : World} {T : Str} {I Z : Led} {g : Heap} {L' : Addr} {s₀ : Shared} {e : Ex} {x : Addr} {t1 : Tok} {p : Nat} {t2 : Tok} {ca er ed dx : Addr} {oe : Obj} {lk : Led} {ol rs : List Addr} {tt : TT} {Bd : Nat}
    {h' : Heap} {tk : Nat} {m' : Str → Option Value} {oc oc' odx : Obj} {r D1 D2 : Addr} {ro : Obj} {Y : Led} {kk : Int} {tkk : Tok} {ps : List Addr} {old : List (Nat × Addr)} {kd : Nat} {hs : Int} {th : Tok}
    (F : Fr g L' h' m') (N : News g L' h' Y) (hE : m' (Str.ofString "expr_cache") = some (.ref r)) (hL5 : Loc5 x T t1 p t2 ca er m')
    (hca : (ca, oc') ∈ Y) (hed : (ed, oe) ∈ Y) (hdx : (dx, dictOf [⟨hs, .str (Str.ofString "oids") th, .ref D1⟩] kd) ∈ Y) (hr : (r, ro) ∈ Y) (h1 : (D1, tupObj (.ref D2 :: ps.map .ref)) ∈ Y) (h2 : (D2, tupObj [.int kk tkk, .ref r]) ∈ Y)
    (hlk : ∀ p ∈ lk, p ∈ Y) (hI : ∀ p ∈ Z, p ∈ Y) (hIZ : ∀ p ∈ I, p ∈ Z) (hS : Sep ((ca, oc) :: (ed, oe) :: ((dx, odx) :: lk)) Z)
    (hoc : oc'.IsDictOf (intKind PR w) (rowsK (rs ++ [r]))) (hro : ro.IsDictOf (intKind PR w) []) (lo : (r == sysModules) = false)
    (rI : ∀ p ∈ lk ++ Z, p.1 ≠ r) (r1 : ca ≠ r) (r2 : ed ≠ r) (r3 : dx ≠ r) (a1 : Apart D1 ca ed dx r (lk ++ Z)) (a2 : Apart D2 ca ed dx r (lk ++ Z))
    (hk : kk = ((rs.length : Nat) : Int)) (hlen : ps.length = old.length) (hps : ∀ i (h : i < old.length) (h' : i < ps.length), ∃ tk, (ps[i], tupObj [.int (old[i].1 : Nat) tk, .ref old[i].2]) ∈ I) (hlen8 : old.length ≤ ol.length ∧ ol.length ≤ 8000 ∧ ∀ q ∈ old, q.2 ∈ ol)
    (htab : tt.tab = none) (hB : rs.length + una e tt ≤ Bd) (hRows : ∀ q ∈ rs, ∃ o : Obj, o.cls = .type "dict" ∧ (q, o) ∈ ((dx, odx) :: lk) ++ Z) : Asked w T I Z g L' s₀ e x t1 p t2 ca er ed dx oe lk ol rs tt Bd { s₀ with heap := h', toks := tk } := by
  subst hk
  classical
  let tl := Y.filter fun p => decide (Apart p.1 ca ed dx r (lk ++ Z))
  have mtl : ∀ {p}, p ∈ Y → Apart p.1 ca ed dx r (lk ++ Z) → p ∈ tl ++ I := fun {p} hp ha => List.mem_append_left _ (List.mem_filter.mpr ⟨hp, decide_eq_true ha⟩)
  have SI : Sub I (tl ++ I) := Sub.app
  have hSn := hS.1
  simp only [List.map_cons, List.nodup_cons, List.mem_cons, List.mem_map, not_or, not_exists, not_and] at hSn
  obtain ⟨⟨n1, n2, n3⟩, ⟨n4, n5⟩, n6, n7⟩ := hSn
  refine ⟨h', tk, m', oc', dictOf [⟨hs, .str (Str.ofString "oids") th, .ref D1⟩] kd, r, ro, rs ++ [r], rs.length, old, tl, rfl, F, hL5, hE, ?_, ⟨?_, ?_⟩, hoc, ?_, by simp, ?_, lo, hlen8, ⟨[r], rfl, fun q hq p hp => ?_⟩, ?_, ?_, ?_⟩
  · refine fun q hq => N q ?_
    simp only [List.mem_cons, List.mem_append] at hq
    rcases hq with rfl | rfl | rfl | rfl | hq | hq | hq
    · exact hca
    · exact hed
    · exact hdx
    · exact hr
    · exact hlk _ hq
    · exact (List.mem_filter.mp hq).1
    · exact hI _ hq
  · simp only [List.map_cons, List.nodup_cons, List.mem_cons, List.mem_map, not_or, not_exists, not_and]
    exact ⟨⟨n1, n2, r1, n3⟩, ⟨n4, r2, n5⟩, ⟨r3, n6⟩, fun q hq => rI q (List.mem_append_left _ hq), n7⟩
  · intro q hq c hc
    rcases List.mem_append.mp hq with hq | hq
    · have ha := of_decide_eq_true (List.mem_filter.mp hq).2
      simp only [List.mem_cons] at hc
      rcases hc with rfl | rfl | rfl | rfl | hc
      · exact ha.h1
      · exact ha.h2
      · exact ha.h3
      · exact ha.h4
      · exact fun e => ha.h5 c (List.mem_append_left _ hc) e.symm
    · simp only [List.mem_cons] at hc
      rcases hc with rfl | rfl | rfl | rfl | hc
      · exact hS.2 q hq (ca, oc) (.head _)
      · exact hS.2 q hq (ed, oe) (.tail _ (.head _))
      · exact hS.2 q hq (dx, odx) (.tail _ (.tail _ (.head _)))
      · exact rI q (List.mem_append_right _ hq)
      · exact hS.2 q hq c (.tail _ (.tail _ (.tail _ hc)))
  · exact .inr ⟨by simp, kd, hs, th, D1, rfl, OidsIn.cons (mtl h1 a1) (mtl h2 a2) hlen fun i h h' => let ⟨t, ht⟩ := hps i h h'; ⟨t, SI _ ht (by simp)⟩⟩
  · rw [htab]; exact ⟨[], hro, rfl, (fun y hy => by simp at hy), fun i x y h => by simp at h⟩
  · rw [List.mem_singleton.mp hq]; exact rI p (List.mem_append_right _ hp)
  · exact fun p hp q hq => (of_decide_eq_true (List.mem_filter.mp hp).2).h5 q (List.mem_append_right _ hq)
  · rw [una_eq] at hB
    have : cnt tt = 1 := by simp [cnt, htab]
    simp; omega
  · intro q hq
    rcases List.mem_append.mp hq with hq | hq
    · obtain ⟨o, ho, hm⟩ := hRows q hq
      simp only [List.cons_append, List.mem_cons, List.mem_append, Prod.mk.injEq] at hm ⊢
      rcases hm with ⟨rfl, _⟩ | hm | hm
      · exact ⟨_, rfl, .inl ⟨rfl, rfl⟩⟩
      · exact ⟨o, ho, .inr (.inr (.inl hm))⟩
      · exact ⟨o, ho, .inr (.inr (.inr (.inr hm)))⟩
    · rw [List.mem_singleton.mp hq]
      obtain ⟨_, _, hx, _⟩ := hro
      exact ⟨ro, hx.1, by simp⟩
theorem asked_old {w : World} {T : Str} {I Z : Led} {g : Heap} {L' : Addr} {s₀ : Shared} {e : Ex} {x : Addr} {t1 : Tok} {p : Nat} {t2 : Tok} {ca er ed dx : Addr} {oe : Obj} {lk : Led} {ol rs : List Addr} {tt : TT} {Bd : Nat}
    {h' : Heap} {tk : Nat} {m' : Str → Option Value} {oc odx : Obj} {r : Addr} {ro : Obj} {Y : Led} {k : Nat} {old : List (Nat × Addr)} {tab : Tab}
    (F : Fr g L' h' m') (N : News g L' h' Y) (hE : m' (Str.ofString "expr_cache") = some (.ref r)) (hL5 : Loc5 x T t1 p t2 ca er m')
    (hca : (ca, oc) ∈ Y) (hed : (ed, oe) ∈ Y) (hdx : (dx, odx) ∈ Y) (hr : (r, ro) ∈ Y)
    (hlk : ∀ p ∈ lk, p ∈ Y) (hI : ∀ p ∈ Z, p ∈ Y) (hIZ : ∀ p ∈ I, p ∈ Z) (hS : Sep ((ca, oc) :: (ed, oe) :: ((dx, odx) :: (r, ro) :: lk)) Z)
    (hoc : oc.IsDictOf (intKind PR w) (rowsK rs)) (hod : OidsObj I odx ((k, r) :: old)) (hk : rs[k]? = some r) (hro : RowObj w I T ro tab) (lo : (r == sysModules) = false) (hlen8 : old.length ≤ ol.length ∧ ol.length ≤ 8000 ∧ ∀ q ∈ old, q.2 ∈ ol)
    (htab : tt.tab = some tab) (hB : rs.length + una e tt ≤ Bd) (hRows : ∀ q ∈ rs, ∃ o : Obj, o.cls = .type "dict" ∧ (q, o) ∈ ((dx, odx) :: (r, ro) :: lk) ++ Z) : Asked w T I Z g L' s₀ e x t1 p t2 ca er ed dx oe lk ol rs tt Bd { s₀ with heap := h', toks := tk } := by
  refine ⟨h', tk, m', oc, odx, r, ro, rs, k, old, [], rfl, F, hL5, hE, fun q hq => N q ?_, hS, hoc, hod, hk, ?_, lo, hlen8, NewRows.refl, Fresh.nil, ?_, ?_⟩
  · simp only [List.mem_cons, List.mem_append, List.not_mem_nil, false_or] at hq
    rcases hq with rfl | rfl | rfl | rfl | hq | hq
    · exact hca
    · exact hed
    · exact hdx
    · exact hr
    · exact hlk _ hq
    · exact hI _ hq
  · rw [htab]; exact hro
  · rw [una_eq] at hB; omega
  · simpa using hRows
/-- what stands behind the look into the row -/
def Got (w : World) (T : Str) (I Z : Led) (g : Heap) (L' : Addr) (s₀ : Shared) (e : Ex) (x : Addr) (t1 : Tok) (p : Nat) (t2 : Tok) (ca er ed dx : Addr) (ol rs : List Addr) (Bd : Nat) (res : Option Tree) (tab : Tab) (tt : TT) (err : Err) (s' : Shared) : Prop :=
  ∃ h' tk m' oc' oe' od' r ro rs' k old tl lk v, s' = { s₀ with heap := h', toks := tk } ∧ Fr g L' h' m' ∧ Loc5 x T t1 p t2 ca er m' ∧ m' (Str.ofString "node") = some v ∧
    News g L' h' ((ca, oc') :: (ed, oe') :: (dx, od') :: (r, ro) :: (lk ++ (tl ++ Z))) ∧ Sep ((ca, oc') :: (ed, oe') :: (dx, od') :: (r, ro) :: lk) (tl ++ Z) ∧ oc'.IsDictOf (intKind PR w) (rowsK rs') ∧ ErrObj (tl ++ I) T oe' err ∧ OidsObj (tl ++ I) od' ((k, r) :: old) ∧ rs'[k]? = some r ∧
    RowObj w (tl ++ I) T ro tab ∧ (r == sysModules) = false ∧ (old.length ≤ ol.length ∧ ol.length ≤ 8000 ∧ ∀ q ∈ old, q.2 ∈ ol) ∧ NewRows Z rs rs' ∧ Fresh tl Z ∧ rs'.length + unK una e tt ≤ Bd ∧ Kids w (tl ++ I) T ol rs' e tt lk ∧ ResIn (tl ++ I) T v res ∧
    ∀ q ∈ rs', ∃ o : Obj, o.cls = .type "dict" ∧ (q, o) ∈ (dx, od') :: (r, ro) :: (lk ++ (tl ++ Z))
theorem rowK_at {es : List (Nat × Value)} {tab : Tab} {I : Led} {T : Str} (hl : es.length = tab.length) (h : ∀ (i : Nat) (x : Nat × Value) (y : Nat × Option Tree), es[i]? = some x → tab[i]? = some y → x.1 = y.1 ∧ ResIn I T x.2 y.2) (p : Nat) :
    (∀ r, tab.lookup p = some r → ∃ v, valueAt (rowK es) (p : Int) = some v ∧ ResIn I T v r) ∧ (tab.lookup p = none → ∀ x ∈ rowK es, x.1 ≠ (p : Int)) := by
  induction es generalizing tab with
  | nil =>
    cases tab with
    | nil => exact ⟨fun r h => (nomatch h), fun _ x hx => (nomatch hx)⟩
    | cons => cases hl
  | cons y es ih =>
    cases tab with
    | nil => cases hl
    | cons z tab =>
      obtain ⟨q, u⟩ := y
      obtain ⟨q', u'⟩ := z
      obtain ⟨rfl, hu⟩ := h 0 _ _ rfl rfl
      have ih := ih (tab := tab) (by simpa using hl) fun i x y h1 h2 => h (i + 1) x y h1 h2
      simp only [rowK, List.map_cons, List.lookup_cons]
      simp only [] at hu ⊢
      by_cases e : p = q
      · subst e
        simp only [BEq.rfl]
        exact ⟨fun r hr => ⟨u, by rw [valueAt_cons, if_pos rfl], by cases hr; exact hu⟩, fun hr => (nomatch hr)⟩
      · rw [show (p == q) = false from by simpa using e]
        refine ⟨fun r hr => ?_, fun hr x hx => ?_⟩
        · obtain ⟨v, a, b⟩ := ih.1 r hr
          exact ⟨v, by rw [valueAt_cons, if_neg (by omega)]; exact a, b⟩
        · rcases List.mem_cons.mp hx with rfl | hx
          · simp only []; omega
          · exact ih.2 hr x hx
theorem row_snoc {w : World} {I : Led} {T : Str} {o : Obj} {es : List (Nat × Value)} {tab : Tab} {p : Nat} {v : Value} {r : Option Tree} (hl : es.length = tab.length) (h4 : ∀ y ∈ tab, y.1 ≤ T.cps.size ∧ okE T.cps.size y.1 y.2)
    (h3 : ∀ (i : Nat) (x : Nat × Value) (y : Nat × Option Tree), es[i]? = some x → tab[i]? = some y → x.1 = y.1 ∧ ResIn I T x.2 y.2) (hr : ResIn I T v r) (hp : p ≤ T.cps.size) (hok : okE T.cps.size p r)
    (ho : o.IsDictOf (intKind PR w) (rowK es ++ [((p : Int), v)])) : RowObj w I T o (tab ++ [(p, r)]) := by
  refine ⟨es ++ [(p, v)], by simpa [rowK] using ho, by simp [hl], fun y hy => ?_, fun i x y hx hy => ?_⟩
  · rcases List.mem_append.mp hy with hy | hy
    · exact h4 y hy
    · rw [List.mem_singleton.mp hy]; exact ⟨hp, hok⟩
  · by_cases hi : i < es.length
    · rw [List.getElem?_append_left hi] at hx
      rw [List.getElem?_append_left (by omega)] at hy
      exact h3 i x y hx hy
    · rw [List.getElem?_append_right (by omega)] at hx
      rw [List.getElem?_append_right (by omega), ← hl] at hy
      cases hj : i - es.length with
      | zero => rw [hj] at hx hy; simp at hx hy; subst hx; subst hy; exact ⟨rfl, hr⟩
      | succ j => rw [hj] at hx; simp at hx
theorem isDictOf_cls {w : World} {o : Obj} {kvs : List (Int × Value)} (h : o.IsDictOf (intKind PR w) kvs) : o.cls = .type "dict" := by
  obtain ⟨_, _, hx, _⟩ := h; exact hx.1
theorem Kids.lr {w : World} {I : Led} {T : Str} {ol rs : List Addr} {e : Ex} {tt : TT} {l : Led} {t : Option Tab} (h : Kids w I T ol rs e tt l) : Kids w I T ol rs e (.nd t tt.l tt.r) l := by cases e <;> exact h
theorem unK_lr {e : Ex} {tt : TT} {t : Option Tab} : unK una e (.nd t tt.l tt.r) = unK una e tt := by cases e <;> rfl
theorem core_out (T : List Nat) (e : PE) (tt : TT) (p : Nat) (err : Err) : ∃ tab, (core T e tt p err).2.1.tab = some tab ∧ (core T e tt p err).2.2 = post e.n p (core T e tt p err).1 ((tt.tab.getD []).lookup p |>.elim (unc T (core T) e tt p err).2.2 fun _ => err) := by
  rw [core_memo]; unfold memo
  cases (tt.tab.getD []).lookup p <;> exact ⟨_, rfl, rfl⟩
theorem Ex.pe_n (e : Ex) : e.pe.n = e.n := by cases e <;> rfl
theorem allLt_app {d : Addr} : ∀ {l l' : Led}, AllLt d (l ++ l') → AllLt d l ∧ AllLt d l'
  | [], _, h => ⟨trivial, h⟩
  | _ :: _, _, h => let ⟨a, b⟩ := allLt_app h.2; ⟨⟨h.1, a⟩, b⟩
theorem ne_ofLt {d : Addr} {l l' : Led} (h : AllLt d (l ++ l')) : ∀ q ∈ l, q.1 ≠ d := tbn_neAll (allLt_app h).1
local macro_rules | `(tactic| walk_at "binaryOp Add ref ref") => `(tactic| (k_here; (with_reducible show wpAny _ _ (binaryOp _ (Value.ref _) (Value.ref _)) _ _ _); k_dflt (refine' add_tupD ?F ?N ?a ?b ?h0 ?h1 ?z ?_; (case F => k_asm); (case N => k_asm); (case a => exact News.isTup (by k_asm) (by k_mem)); (case b => exact News.isTup (by k_asm) (by k_mem)); (case h0 => exact (List.cons_ne_nil _ _)); (case h1 => assumption); (case z => (rw [sizeLine_eq]; simp only [List.length_map, List.length_cons, List.length_nil]; omega)); k_whole); intro D' h' F' N' l1; (try k_lt l1); (try k_sweep)))
theorem meth_unc {w : World} {A : Around} {E : Value → Shared → Prop} {s : Shared} {e : Ex} {x C L : Addr} {ox : Obj} {h₀ : Heap} {m : Str → Option Value} {es : List DictEntry} {n : Nat} {pl : Sem Bool} {Q : Value × List Value → Shared → Prop}
    (F : Fr h₀ L s.heap m) (X : (hd.heap_39 w.params).In h₀) (I : InstAt s.heap x ox C (some (dictOf es n))) (hC : e.cls = C) (hl : getL (Str.ofString "_uncached_match") es = some none) (h : Q (.ref e.fU, [.ref x]) s) :
    wpAny (model PR w) A (getMethod (.ref x) (Str.ofString "_uncached_match") pl) Q E s := by
  cases e <;> (simp only [Ex.cls] at hC; simp only [Ex.fU] at h; subst hC; refine method_inst F X I (by k_is) (by k_is) (by k_is) hl h)
theorem keep_unc (P : Params) (e : Ex) : keepIn (hd.heap_39 P) (.ref e.fU) = true := by
  cases e <;> (simp only [Ex.fU]; k_is)
local macro_rules | `(tactic| walk_at "getMethod ref") => `(tactic| (k_here; (with_reducible show wpAny _ _ (getMethod (Value.ref _) (Str.ofString "_uncached_match") _) _ _ _); k_dflt (refine' meth_unc ?k1 ?k2 ?k3 ?k4 ?k5 ?_; (case k1 => k_asm); (case k2 => k_asm); (case k3 => k_inst); (case k4 => assumption); (case k5 => k_get); k_whole)))
local macro_rules | `(tactic| k_is) => `(tactic| ((with_reducible show keepIn _ (Value.ref (Ex.fU _)) = true); exact keep_unc _ _))
theorem nm_len {n : Nat} (h : n ≤ 100) : 1 ≤ (nmS n).length ∧ (nmS n).length ≤ 10 := by
  have : ∀ k : Fin 101, 1 ≤ (nmS k.1).length ∧ (nmS k.1).length ≤ 10 := by decide +kernel
  exact this ⟨n, by omega⟩
theorem nm_truthy {w : World} {A : Around} {E : Value → Shared → Prop} {s : Shared} {n : Nat} {t : Tok} {Q : Bool → Shared → Prop} (hn : n ≤ 100) (h : ∀ tk, Q true { s with toks := tk }) : wpAny (model PR w) A (truthy (.str (nmS n) t)) Q E s := by
  have := nm_len hn
  exact PySem.P.truthy_str (by omega) (by rw [show (((nmS n).length : Int) != 0) = true from by simp; omega]; exact h _)
local macro_rules | `(tactic| walk_at "truthy str") => `(tactic| (k_here; k_dflt (refine' nm_truthy ?k1 ?_; (case k1 => assumption); k_whole); intro tk'))
local macro_rules | `(tactic| walk_at "getAttr ref") => `(tactic| (k_here; (with_reducible show wpAny _ _ (getAttr (Value.ref _) (Str.ofString "name") _) _ _ _); k_dflt (refine' ex_name ?k1 ?k2 ?k3 ?k4 ?k5 ?k6 ?_; (case k1 => k_asm); (case k2 => k_asm); (case k4 => k_inst); (case k3 => assumption); (case k5 => assumption); (case k6 => exact rfl); k_whole)))
theorem core_ok {w : World} {T : Str} {e : Ex} (hU : UncOK w T e) : CoreOK w T e := by
  intro dp un gd cn cs a ccd cl outer A₀ base h₀ L m s loose mean mg mb Q E ca er ed oc oe fs ol rs lc I Z tt p err t1 t2 Bd B F X Tp hk hIZ N hSep hSt hCl hOl hp hB hB2 hT hd hun ret
  obtain ⟨l1, lk, rfl, hN, hKid⟩ := cells_split.mp hCl
  obtain ⟨hC, sl, tn, hx, hsl⟩ := hSt.ex.own
  obtain ⟨hCo, hEo, hEx, heo, lo, hRows⟩ := hSt
  have hnm := hEx.named
  have hnl := hEx.nle
  have hxZ := hIZ _ hx
  generalize hxe : e.x = x at hx hnm hxZ
  generalize hdxe : e.dx = dx at hx hN hxZ
  generalize hCe : e.cls = C at hx hC hsl hxZ
  unfold CacheObj at hCo
  have hrs : rs.length ≤ 1000 := by omega
  refine wpAny_call ?_
  k_dflt ktr_enter
  k_steps
  rename Fr _ _ _ (fun _ => _) => F1
  rename News _ _ _ _ => N1
  rename_i g1 L1 h1 FG1 B1 X1 T1
  refine wpAny_mono (Q := fun f s' => f = Flow.next ∧ Asked w T I Z g1 L1 { heap := h1, gens := s.gens, drawn := s.drawn, toks := tk, os := s.os } e x t1 p t2 ca er ed dx oe lk ol rs tt Bd s') ?_ ?_ (fun _ _ q => q)
  · refine for_F ?_
    cases htab : tt.tab with
    | none =>
      rw [htab] at hN
      obtain ⟨od, old, rfl, hod, hold, hlen⟩ := hN
      have hlen8 : old.length ≤ ol.length ∧ ol.length ≤ 8000 ∧ ∀ q ∈ old, q.2 ∈ ol := ⟨hlen.1, hlen.2, hold⟩
      simp only [List.cons_append, List.nil_append] at N1
      obtain ⟨⟨s1, s2, s3⟩, r1, r2, r3⟩ := Sep.three hSep
      rcases hod with ⟨rfl, k, rfl⟩ | ⟨hne0, k, hs, t, tup, rfl, hoi⟩
      · k_steps
        refine asked_new (by k_asm) (by k_asm) (by rfl) ⟨by rfl, by rfl, by rfl, by rfl, by rfl⟩ (by k_mem) (by k_mem) (by k_mem) (by k_mem) (ps := []) (old := []) (by k_mem) (by k_mem) ?_ ?_ hIZ hSep (by assumption) (by assumption) (by assumption) ?_ ?_ ?_ ?_ ⟨?_, ?_, ?_, ?_, ?_⟩ ⟨?_, ?_, ?_, ?_, ?_⟩ ?_ rfl ?_ ?_ htab hB hRows
        all_goals first | assumption | (intro q hq; (try simp only [List.mem_cons, List.mem_append]); simp only [hq, true_or, or_true]; done) | exact tbn_neAll (by tbn_find) | exact ne_ofLt (by tbn_find) | k_ne | (simp; done) | (intro i h; simp at h; done)
      · obtain ⟨ps, htup, hpl, hps⟩ := hoi
        have htupZ := hIZ _ htup
        have hps0 : ps.map Value.ref ≠ [] := fun h => hne0 (by have := congrArg List.length h; simp at this; simpa [this] using hpl.symm)
        k_steps
        refine tup_loop (P := Loc5 x T t1 p t2 ca er) (by k_asm) (by k_asm) (by assumption) (News.isTup (by k_asm) (by k_mem)) ⟨by rfl, by rfl, by rfl, by rfl, by rfl⟩ (by k_updF) (fun o' => by k_upd) ⟨_, by k_mem⟩ rfl ?_ ?_
        · intro i v h2 m2 o2 tk2 hv hP F2 N2 x2
          obtain ⟨e1, e2, e3, e4, e5⟩ := hP
          have hi : i < ps.length := by
            have := (Array.getElem?_eq_some_iff.mp hv).1; simpa using this
          obtain ⟨tkp, hpi⟩ := hps i (by omega) hi
          replace hpi := hIZ _ hpi
          have hv' : v = .ref ps[i] := by simpa [hi] using hv.symm
          subst hv'
          have hro := hOl _ (hold _ (List.getElem_mem (by omega : i < old.length)))
          generalize old[i].2 = rO at hpi hro
          generalize old[i].1 = kO at hpi
          generalize ps[i] = pI at hpi
          k_steps
          have hvA : (valueAt (rowsK rs) (kO : Int)).getD Value.none = .none ∨ ∃ r2, (valueAt (rowsK rs) (kO : Int)).getD Value.none = .ref r2 ∧ r2 ≠ rO ∧ r2 ∈ rs := by
            rw [valueAt_rows]
            cases hq : rs[kO]? with
            | none => exact .inl rfl
            | some r2 => exact .inr ⟨r2, rfl, fun h => hro.1 (h ▸ List.mem_of_getElem? hq), List.mem_of_getElem? hq⟩
          rcases hvA with hvA | ⟨r2, hvA, hvB, hvC⟩
          · rw [hvA]
            k_steps
            dsimp only
            exact TurnEnd.intro (by k_asm) (by k_asm) (by exact ⟨e1, e2, e3, e4, e5⟩)
          · rw [hvA]
            obtain ⟨o5, hcls5, hm5⟩ := hRows r2 hvC
            obtain ⟨o6, hm6⟩ := hro.2
            rename News _ _ _ _ => N6
            refine wpAny_is_ref_other hvB (N6 (r2, o5) (by simp only [List.cons_append, List.nil_append, List.mem_cons, List.mem_append] at hm5 ⊢; rcases hm5 with hm5 | hm5 | hm5 <;> simp only [hm5, true_or, or_true])).1 (N6 (rO, o6) (by k_mem)).1 (by rw [hcls5]; decide) ?_
            k_steps
            dsimp only
            exact TurnEnd.intro (by k_asm) (by k_asm) (by exact ⟨e1, e2, e3, e4, e5⟩)
        · intro h2 m2 tk2 hP F2 N2
          obtain ⟨e1, e2, e3, e4, e5⟩ := hP
          k_steps
          refine asked_new (by k_asm) (by k_asm) (by rfl) (by exact ⟨e1, e2, e3, e4, e5⟩) (by k_mem) (by k_mem) (by k_mem) (by k_mem) (ps := ps) (old := old) (by k_mem) (by k_mem) ?_ ?_ hIZ hSep (by assumption) (by assumption) (by assumption) ?_ ?_ ?_ ?_ ⟨?_, ?_, ?_, ?_, ?_⟩ ⟨?_, ?_, ?_, ?_, ?_⟩ ?_ hpl hps hlen8 htab hB hRows
          all_goals first | assumption | (intro q hq; (try simp only [List.mem_cons, List.mem_append]); simp only [hq, true_or, or_true]; done) | exact tbn_neAll (by tbn_find) | exact ne_ofLt (by tbn_find) | k_ne | (simp; done) | (intro i h; simp at h; done)
    | some tab =>
      rw [htab] at hN
      obtain ⟨od, k, r, ro, old, rfl, hod, hkr, hro, lor, hlen⟩ := hN
      simp only [List.cons_append, List.nil_append] at N1
      obtain ⟨⟨s1, s2, s3, s4, s5, s6⟩, r1, r2, r3, r4⟩ := Sep.four hSep
      obtain ⟨h0, _⟩ | ⟨hne0, kd, hs, t, tup, rfl, ps, htup, hpl, hps⟩ := id hod
      · cases h0
      have h0p : 0 < ps.length := by rw [hpl]; simp
      obtain ⟨tkp, hpi⟩ := hps 0 (by simp) h0p
      simp only [List.getElem_cons_zero] at hpi
      replace hpi := hIZ _ hpi
      have htupZ := hIZ _ htup
      have hv0 : (ps.map Value.ref).toArray[0]? = some (.ref ps[0]) := by simp [h0p]
      generalize ps[0] = pI at hpi hv0
      k_steps
      refine tup_turn (by k_asm) (by k_asm) (by k_updF) (by assumption) (News.isTup (by k_asm) (by k_mem)) hv0 (by k_ne) ?_
      intro h2 o2 F2 N2 x2 ht2
      k_steps
      have hvA : (valueAt (rowsK rs) (k : Int)).getD Value.none = .ref r := by rw [valueAt_rows, hkr]; rfl
      rw [hvA]
      k_steps
      dsimp only
      refine asked_old (by k_asm) (by k_asm) (by rfl) (by exact ⟨by rfl, by rfl, by rfl, by rfl, by rfl⟩) (by k_mem) (by k_mem) (by k_mem) (by k_mem) ?_ ?_ hIZ hSep hCo hod hkr hro lor hlen htab hB hRows
      all_goals first | assumption | (intro q hq; (try simp only [List.mem_cons, List.mem_append]); simp only [hq, true_or, or_true]; done)
  · rintro f s' ⟨rfl, h1', tk', m1, oc1, od1, r, ro, rs1, k, old, tl, rfl, F2, hL5, hEc, N2, hSep2, hCo2, hOid, hkr, hRo, lor, hlen, hNR, hFr, hB1, hRows1⟩
    dsimp only
    clear N1 F1
    obtain ⟨e1, e2, e3, e4, e5⟩ := hL5
    walk1
    refine wpAny_mono (Q := fun f s' => f = Flow.next ∧ Got w T I Z g1 L1 { heap := h1', gens := s.gens, drawn := s.drawn, toks := tk', os := s.os } e x t1 p t2 ca er ed dx ol rs Bd (core T.cps.toList e.pe tt p err).1
      (((core T.cps.toList e.pe tt p err).2.1.tab).getD []) (core T.cps.toList e.pe tt p err).2.1 ((tt.tab.getD []).lookup p |>.elim (unc T.cps.toList (core T.cps.toList) e.pe tt p err).2.2 fun _ => err) s') ?_ ?_ (fun _ _ q => q)
    · obtain ⟨es, hro1, hro2, hro4, hro3⟩ := id hRo
      have hesl := row_len hro1 hro2 hro4 hro3
      have hrow := rowK_at hro2 hro3 p
      obtain ⟨⟨s1, s2, s3, s4, s5, s6⟩, r1, r2, r3, r4⟩ := Sep.four hSep2
      cases hlk : (tt.tab.getD []).lookup p with
      | some r0 =>
        obtain ⟨v, hv, hres⟩ := hrow.1 _ hlk
        have hsome : (valueAt (rowK es) (p : Int)).isSome = true := by rw [hv]; rfl
        k_steps
        have hcore : core T.cps.toList e.pe tt p err = (r0, .nd (some (tt.tab.getD [])) tt.l tt.r, post e.pe.n p r0 err) := by rw [core_memo]; unfold memo; rw [hlk]
        rw [hcore]
        dsimp only [Option.elim]
        exact ⟨_, _, _, oc1, oe, od1, r, ro, rs1, k, old, tl, lk, v, rfl, by k_asm, ⟨by exact e1, by exact e2, by exact e3, by exact e4, by exact e5⟩, by rfl, by k_asm, hSep2, hCo2, ErrObj.mono Sub.app hEo, hOid, hkr, hRo, lor, hlen, hNR, hFr, by rw [unK_lr]; exact hB1, Kids.lr (Kids.mono Sub.app (Kids.rows hNR hKid)), hres, hRows1⟩
      | none =>
        obtain ⟨h0, _⟩ | ⟨_, kd, hs, t, tup, rfl, hoi⟩ := id hOid
        · cases h0
        have hno := hrow.2 hlk
        have hsome : (valueAt (rowK es) (p : Int)).isSome = false := by rw [valueAt_none hno]; rfl
        k_steps
        subst hxe
        rename News _ _ _ _ => N3
        rename Obj.IsDictOf (intKind PR w) _ (stored _ _ _) => hro5
        refine hU _ _ _ _ _ _ _ _ _ _ _ _ _ _ _ loose mean mg mb _ _ ca er ed oc1 oe fs ol rs1 lk (tl ++ I) _ tt p err _ _ Bd B1 (by k_asm) X1 T1 rfl ?_ (News.in2 N3) (Sep.in2 hSep2) ⟨hCo2, ErrObj.mono Sub.app hEo, ExIn.mono Sub.app hEx, List.mem_append_right _ heo, lo, ?_⟩ (Kids.mono Sub.app (Kids.rows hNR hKid)) (hNR.ol hOl fun _ h => .tail _ (.tail _ (List.mem_append_right _ h))) hp hB1 hB2 hT ?_ ?_ ?_
        · intro q hq
          refine .tail _ (.tail _ ?_)
          rcases List.mem_append.mp hq with hq | hq
          · exact List.mem_append_left _ hq
          · exact List.mem_append_right _ (hIZ _ hq)
        · intro q hq
          obtain ⟨o, ho, hm⟩ := hRows1 q hq
          simp only [List.mem_cons, List.mem_append, Prod.mk.injEq] at hm ⊢
          rcases hm with ⟨rfl, rfl⟩ | ⟨rfl, rfl⟩ | hm | hm | hm
          · exact ⟨_, ho, .inr (.inl ⟨rfl, rfl⟩)⟩
          · obtain ⟨_, _, hx5, _⟩ := id hro5
            exact ⟨_, hx5.1, .inr (.inr (.inl ⟨rfl, rfl⟩))⟩
          · exact ⟨o, ho, .inl hm⟩
          · exact ⟨o, ho, .inr (.inr (.inr (.inl hm)))⟩
          · exact ⟨o, ho, .inr (.inr (.inr (.inr hm)))⟩
        · show dp + 1 + _ + _ < _; omega
        · show un + 3 + _ + _ < _; omega
        · intro v3 h3 tk3 oc3 oe3 rs3 lk3 tl3 F3 N3 hSep3 hSt3 hK3 hNR3 hF3 hB3 hRes3
          obtain ⟨hCo3, hEo3, _, _, _, hRows3⟩ := hSt3
          have hSep4 := Sep.out2 (od' := dictOf [⟨hs, .str (Str.ofString "oids") t, .ref tup⟩] kd) (ro' := ro) hSep3 hF3 s6 (fun q hq => r3 q (List.mem_append_right _ hq)) (fun q hq => r4 q (List.mem_append_right _ hq))
          obtain ⟨⟨z1, z2, z3, z4, z5, z6⟩, y1, y2, y3, y4⟩ := Sep.four hSep4
          have N4 := News.out2 N3
          clear N3
          rw [stored_new hno] at hro5
          k_steps
          rename Obj.IsDictOf (intKind PR w) _ (stored _ _ _) => hro6
          rw [stored_last hno] at hro6
          have hcore : core T.cps.toList e.pe tt p err = ((unc T.cps.toList (core T.cps.toList) e.pe tt p err).1, .nd (some (tt.tab.getD [] ++ [(p, (unc T.cps.toList (core T.cps.toList) e.pe tt p err).1)])) (unc T.cps.toList (core T.cps.toList) e.pe tt p err).2.1.l (unc T.cps.toList (core T.cps.toList) e.pe tt p err).2.1.r, post e.pe.n p (unc T.cps.toList (core T.cps.toList) e.pe tt p err).1 (unc T.cps.toList (core T.cps.toList) e.pe tt p err).2.2) := by rw [core_memo]; unfold memo; rw [hlk]
          rw [hcore]
          dsimp only [Option.elim]
          have hokU := Kids.okU hKid err hp
          generalize unc T.cps.toList (core T.cps.toList) e.pe tt p err = U at *
          refine ⟨_, _, _, oc3, oe3, dictOf [⟨hs, .str (Str.ofString "oids") t, .ref tup⟩] kd, r, _, rs3, k, old, tl3 ++ tl, lk3, v3, rfl, by k_asm, ⟨by exact e1, by exact e2, by exact e3, by exact e4, by exact e5⟩, by rfl, by rw [List.append_assoc]; k_asm, by rw [List.append_assoc]; exact Sep.out2 hSep3 hF3 s6 (fun q hq => r3 q (List.mem_append_right _ hq)) (fun q hq => r4 q (List.mem_append_right _ hq)), hCo3,
            by rw [List.append_assoc]; exact hEo3, by rw [List.append_assoc]; exact OidsObj.mono Sub.app hOid, ?_, by rw [List.append_assoc]; exact row_snoc hro2 hro4 (fun i x y h1 h2 => ⟨(hro3 i x y h1 h2).1, ResIn.mono Sub.app (hro3 i x y h1 h2).2⟩) (hRes3) hp hokU hro6, lor, hlen, hNR.trans hNR3 (fun _ h => .tail _ (.tail _ (List.mem_append_right _ h))), ?_, by rw [unK_lr]; exact hB3,
            by rw [List.append_assoc]; exact Kids.lr (hK3), by rw [List.append_assoc]; exact hRes3, ?_⟩
          · obtain ⟨more, rfl, _⟩ := hNR3
            rw [List.getElem?_append_left (List.getElem?_eq_some_iff.mp hkr).1]; exact hkr
          · intro q hq z hz
            rcases List.mem_append.mp hq with hq | hq
            · exact hF3 q hq z (.tail _ (.tail _ (List.mem_append_right _ hz)))
            · exact hFr q hq z hz
          · intro q hq
            obtain ⟨o, ho, hm⟩ := hRows3 q hq
            simp only [List.mem_cons, List.mem_append, Prod.mk.injEq] at hm ⊢
            rcases hm with hm | hm | ⟨rfl, rfl⟩ | ⟨rfl, rfl⟩ | hm | hm
            · exact ⟨o, ho, .inr (.inr (.inl hm))⟩
            · exact ⟨o, ho, .inr (.inr (.inr (.inl (.inl hm))))⟩
            · exact ⟨_, ho, .inl ⟨rfl, rfl⟩⟩
            · exact ⟨_, isDictOf_cls hro6, .inr (.inl ⟨rfl, rfl⟩)⟩
            · exact ⟨o, ho, .inr (.inr (.inr (.inl (.inr hm))))⟩
            · exact ⟨o, ho, .inr (.inr (.inr (.inr hm)))⟩
    · rintro f s' ⟨rfl, h2', tk2, m2, oc2, oe2, od2, r', ro2, rs2, k2, old2, tl2, lk2, v, rfl, F3, hL5, hNd, N3, hSep3, hCo3, hEo3, hOid3, hkr3, hRo3, lor3, hlen3, hNR3, hF3, hB3, hK3, hRes3, hRows3⟩
      dsimp only
      clear N2 F2 hSep2 hCo2 hOid hkr hRo lor hlen hNR hFr hB1 hRows1 e1 e2 e3 e4 e5 hEc
      obtain ⟨e1, e2, e3, e4, e5⟩ := hL5
      obtain ⟨tab3, htab3, herr3⟩ := core_out T.cps.toList e.pe tt p err
      rw [Ex.pe_n] at herr3
      generalize core T.cps.toList e.pe tt p err = U at *
      obtain ⟨U1, U2, U3⟩ := U
      simp only [] at hRo3 hB3 hK3 hRes3 htab3 herr3
      rw [htab3] at hRo3
      generalize ((tt.tab.getD []).lookup p |>.elim (unc T.cps.toList (core T.cps.toList) e.pe tt p err).2.2 fun _ => err) = errM at *
      simp only [Option.getD] at hRo3
      have fin : ∀ v' h' tk' oe', Fr h₀ L h' m → News h₀ L h' ((ca, oc2) :: (ed, oe') :: (dx, od2) :: (r', ro2) :: (lk2 ++ (tl2 ++ Z))) → ErrObj (tl2 ++ I) T oe' U3 → ResIn (tl2 ++ I) T v' U1 → Q v' { s with heap := h', toks := tk' } := by
        intro v' h' tk' oe' f n eo' rr
        refine ret v' h' tk' oc2 oe' rs2 ((dx, od2) :: (r', ro2) :: lk2) tl2 f n (Sep.obj hSep3) ⟨hCo3, eo', ExIn.mono Sub.app hEx, List.mem_append_right _ heo, lo, hRows3⟩ ?_ hNR3 hF3 ?_ rr
        · refine cells_split.mpr ⟨[(dx, od2), (r', ro2)], lk2, rfl, ?_, hK3⟩
          rw [hdxe, htab3]
          exact ⟨od2, k2, r', ro2, old2, rfl, hOid3, hkr3, hRo3, lor3, hlen3⟩
        · rw [una_eq]
          have : cnt U2 = 0 := by simp [cnt, htab3]
          simp only [this]; omega
      cases U1 with
      | none =>
        cases hRes3
        obtain ⟨ke, h1e, h2e, h3e, t1e, t2e, t3e, tTe, tqe, qe, eve, rfl, herrM⟩ := id hEo3
        obtain ⟨⟨s1, s2, s3, s4, s5, s6⟩, r1, r2, r3, r4⟩ := Sep.four hSep3
        have hex3 : (x, (⟨.ref C, some dx, .plain, sl⟩ : Obj)) ∈ tl2 ++ Z := List.mem_append_right _ (hIZ _ hx)
        have her3 : (er, errO ed fs) ∈ tl2 ++ Z := List.mem_append_right _ (hIZ _ heo)
        have hpost : U3 = if qe ≤ (p : Int) then some (e.n, p) else errM := by
          rw [herr3]; unfold post
          cases errM with
          | none => obtain ⟨rfl, _⟩ := herrM; first | (simp; done) | (simp; omega)
          | some z => obtain ⟨rfl, _⟩ := herrM; simp [Int.ofNat_le]
        k_steps
        · rename Fr h₀ L _ m => kF
          rename News h₀ L _ _ => kN
          have hle : qe ≤ (p : Int) := by omega
          rw [if_pos hle] at hpost
          refine fin _ _ _ _ kF kN ?_ rfl
          rw [hpost]
          exact ⟨ke, h1e, h2e, h3e, t1e, t2e, t3e, tTe, _, p, _, rfl, rfl, x, rfl, Named.mono Sub.app hnm⟩
        · rename Fr h₀ L _ m => kF
          rename News h₀ L _ _ => kN
          have hle : ¬ qe ≤ (p : Int) := by omega
          rw [if_neg hle] at hpost
          refine fin _ _ _ _ kF kN ?_ rfl
          rw [hpost]
          exact hEo3
      | some tr =>
        have hnode := hRes3
        cases hRes3 with
        | mk n1 n2 n3 n4 =>
        have n1Z := mem_mono hIZ _ n1
        k_steps
        rename Fr h₀ L _ m => kF
        rename News h₀ L _ _ => kN
        exact fin _ _ _ _ kF kN (by rw [herr3]; exact hEo3) hnode
end Mine
namespace Mine
local macro_rules | `(tactic| walk_at "zz") => `(tactic| fail)
local macro_rules | `(tactic| walk_at "zz") => `(tactic| fail)
local macro_rules | `(tactic| walk_at "zz") => `(tactic| fail)
local macro_rules | `(tactic| walk_at "zz") => `(tactic| fail)
local macro_rules | `(tactic| walk_at "zz") => `(tactic| fail)
local macro_rules | `(tactic| walk_at "zz") => `(tactic| fail)
local macro_rules | `(tactic| walk_at "zz") => `(tactic| fail)
local macro_rules | `(tactic| walk_at "zz") => `(tactic| fail)
local macro_rules | `(tactic| walk_at "zz") => `(tactic| fail)
local macro_rules | `(tactic| walk_at "zz") => `(tactic| fail)
theorem rs_A_w : True := by w_top off; trivial
local macro_rules | `(tactic| k_all) => `(tactic| assumption)
local macro_rules | `(tactic| k_ne) => `(tactic| first | assumption | exact Ne.symm (by assumption) | exact Nat.ne_of_lt (by assumption) | exact Nat.ne_of_gt (by assumption))
local macro_rules | `(tactic| k_room) => `(tactic| ktr_room)
local macro_rules | `(tactic| walk_at "call builtin:getattr") => `(tactic| (k_here; (with_reducible show wpAny _ _ (call (Value.builtin _) [_, Value.str _ _, _]) _ _ _); k_dflt (first
  | (refine' ga3_own ?k1 ?k2 ?k3 ?k4 ?k5 ?k6 ?k7 ?k8 ?k9 ?k10 ?k11 ?_; (case k1 => k_asm); (case k2 => k_asm); (case k3 => k_inst); (case k4 => k_is); (case k5 => k_is); (case k6 => k_is); (case k7 => k_is); (case k8 => k_get); (case k9 => k_handed); (case k10 => decide +kernel); (case k11 => k_is); k_whole)
  | (refine' ga3_miss ?k1 ?k2 ?k3 ?k4 ?k5 ?k6 ?k7 ?k8 ?k9 ?k10 ?k11 ?k12 ?k13 ?_; (case k1 => k_asm); (case k2 => k_asm); (case k3 => k_asm); (case k4 => k_inst); (case k5 => k_is); (case k6 => k_is); (case k7 => k_is); (case k8 => decide +kernel); (case k9 => k_get); (case k10 => decide +kernel); (case k11 => k_is); (case k12 => exact rfl); (case k13 => (first | (refine' MsgOk.of ?q1 ?q2 ?q3; (case q1 => k_is); (case q2 => decide +kernel); (case q3 => decide +kernel)) | (rename IsEx _ => h5; rcases h5 with e5 | e5 | e5 | e5 | e5 <;> subst e5 <;> (refine' MsgOk.of ?q1 ?q2 ?q3; (case q1 => k_is); (case q2 => decide +kernel); (case q3 => decide +kernel))))); k_whole; intro h' tk' F' N'; (try k_sweep)))))
local macro_rules | `(tactic| k_upd) => `(tactic| first | (refine' Off.head ?a; (case a => k_all)) | (refine' Off.tail ?a ?b; (case a => k_ne); (case b => k_upd)))
local macro_rules | `(tactic| walk_at "pyIter ref") => `(tactic| (k_here; (with_reducible show wpAny _ _ (pyIter (Value.ref _)) (fun it s₂ => codeAny _ _ (Code.forLoop _ it _ _ _) _ s₂) _ _); k_dflt (refine' tup_iter ?k1 ?k2 ?k3 ?_; (case k1 => k_asm); (case k2 => k_asm); (case k3 => exact News.isTup (by k_asm) (by k_mem)); k_whole); intro I' h' o' F' N' x' l1 l2; (try k_lt l1); (try k_lt2 l2); (try k_sweep)))
local macro_rules | `(tactic| walk_at "codeAny forLoop") => `(tactic| (k_here; (with_reducible show codeAny _ _ (Code.forLoop _ (Value.ref _) _ _ _) (okR _) _); k_dflt (first
  | (refine' tup_last ?k1 ?k2 ?k3 ?k4 ?k5 ?k6 ?k7 ?_; (case k1 => k_asm); (case k4 => assumption); (case k2 => k_asm); (case k3 => k_upd); (case k5 => exact News.isTup (by k_asm) (by k_mem)); (case k6 => exact rfl); (case k7 => exact rfl); k_whole; intro h' F' N'; (try k_sweep))
  | (refine' tup_turn ?k1 ?k2 ?k3 ?k4 ?k5 ?k6 ?k7 ?_; (case k1 => k_asm); (case k4 => assumption); (case k2 => k_asm); (case k3 => k_updF); (case k5 => exact News.isTup (by k_asm) (by k_mem)); (case k6 => first | exact get2_0 | exact get2_1 | exact rfl); (case k7 => k_ne); k_whole; intro h' o' F' N' x' T'; (try k_sweep)))))
local macro_rules | `(tactic| walk_at "call builtin:len") => `(tactic| (k_here; (with_reducible show wpAny _ _ (call (Value.builtin _) [Value.ref _]) _ _ _); k_dflt (refine' d_len (knd := intKind _ _) ?k1 ?k2 ?k3 ?k4 ?k5 ?k6 ?_; (case k1 => k_asm); (case k2 => k_mem); (case k3 => assumption); (case k4 => assumption); (case k5 => first | exact rowsK_length _ | rfl); (case k6 => (first | omega | (simp only [List.length_append, List.length_cons, List.length_nil]; omega))); k_whole; intro tk')))
local macro_rules | `(tactic| walk_at "getMethod ref") => `(tactic| (k_here; (with_reducible show wpAny _ _ (getMethod (Value.ref _) (Str.ofString "get") _) _ _ _); k_dflt (refine' d_meth (knd := intKind _ _) ?k1 ?k2 ?k3 PySem.F.slot_dict_get PySem.F.type_dict_get ?_; (case k1 => k_asm); (case k2 => k_mem); (case k3 => assumption); k_whole)))
local macro_rules | `(tactic| walk_at "call builtin:dict.get") => `(tactic| (k_here; (with_reducible show wpAny _ _ (call (Value.builtin _) [Value.ref _, Value.int _ _]) _ _ _); k_dflt (refine' d_get (knd := intKind _ _) ?k1 ?k2 ?k3 ?k4 (intKind_is _ _ _ _) ?_; (case k1 => k_asm); (case k2 => k_mem); (case k3 => assumption); (case k4 => assumption); k_whole)))
local macro_rules | `(tactic| walk_at "compareOp In int ref") => `(tactic| (k_here; k_dflt (refine' d_in (knd := intKind _ _) ?k1 ?k2 ?k3 ?k4 (intKind_is _ _ _ _) ?_; (case k1 => k_asm); (case k2 => k_mem); (case k3 => assumption); (case k4 => assumption); k_whole)))
local macro_rules | `(tactic| walk_at "subscriptTail") => `(tactic| (k_here; (with_reducible show wpAny _ _ (subscriptTail _ _ (Value.ref _) (Value.int _ _)) _ _ _); k_dflt (refine' d_item (knd := intKind _ _) ?k1 ?k2 ?k3 (intKind_is _ _ _ _) ?k5 ?_; (case k1 => k_asm); (case k2 => k_mem); (case k3 => assumption); (case k5 => assumption); k_whole)))
local macro_rules | `(tactic| walk_at "setItem ref int") => `(tactic| (k_here; k_dflt (refine' d_set (knd := intKind _ _) ?k1 ?k2 ?k3 ?k4 (intKind_is _ _ _ _) ?k6 ?_; (case k1 => k_asm); (case k2 => k_asm); (case k3 => k_updF); (case k4 => assumption); (case k6 => (rw [sizeLine_eq]; (first | omega | (simp only [rowsK_length, rowK_length, List.length_map, List.length_append, List.length_cons, List.length_nil]; omega)))); k_whole); intro h' o' F' N' hd'; (try dsimp only at N'); (try simp only [rowsK_length, stored_rows] at hd'); (try k_sweep)))
local macro_rules | `(tactic| k_all) => `(tactic| first | assumption | (refine List.forall_mem_append.mpr ⟨?_, ?_⟩ <;> k_all) | (exact tbn_neAll (by first | assumption | tbn_find)) | (exact tbn_neAll (tbn_up (by assumption) (by tbn_find))))
local macro_rules | `(tactic| k_mem) => `(tactic| ((with_reducible show List.Mem _ _); first | (show (_ : Addr × Obj) ∈ (_ : List (Addr × Obj)); ktr_member) | ((with_reducible show List.Mem _ (_ ++ _)); first | (refine' List.mem_append_left _ ?q; (case q => k_mem)) | (refine' List.mem_append_right _ ?q; (case q => k_mem)))))
local macro_rules | `(tactic| k_put) => `(tactic| first | exact putL_nil _ _ _ _ _ | exact putL_one _ _ _ _ _ _ _ _)
local macro_rules | `(tactic| walk_at "eval Name") => `(tactic| (k_here; k_dflt (refine' nameX_L ?F ?v ?_ ?a ?b; (case F => k_asm); (case a => rfl); (case b => rfl); (case v => assumption); k_whole)))
local macro_rules | `(tactic| k_put) => `(tactic| first | exact putL_nil _ _ _ _ _ | exact putL_one _ _ _ _ _ _ _ _ | exact putL_err_pos | exact putL_err_expr)
local macro_rules | `(tactic| walk_at "getAttr ref") => `(tactic| (k_here; k_dflt (refine' exc_getD ?k1 ?k2 ?k3 ?k4 ?k5 ?k6 ?k7 ?k8 ?k9 ?k10 ?k11 ?_; (case k1 => k_asm); (case k2 => k_asm); (case k3 => (refine' InstAt.of_newsF ?N ?h1 ?h2; (case N => k_asm); (case h1 => k_mem); (case h2 => k_mem))); (case k4 => k_is); (case k5 => k_is); (case k6 => k_is); (case k7 => k_is); (case k8 => k_is); (case k9 => k_is); (case k10 => k_get); (case k11 => k_handed); k_whole)))
local macro_rules | `(tactic| walk_at "setAttr ref") => `(tactic| (k_here; k_dflt (refine' exc_set ?k1 ?k2 ?k3 ?k4 ?k5 ?k6 ?k7 ?k8 ?k9 ?k10 ?k11 ?k12 ?k13 ?_; (case k1 => k_asm); (case k2 => k_asm); (case k3 => k_asm); (case k4 => (refine' InstAt.of_newsF ?N ?h1 ?h2; (case N => k_asm); (case h1 => k_mem); (case h2 => k_mem))); (case k5 => exact rfl); (case k6 => k_is); (case k7 => kernel_rfl); (case k8 => k_is); (case k9 => k_is); (case k10 => k_get); (case k11 => k_put); (case k12 => k_upd); (case k13 => exact Nat.le_of_ble_eq_true rfl); k_whole; intro h' F' N'; (try k_sweep))))
local macro_rules | `(tactic| k_slotget) => `(tactic| first | assumption | rfl)
local macro_rules | `(tactic| walk_at "getAttr ref") => `(tactic| (k_here; k_dflt (refine' get_slotW ?k1 ?k2 ?k3 ?k4 ?k5 ?k6 ?k7 ?k8 ?k9 ?k10 ?k11 ?_; (case k1 => k_asm); (case k2 => k_asm); (case k3 => k_asm); (case k4 => k_mem); (case k5 => k_is); (case k6 => k_is); (case k7 => k_is); (case k8 => k_is); (case k9 => k_is); (case k10 => k_slotget); (case k11 => k_handed); k_whole)))
local macro_rules | `(tactic| walk_at "call builtin:len") => `(tactic| (k_here; (with_reducible show wpAny _ _ (call (Value.builtin _) [Value.str _ _]) _ _ _); k_dflt (refine' SC.len_str ?k1 ?_; (case k1 => assumption); k_whole)))
local macro_rules | `(tactic| walk_at "getMethod ref") => `(tactic| (k_here; (with_reducible show wpAny _ _ (getMethod (Value.ref _) (Str.ofString "match_core") _) _ _ _); k_dflt (refine' meth_core ?k1 ?k2 ?k3 ?k4 ?k5 ?_; (case k1 => k_asm); (case k2 => k_asm); (case k4 => k_inst); (case k3 => assumption); (case k5 => assumption); k_whole)))
local macro_rules | `(tactic| walk_at "call ref") => `(tactic| (k_here; (with_reducible show wpAny _ _ (call (Value.ref 266) _) _ _ _); refine Held.out ?_))
local macro_rules | `(tactic| walk_at "exec For Name Attribute cons nil") => `(tactic| (k_here; refine for_F ?_))
local macro_rules | `(tactic| walk_at "truthy ref") => `(tactic| (k_here; k_dflt (refine' truthyL ?k1 ?k2 ?k3 ?k4 ?_; (case k1 => k_asm); (case k2 => k_mem); (case k3 => first | assumption | (simp only [List.size_toArray, List.length_cons, List.length_nil]; decide) | (simp only [Array.size_push, List.size_toArray, List.length_cons, List.length_nil]; omega)); (case k4 => first | assumption | exact ne1 | exact ne0 | exact neP); k_whole); intro tk'))
theorem starts3 {T wd : Str} {p : Nat} (hp : p ≤ T.cps.size) : Txt.startswith3 T wd (p : Int) = hasAt T.cps.toList wd.cps.toList p := by
  have h1 : fromIndex T.length (p : Int) = p := by
    unfold fromIndex
    rw [if_neg (by omega)]
    omega
  unfold Txt.startswith3 hasAt Builtin.Str.subAt
  rw [h1, Bool.eq_iff_iff]
  simp only [Bool.and_eq_true, decide_eq_true_eq, beq_iff_eq, Str.length, Array.length_toList]
  constructor
  · rintro ⟨h2, h3⟩
    refine ⟨hp, ?_⟩
    have := congrArg Array.toList h3
    rw [Array.toList_extract, List.extract_eq_take_drop] at this
    simpa using this
  · rintro ⟨_, h3⟩
    have h4 := congrArg List.length h3
    simp at h4
    refine ⟨decide_eq_true (by omega), ?_⟩
    apply Array.toList_inj.mp
    rw [Array.toList_extract, List.extract_eq_take_drop]
    simpa using h3
theorem unc_word {w : World} {T : Str} {x dx : Addr} {n : Nat} {wd : Str} : UncOK w T (.word x dx n wd) := by
  intro dp un gd cn cs a ccd cl outer A₀ base h₀ L m s loose mean mg mb Q E ca er ed oc oe fs ol rs lc I Z tt p err t1 t2 Bd B F X Tp hk hIZ N hSep hSt hKid hOl hp hB hB2 hT hd hun ret
  cases hKid
  simp only [List.nil_append] at N
  obtain ⟨hCo, hEo, hEx, heo, lo, hRows⟩ := hSt
  obtain ⟨idt, tn, tw, hx, hwd, hnl⟩ := id hEx
  have hxZ := hIZ _ hx
  have hfw : ¬ (wd.length : Int) ≥ 2 ^ 63 := by simp only [Str.length]; omega
  simp only [Ex.x, Ex.fU]
  refine wpAny_call ?_
  k_dflt ktr_enter
  k_steps
  · rename Fr h₀ L _ m => kF
    rename News h₀ L _ _ => kN
    rename Txt.startswith3 _ _ _ = _ => hst
    rw [starts3 hp] at hst
    rw [← Int.natCast_add] at kN
    simp only [unc, Ex.pe, uWord, hst, if_true] at ret
    obtain ⟨n1, n2, n3⟩ := node_end3 (lc := []) kN (by tbn_lt) (by assumption) (by tbn_lt) hSep
    refine ret _ _ _ oc oe rs [] _ kF n1 n2 ⟨hCo, ErrObj.mono Sub.app hEo, ExIn.mono Sub.app hEx, List.mem_append_right _ heo, lo, fun r hr => ?_⟩ rfl NewRows.refl n3 hB ?_
    · obtain ⟨o, h1, h2⟩ := hRows r hr
      exact ⟨o, h1, List.mem_append_right [] (List.mem_append_right _ (by simpa using h2))⟩
    · exact NodeIn.mk (List.mem_append_left _ (.tail _ (.head _))) (Named.mono Sub.app hEx.named) (List.mem_append_left _ (.head _)) .nil
  · rename Fr h₀ L _ m => kF
    rename News h₀ L _ _ => kN
    rename Txt.startswith3 _ _ _ = _ => hst
    rw [starts3 hp] at hst
    simp only [unc, Ex.pe, uWord, hst] at ret
    exact ret _ _ _ oc oe rs [] [] kF kN hSep ⟨hCo, hEo, hEx, heo, lo, hRows⟩ rfl NewRows.refl Fresh.nil hB rfl
end Mine
namespace Mine
local macro_rules | `(tactic| walk_at "zz") => `(tactic| fail)
local macro_rules | `(tactic| walk_at "zz") => `(tactic| fail)
local macro_rules | `(tactic| walk_at "zz") => `(tactic| fail)
local macro_rules | `(tactic| walk_at "zz") => `(tactic| fail)
local macro_rules | `(tactic| walk_at "zz") => `(tactic| fail)
local macro_rules | `(tactic| walk_at "zz") => `(tactic| fail)
local macro_rules | `(tactic| walk_at "zz") => `(tactic| fail)
local macro_rules | `(tactic| walk_at "zz") => `(tactic| fail)
local macro_rules | `(tactic| walk_at "zz") => `(tactic| fail)
local macro_rules | `(tactic| walk_at "zz") => `(tactic| fail)
local macro_rules | `(tactic| walk_at "zz") => `(tactic| fail)
theorem rs_A_lk : True := by w_top off; trivial
local macro_rules | `(tactic| k_all) => `(tactic| assumption)
local macro_rules | `(tactic| k_ne) => `(tactic| first | assumption | exact Ne.symm (by assumption) | exact Nat.ne_of_lt (by assumption) | exact Nat.ne_of_gt (by assumption))
local macro_rules | `(tactic| k_room) => `(tactic| ktr_room)
local macro_rules | `(tactic| walk_at "call builtin:getattr") => `(tactic| (k_here; (with_reducible show wpAny _ _ (call (Value.builtin _) [_, Value.str _ _, _]) _ _ _); k_dflt (first
  | (refine' ga3_own ?k1 ?k2 ?k3 ?k4 ?k5 ?k6 ?k7 ?k8 ?k9 ?k10 ?k11 ?_; (case k1 => k_asm); (case k2 => k_asm); (case k3 => k_inst); (case k4 => k_is); (case k5 => k_is); (case k6 => k_is); (case k7 => k_is); (case k8 => k_get); (case k9 => k_handed); (case k10 => decide +kernel); (case k11 => k_is); k_whole)
  | (refine' ga3_miss ?k1 ?k2 ?k3 ?k4 ?k5 ?k6 ?k7 ?k8 ?k9 ?k10 ?k11 ?k12 ?k13 ?_; (case k1 => k_asm); (case k2 => k_asm); (case k3 => k_asm); (case k4 => k_inst); (case k5 => k_is); (case k6 => k_is); (case k7 => k_is); (case k8 => decide +kernel); (case k9 => k_get); (case k10 => decide +kernel); (case k11 => k_is); (case k12 => exact rfl); (case k13 => (first | (refine' MsgOk.of ?q1 ?q2 ?q3; (case q1 => k_is); (case q2 => decide +kernel); (case q3 => decide +kernel)) | (rename IsEx _ => h5; rcases h5 with e5 | e5 | e5 | e5 | e5 <;> subst e5 <;> (refine' MsgOk.of ?q1 ?q2 ?q3; (case q1 => k_is); (case q2 => decide +kernel); (case q3 => decide +kernel))))); k_whole; intro h' tk' F' N'; (try k_sweep)))))
local macro_rules | `(tactic| k_upd) => `(tactic| first | (refine' Off.head ?a; (case a => k_all)) | (refine' Off.tail ?a ?b; (case a => k_ne); (case b => k_upd)))
local macro_rules | `(tactic| walk_at "pyIter ref") => `(tactic| (k_here; (with_reducible show wpAny _ _ (pyIter (Value.ref _)) (fun it s₂ => codeAny _ _ (Code.forLoop _ it _ _ _) _ s₂) _ _); k_dflt (refine' tup_iter ?k1 ?k2 ?k3 ?_; (case k1 => k_asm); (case k2 => k_asm); (case k3 => exact News.isTup (by k_asm) (by k_mem)); k_whole); intro I' h' o' F' N' x' l1 l2; (try k_lt l1); (try k_lt2 l2); (try k_sweep)))
local macro_rules | `(tactic| walk_at "codeAny forLoop") => `(tactic| (k_here; (with_reducible show codeAny _ _ (Code.forLoop _ (Value.ref _) _ _ _) (okR _) _); k_dflt (first
  | (refine' tup_last ?k1 ?k2 ?k3 ?k4 ?k5 ?k6 ?k7 ?_; (case k1 => k_asm); (case k4 => assumption); (case k2 => k_asm); (case k3 => k_upd); (case k5 => exact News.isTup (by k_asm) (by k_mem)); (case k6 => exact rfl); (case k7 => exact rfl); k_whole; intro h' F' N'; (try k_sweep))
  | (refine' tup_turn ?k1 ?k2 ?k3 ?k4 ?k5 ?k6 ?k7 ?_; (case k1 => k_asm); (case k4 => assumption); (case k2 => k_asm); (case k3 => k_updF); (case k5 => exact News.isTup (by k_asm) (by k_mem)); (case k6 => first | exact get2_0 | exact get2_1 | exact rfl); (case k7 => k_ne); k_whole; intro h' o' F' N' x' T'; (try k_sweep)))))
local macro_rules | `(tactic| walk_at "call builtin:len") => `(tactic| (k_here; (with_reducible show wpAny _ _ (call (Value.builtin _) [Value.ref _]) _ _ _); k_dflt (refine' d_len (knd := intKind _ _) ?k1 ?k2 ?k3 ?k4 ?k5 ?k6 ?_; (case k1 => k_asm); (case k2 => k_mem); (case k3 => assumption); (case k4 => assumption); (case k5 => first | exact rowsK_length _ | rfl); (case k6 => (first | omega | (simp only [List.length_append, List.length_cons, List.length_nil]; omega))); k_whole; intro tk')))
local macro_rules | `(tactic| walk_at "getMethod ref") => `(tactic| (k_here; (with_reducible show wpAny _ _ (getMethod (Value.ref _) (Str.ofString "get") _) _ _ _); k_dflt (refine' d_meth (knd := intKind _ _) ?k1 ?k2 ?k3 PySem.F.slot_dict_get PySem.F.type_dict_get ?_; (case k1 => k_asm); (case k2 => k_mem); (case k3 => assumption); k_whole)))
local macro_rules | `(tactic| walk_at "call builtin:dict.get") => `(tactic| (k_here; (with_reducible show wpAny _ _ (call (Value.builtin _) [Value.ref _, Value.int _ _]) _ _ _); k_dflt (refine' d_get (knd := intKind _ _) ?k1 ?k2 ?k3 ?k4 (intKind_is _ _ _ _) ?_; (case k1 => k_asm); (case k2 => k_mem); (case k3 => assumption); (case k4 => assumption); k_whole)))
local macro_rules | `(tactic| walk_at "compareOp In int ref") => `(tactic| (k_here; k_dflt (refine' d_in (knd := intKind _ _) ?k1 ?k2 ?k3 ?k4 (intKind_is _ _ _ _) ?_; (case k1 => k_asm); (case k2 => k_mem); (case k3 => assumption); (case k4 => assumption); k_whole)))
local macro_rules | `(tactic| walk_at "subscriptTail") => `(tactic| (k_here; (with_reducible show wpAny _ _ (subscriptTail _ _ (Value.ref _) (Value.int _ _)) _ _ _); k_dflt (refine' d_item (knd := intKind _ _) ?k1 ?k2 ?k3 (intKind_is _ _ _ _) ?k5 ?_; (case k1 => k_asm); (case k2 => k_mem); (case k3 => assumption); (case k5 => assumption); k_whole)))
local macro_rules | `(tactic| walk_at "setItem ref int") => `(tactic| (k_here; k_dflt (refine' d_set (knd := intKind _ _) ?k1 ?k2 ?k3 ?k4 (intKind_is _ _ _ _) ?k6 ?_; (case k1 => k_asm); (case k2 => k_asm); (case k3 => k_updF); (case k4 => assumption); (case k6 => (rw [sizeLine_eq]; (first | omega | (simp only [rowsK_length, rowK_length, List.length_map, List.length_append, List.length_cons, List.length_nil]; omega)))); k_whole); intro h' o' F' N' hd'; (try dsimp only at N'); (try simp only [rowsK_length, stored_rows] at hd'); (try k_sweep)))
local macro_rules | `(tactic| k_all) => `(tactic| first | assumption | (refine List.forall_mem_append.mpr ⟨?_, ?_⟩ <;> k_all) | (exact tbn_neAll (by first | assumption | tbn_find)) | (exact tbn_neAll (tbn_up (by assumption) (by tbn_find))))
local macro_rules | `(tactic| k_mem) => `(tactic| ((with_reducible show List.Mem _ _); first | (show (_ : Addr × Obj) ∈ (_ : List (Addr × Obj)); ktr_member) | ((with_reducible show List.Mem _ (_ ++ _)); first | (refine' List.mem_append_left _ ?q; (case q => k_mem)) | (refine' List.mem_append_right _ ?q; (case q => k_mem)))))
local macro_rules | `(tactic| k_put) => `(tactic| first | exact putL_nil _ _ _ _ _ | exact putL_one _ _ _ _ _ _ _ _)
local macro_rules | `(tactic| walk_at "eval Name") => `(tactic| (k_here; k_dflt (refine' nameX_L ?F ?v ?_ ?a ?b; (case F => k_asm); (case a => rfl); (case b => rfl); (case v => assumption); k_whole)))
local macro_rules | `(tactic| k_put) => `(tactic| first | exact putL_nil _ _ _ _ _ | exact putL_one _ _ _ _ _ _ _ _ | exact putL_err_pos | exact putL_err_expr)
local macro_rules | `(tactic| walk_at "getAttr ref") => `(tactic| (k_here; k_dflt (refine' exc_getD ?k1 ?k2 ?k3 ?k4 ?k5 ?k6 ?k7 ?k8 ?k9 ?k10 ?k11 ?_; (case k1 => k_asm); (case k2 => k_asm); (case k3 => (refine' InstAt.of_newsF ?N ?h1 ?h2; (case N => k_asm); (case h1 => k_mem); (case h2 => k_mem))); (case k4 => k_is); (case k5 => k_is); (case k6 => k_is); (case k7 => k_is); (case k8 => k_is); (case k9 => k_is); (case k10 => k_get); (case k11 => k_handed); k_whole)))
local macro_rules | `(tactic| walk_at "setAttr ref") => `(tactic| (k_here; k_dflt (refine' exc_set ?k1 ?k2 ?k3 ?k4 ?k5 ?k6 ?k7 ?k8 ?k9 ?k10 ?k11 ?k12 ?k13 ?_; (case k1 => k_asm); (case k2 => k_asm); (case k3 => k_asm); (case k4 => (refine' InstAt.of_newsF ?N ?h1 ?h2; (case N => k_asm); (case h1 => k_mem); (case h2 => k_mem))); (case k5 => exact rfl); (case k6 => k_is); (case k7 => kernel_rfl); (case k8 => k_is); (case k9 => k_is); (case k10 => k_get); (case k11 => k_put); (case k12 => k_upd); (case k13 => exact Nat.le_of_ble_eq_true rfl); k_whole; intro h' F' N'; (try k_sweep))))
local macro_rules | `(tactic| k_slotget) => `(tactic| first | assumption | rfl)
local macro_rules | `(tactic| walk_at "getAttr ref") => `(tactic| (k_here; k_dflt (refine' get_slotW ?k1 ?k2 ?k3 ?k4 ?k5 ?k6 ?k7 ?k8 ?k9 ?k10 ?k11 ?_; (case k1 => k_asm); (case k2 => k_asm); (case k3 => k_asm); (case k4 => k_mem); (case k5 => k_is); (case k6 => k_is); (case k7 => k_is); (case k8 => k_is); (case k9 => k_is); (case k10 => k_slotget); (case k11 => k_handed); k_whole)))
local macro_rules | `(tactic| walk_at "call builtin:len") => `(tactic| (k_here; (with_reducible show wpAny _ _ (call (Value.builtin _) [Value.str _ _]) _ _ _); k_dflt (refine' SC.len_str ?k1 ?_; (case k1 => assumption); k_whole)))
local macro_rules | `(tactic| walk_at "getMethod ref") => `(tactic| (k_here; (with_reducible show wpAny _ _ (getMethod (Value.ref _) (Str.ofString "match_core") _) _ _ _); k_dflt (refine' meth_core ?k1 ?k2 ?k3 ?k4 ?k5 ?_; (case k1 => k_asm); (case k2 => k_asm); (case k4 => k_inst); (case k3 => assumption); (case k5 => assumption); k_whole)))
local macro_rules | `(tactic| walk_at "call ref") => `(tactic| (k_here; (with_reducible show wpAny _ _ (call (Value.ref 266) _) _ _ _); refine Held.out ?_))
local macro_rules | `(tactic| walk_at "exec For Name Attribute cons nil") => `(tactic| (k_here; refine for_F ?_))
local macro_rules | `(tactic| walk_at "truthy ref") => `(tactic| (k_here; k_dflt (refine' truthyL ?k1 ?k2 ?k3 ?k4 ?_; (case k1 => k_asm); (case k2 => k_mem); (case k3 => first | assumption | (simp only [List.size_toArray, List.length_cons, List.length_nil]; decide) | (simp only [Array.size_push, List.size_toArray, List.length_cons, List.length_nil]; omega)); (case k4 => first | assumption | exact ne1 | exact ne0 | exact neP); k_whole); intro tk'))
theorem unc_look {w : World} {T : Str} {x dx mem : Addr} {n : Nat} {neg : Bool} {e : Ex} (hC : CoreOK w T e) : UncOK w T (.look x dx mem n neg e) := by
  intro dp un gd cn cs a ccd cl outer A₀ base h₀ L m s loose mean mg mb Q E ca er ed oc oe fs ol rs lc I Z tt p err t1 t2 Bd B F X Tp hk hIZ N hSep hSt hKid hOl hp hB hB2 hT hd hun ret
  have hSt0 := hSt
  obtain ⟨hCo, hEo, hEx, heo, lo, hRows⟩ := hSt
  obtain ⟨⟨idt, tn, hx⟩, hmem, hExe, hnl⟩ := id hEx
  simp only [Ex.x, Ex.fU]
  simp only [Kids] at hKid
  simp only [Ex.deep] at hd hun
  obtain ⟨hIe, sle, tne, hxe, hsle⟩ := hExe.own
  obtain ⟨es, ks, hde, hge⟩ := Cells.dict hKid
  have hxZ := hIZ _ hx
  have hmemZ := hIZ _ hmem
  have hxeZ := hIZ _ hxe
  generalize hxx : e.x = xe at hxeZ hmemZ
  generalize hdd : e.dx = de at hxeZ hde
  generalize hcc : e.cls = Ce at hxeZ hIe
  refine wpAny_call ?_
  k_dflt ktr_enter
  k_steps
  unfold Held
  rename Fr _ _ _ (fun _ => _) => F1
  rename News _ _ _ _ => N1
  rename_i g1 L1 h1 FG1 B1 X1 T1
  subst hxx
  refine hC _ _ _ _ _ _ _ _ _ _ _ _ _ _ _ loose mean mg mb _ _ ca er ed oc oe fs ol rs lc I Z tt.l p err _ _ Bd B1 F1 X1 T1 rfl hIZ N1 hSep ⟨hCo, hEo, hExe, heo, lo, hRows⟩ hKid hOl hp hB hB2 hT ?_ ?_ ?_
  · show dp + 1 + _ + _ < _; omega
  · show un + 3 + _ + _ < _; omega
  · intro v3 h3 tk3 oc3 oe3 rs3 lk3 tl3 F3 N3 hSep3 hSt3 hK3 hNR3 hF3 hB3 hRes3
    simp only [unc, Ex.pe, uLook] at ret
    generalize core T.cps.toList e.pe tt.l p err = U at *
    obtain ⟨U1, U2, U3⟩ := U
    simp only [] at ret hSt3 hK3 hB3 hRes3
    have hxZ3 : _ ∈ tl3 ++ Z := List.mem_append_right tl3 hxZ
    cases U1 with
    | none =>
      cases hRes3
      cases neg with
      | true =>
        k_steps
        rename Fr h₀ L _ m => kF
        rename News h₀ L _ _ => kN
        exact unc_end3 (vs := []) (cs := []) (e := .look x dx mem n true e) ret kF kN (by tbn_lt) (by assumption) (by first | assumption | exact (And.left (by assumption))) hSep3 hSt3.cache hSt3.err hEx heo lo hSt3.rows (fun J S => Cells.mono S hK3) hNR3 hF3 hB3 .nil
      | false =>
        k_steps
        rename Fr h₀ L _ m => kF
        rename News h₀ L _ _ => kN
        exact ret _ _ _ oc3 oe3 rs3 lk3 tl3 kF kN hSep3 ⟨hSt3.cache, hSt3.err, ExIn.mono Sub.app hEx, hSt3.eo, lo, hSt3.rows⟩ hK3 hNR3 hF3 hB3 rfl
    | some tr =>
      cases hRes3 with
      | mk n1 n2 n3 n4 =>
      have n1Z := mem_mono hIZ _ n1
      cases neg with
      | true =>
        k_steps
        rename Fr h₀ L _ m => kF
        rename News h₀ L _ _ => kN
        exact ret _ _ _ oc3 oe3 rs3 lk3 tl3 kF kN hSep3 ⟨hSt3.cache, hSt3.err, ExIn.mono Sub.app hEx, hSt3.eo, lo, hSt3.rows⟩ hK3 hNR3 hF3 hB3 rfl
      | false =>
        k_steps
        rename Fr h₀ L _ m => kF
        rename News h₀ L _ _ => kN
        exact unc_end3 (vs := []) (cs := []) (e := .look x dx mem n false e) ret kF kN (by tbn_lt) (by assumption) (by first | assumption | exact (And.left (by assumption))) hSep3 hSt3.cache hSt3.err hEx heo lo hSt3.rows (fun J S => Cells.mono S hK3) hNR3 hF3 hB3 .nil
end Mine
namespace Mine
local macro_rules | `(tactic| walk_at "zz") => `(tactic| fail)
local macro_rules | `(tactic| walk_at "zz") => `(tactic| fail)
local macro_rules | `(tactic| walk_at "zz") => `(tactic| fail)
local macro_rules | `(tactic| walk_at "zz") => `(tactic| fail)
local macro_rules | `(tactic| walk_at "zz") => `(tactic| fail)
local macro_rules | `(tactic| walk_at "zz") => `(tactic| fail)
local macro_rules | `(tactic| walk_at "zz") => `(tactic| fail)
local macro_rules | `(tactic| walk_at "zz") => `(tactic| fail)
local macro_rules | `(tactic| walk_at "zz") => `(tactic| fail)
local macro_rules | `(tactic| walk_at "zz") => `(tactic| fail)
local macro_rules | `(tactic| walk_at "zz") => `(tactic| fail)
local macro_rules | `(tactic| walk_at "zz") => `(tactic| fail)
theorem rs_A_ch : True := by w_top off; trivial
local macro_rules | `(tactic| k_all) => `(tactic| assumption)
local macro_rules | `(tactic| k_ne) => `(tactic| first | assumption | exact Ne.symm (by assumption) | exact Nat.ne_of_lt (by assumption) | exact Nat.ne_of_gt (by assumption))
local macro_rules | `(tactic| k_room) => `(tactic| ktr_room)
local macro_rules | `(tactic| walk_at "call builtin:getattr") => `(tactic| (k_here; (with_reducible show wpAny _ _ (call (Value.builtin _) [_, Value.str _ _, _]) _ _ _); k_dflt (first
  | (refine' ga3_own ?k1 ?k2 ?k3 ?k4 ?k5 ?k6 ?k7 ?k8 ?k9 ?k10 ?k11 ?_; (case k1 => k_asm); (case k2 => k_asm); (case k3 => k_inst); (case k4 => k_is); (case k5 => k_is); (case k6 => k_is); (case k7 => k_is); (case k8 => k_get); (case k9 => k_handed); (case k10 => decide +kernel); (case k11 => k_is); k_whole)
  | (refine' ga3_miss ?k1 ?k2 ?k3 ?k4 ?k5 ?k6 ?k7 ?k8 ?k9 ?k10 ?k11 ?k12 ?k13 ?_; (case k1 => k_asm); (case k2 => k_asm); (case k3 => k_asm); (case k4 => k_inst); (case k5 => k_is); (case k6 => k_is); (case k7 => k_is); (case k8 => decide +kernel); (case k9 => k_get); (case k10 => decide +kernel); (case k11 => k_is); (case k12 => exact rfl); (case k13 => (first | (refine' MsgOk.of ?q1 ?q2 ?q3; (case q1 => k_is); (case q2 => decide +kernel); (case q3 => decide +kernel)) | (rename IsEx _ => h5; rcases h5 with e5 | e5 | e5 | e5 | e5 <;> subst e5 <;> (refine' MsgOk.of ?q1 ?q2 ?q3; (case q1 => k_is); (case q2 => decide +kernel); (case q3 => decide +kernel))))); k_whole; intro h' tk' F' N'; (try k_sweep)))))
local macro_rules | `(tactic| k_upd) => `(tactic| first | (refine' Off.head ?a; (case a => k_all)) | (refine' Off.tail ?a ?b; (case a => k_ne); (case b => k_upd)))
local macro_rules | `(tactic| walk_at "pyIter ref") => `(tactic| (k_here; (with_reducible show wpAny _ _ (pyIter (Value.ref _)) (fun it s₂ => codeAny _ _ (Code.forLoop _ it _ _ _) _ s₂) _ _); k_dflt (refine' tup_iter ?k1 ?k2 ?k3 ?_; (case k1 => k_asm); (case k2 => k_asm); (case k3 => exact News.isTup (by k_asm) (by k_mem)); k_whole); intro I' h' o' F' N' x' l1 l2; (try k_lt l1); (try k_lt2 l2); (try k_sweep)))
local macro_rules | `(tactic| walk_at "codeAny forLoop") => `(tactic| (k_here; (with_reducible show codeAny _ _ (Code.forLoop _ (Value.ref _) _ _ _) (okR _) _); k_dflt (first
  | (refine' tup_last ?k1 ?k2 ?k3 ?k4 ?k5 ?k6 ?k7 ?_; (case k1 => k_asm); (case k4 => assumption); (case k2 => k_asm); (case k3 => k_upd); (case k5 => exact News.isTup (by k_asm) (by k_mem)); (case k6 => exact rfl); (case k7 => exact rfl); k_whole; intro h' F' N'; (try k_sweep))
  | (refine' tup_turn ?k1 ?k2 ?k3 ?k4 ?k5 ?k6 ?k7 ?_; (case k1 => k_asm); (case k4 => assumption); (case k2 => k_asm); (case k3 => k_updF); (case k5 => exact News.isTup (by k_asm) (by k_mem)); (case k6 => first | exact get2_0 | exact get2_1 | exact rfl); (case k7 => k_ne); k_whole; intro h' o' F' N' x' T'; (try k_sweep)))))
local macro_rules | `(tactic| walk_at "call builtin:len") => `(tactic| (k_here; (with_reducible show wpAny _ _ (call (Value.builtin _) [Value.ref _]) _ _ _); k_dflt (refine' d_len (knd := intKind _ _) ?k1 ?k2 ?k3 ?k4 ?k5 ?k6 ?_; (case k1 => k_asm); (case k2 => k_mem); (case k3 => assumption); (case k4 => assumption); (case k5 => first | exact rowsK_length _ | rfl); (case k6 => (first | omega | (simp only [List.length_append, List.length_cons, List.length_nil]; omega))); k_whole; intro tk')))
local macro_rules | `(tactic| walk_at "getMethod ref") => `(tactic| (k_here; (with_reducible show wpAny _ _ (getMethod (Value.ref _) (Str.ofString "get") _) _ _ _); k_dflt (refine' d_meth (knd := intKind _ _) ?k1 ?k2 ?k3 PySem.F.slot_dict_get PySem.F.type_dict_get ?_; (case k1 => k_asm); (case k2 => k_mem); (case k3 => assumption); k_whole)))
local macro_rules | `(tactic| walk_at "call builtin:dict.get") => `(tactic| (k_here; (with_reducible show wpAny _ _ (call (Value.builtin _) [Value.ref _, Value.int _ _]) _ _ _); k_dflt (refine' d_get (knd := intKind _ _) ?k1 ?k2 ?k3 ?k4 (intKind_is _ _ _ _) ?_; (case k1 => k_asm); (case k2 => k_mem); (case k3 => assumption); (case k4 => assumption); k_whole)))
local macro_rules | `(tactic| walk_at "compareOp In int ref") => `(tactic| (k_here; k_dflt (refine' d_in (knd := intKind _ _) ?k1 ?k2 ?k3 ?k4 (intKind_is _ _ _ _) ?_; (case k1 => k_asm); (case k2 => k_mem); (case k3 => assumption); (case k4 => assumption); k_whole)))
local macro_rules | `(tactic| walk_at "subscriptTail") => `(tactic| (k_here; (with_reducible show wpAny _ _ (subscriptTail _ _ (Value.ref _) (Value.int _ _)) _ _ _); k_dflt (refine' d_item (knd := intKind _ _) ?k1 ?k2 ?k3 (intKind_is _ _ _ _) ?k5 ?_; (case k1 => k_asm); (case k2 => k_mem); (case k3 => assumption); (case k5 => assumption); k_whole)))
local macro_rules | `(tactic| walk_at "setItem ref int") => `(tactic| (k_here; k_dflt (refine' d_set (knd := intKind _ _) ?k1 ?k2 ?k3 ?k4 (intKind_is _ _ _ _) ?k6 ?_; (case k1 => k_asm); (case k2 => k_asm); (case k3 => k_updF); (case k4 => assumption); (case k6 => (rw [sizeLine_eq]; (first | omega | (simp only [rowsK_length, rowK_length, List.length_map, List.length_append, List.length_cons, List.length_nil]; omega)))); k_whole); intro h' o' F' N' hd'; (try dsimp only at N'); (try simp only [rowsK_length, stored_rows] at hd'); (try k_sweep)))
local macro_rules | `(tactic| k_all) => `(tactic| first | assumption | (refine List.forall_mem_append.mpr ⟨?_, ?_⟩ <;> k_all) | (exact tbn_neAll (by first | assumption | tbn_find)) | (exact tbn_neAll (tbn_up (by assumption) (by tbn_find))))
local macro_rules | `(tactic| k_mem) => `(tactic| ((with_reducible show List.Mem _ _); first | (show (_ : Addr × Obj) ∈ (_ : List (Addr × Obj)); ktr_member) | ((with_reducible show List.Mem _ (_ ++ _)); first | (refine' List.mem_append_left _ ?q; (case q => k_mem)) | (refine' List.mem_append_right _ ?q; (case q => k_mem)))))
local macro_rules | `(tactic| k_put) => `(tactic| first | exact putL_nil _ _ _ _ _ | exact putL_one _ _ _ _ _ _ _ _)
local macro_rules | `(tactic| walk_at "eval Name") => `(tactic| (k_here; k_dflt (refine' nameX_L ?F ?v ?_ ?a ?b; (case F => k_asm); (case a => rfl); (case b => rfl); (case v => assumption); k_whole)))
local macro_rules | `(tactic| k_put) => `(tactic| first | exact putL_nil _ _ _ _ _ | exact putL_one _ _ _ _ _ _ _ _ | exact putL_err_pos | exact putL_err_expr)
local macro_rules | `(tactic| walk_at "getAttr ref") => `(tactic| (k_here; k_dflt (refine' exc_getD ?k1 ?k2 ?k3 ?k4 ?k5 ?k6 ?k7 ?k8 ?k9 ?k10 ?k11 ?_; (case k1 => k_asm); (case k2 => k_asm); (case k3 => (refine' InstAt.of_newsF ?N ?h1 ?h2; (case N => k_asm); (case h1 => k_mem); (case h2 => k_mem))); (case k4 => k_is); (case k5 => k_is); (case k6 => k_is); (case k7 => k_is); (case k8 => k_is); (case k9 => k_is); (case k10 => k_get); (case k11 => k_handed); k_whole)))
local macro_rules | `(tactic| walk_at "setAttr ref") => `(tactic| (k_here; k_dflt (refine' exc_set ?k1 ?k2 ?k3 ?k4 ?k5 ?k6 ?k7 ?k8 ?k9 ?k10 ?k11 ?k12 ?k13 ?_; (case k1 => k_asm); (case k2 => k_asm); (case k3 => k_asm); (case k4 => (refine' InstAt.of_newsF ?N ?h1 ?h2; (case N => k_asm); (case h1 => k_mem); (case h2 => k_mem))); (case k5 => exact rfl); (case k6 => k_is); (case k7 => kernel_rfl); (case k8 => k_is); (case k9 => k_is); (case k10 => k_get); (case k11 => k_put); (case k12 => k_upd); (case k13 => exact Nat.le_of_ble_eq_true rfl); k_whole; intro h' F' N'; (try k_sweep))))
local macro_rules | `(tactic| k_slotget) => `(tactic| first | assumption | rfl)
local macro_rules | `(tactic| walk_at "getAttr ref") => `(tactic| (k_here; k_dflt (refine' get_slotW ?k1 ?k2 ?k3 ?k4 ?k5 ?k6 ?k7 ?k8 ?k9 ?k10 ?k11 ?_; (case k1 => k_asm); (case k2 => k_asm); (case k3 => k_asm); (case k4 => k_mem); (case k5 => k_is); (case k6 => k_is); (case k7 => k_is); (case k8 => k_is); (case k9 => k_is); (case k10 => k_slotget); (case k11 => k_handed); k_whole)))
local macro_rules | `(tactic| walk_at "call builtin:len") => `(tactic| (k_here; (with_reducible show wpAny _ _ (call (Value.builtin _) [Value.str _ _]) _ _ _); k_dflt (refine' SC.len_str ?k1 ?_; (case k1 => assumption); k_whole)))
local macro_rules | `(tactic| walk_at "getMethod ref") => `(tactic| (k_here; (with_reducible show wpAny _ _ (getMethod (Value.ref _) (Str.ofString "match_core") _) _ _ _); k_dflt (refine' meth_core ?k1 ?k2 ?k3 ?k4 ?k5 ?_; (case k1 => k_asm); (case k2 => k_asm); (case k4 => k_inst); (case k3 => assumption); (case k5 => assumption); k_whole)))
local macro_rules | `(tactic| walk_at "call ref") => `(tactic| (k_here; (with_reducible show wpAny _ _ (call (Value.ref 266) _) _ _ _); refine Held.out ?_))
local macro_rules | `(tactic| walk_at "exec For Name Attribute cons nil") => `(tactic| (k_here; refine for_F ?_))
local macro_rules | `(tactic| walk_at "truthy ref") => `(tactic| (k_here; k_dflt (refine' truthyL ?k1 ?k2 ?k3 ?k4 ?_; (case k1 => k_asm); (case k2 => k_mem); (case k3 => first | assumption | (simp only [List.size_toArray, List.length_cons, List.length_nil]; decide) | (simp only [Array.size_push, List.size_toArray, List.length_cons, List.length_nil]; omega)); (case k4 => first | assumption | exact ne1 | exact ne0 | exact neP); k_whole); intro tk'))
theorem unc_choice {w : World} {T : Str} {x dx mem : Addr} {n : Nat} {a b : Ex} (hCa : CoreOK w T a) (hCb : CoreOK w T b) : UncOK w T (.choice x dx mem n a b) := by
  intro dp un gd cn cs aa ccd cl outer A₀ base h₀ L m s loose mean mg mb Q E ca er ed oc oe fs ol rs lc I Z tt p err t1 t2 Bd B F X Tp hk hIZ N hSep hSt hKid hOl hp hB hB2 hT hd hun ret
  obtain ⟨hCo, hEo, hEx, heo, lo, hRows⟩ := hSt
  obtain ⟨⟨idt, tn, hx⟩, hmem, hExa, hExb, hnl⟩ := id hEx
  simp only [Ex.x, Ex.fU]
  obtain ⟨l2, l3, rfl, hKa, hKb⟩ := hKid
  simp only [Ex.deep] at hd hun
  obtain ⟨hIa, sla, tna, hxa, hsla⟩ := hExa.own
  obtain ⟨hIb, slb, tnb, hxb, hslb⟩ := hExb.own
  obtain ⟨esa, ksa, hda, hga⟩ := Cells.dict hKa
  obtain ⟨esb, ksb, hdb, hgb⟩ := Cells.dict hKb
  have hxZ := hIZ _ hx
  have hmemZ := hIZ _ hmem
  have hxaZ := hIZ _ hxa
  have hxbZ := hIZ _ hxb
  generalize hxxa : a.x = xa at hxaZ hmemZ
  generalize hdda : a.dx = da at hxaZ hda
  generalize hcca : a.cls = Ca at hxaZ hIa
  generalize hxxb : b.x = xb at hxbZ hmemZ
  generalize hddb : b.dx = db at hxbZ hdb
  generalize hccb : b.cls = Cb at hxbZ hIb
  rw [List.append_assoc] at N
  refine wpAny_call ?_
  k_dflt ktr_enter
  k_steps
  unfold Held
  rename Fr _ _ _ (fun _ => _) => F1
  rename News _ _ _ _ => N1
  rename Below _ _ _ _ => B1
  rename Frag.In _ _ => X1
  rename Top _ _ _ _ _ _ => T1
  rename _ ∧ _ ∧ AllLt _ _ => lI
  rename TI _ _ _ => x1
  rename IsTup _ _ _ => tu1
  subst hxxa
  refine core_call (Bd := Bd - una b tt.r) hCa [_] [] l3 B1 F1 X1 T1 rfl hIZ N1 (by exact apart1 lI) (by simp [x1.cls]) hSep hCo hEo hExa heo lo hRows hKa hOl hp ?_ ?_ hT ?_ ?_ ?_
  · simp only [unK] at hB; omega
  · omega
  · show dp + 1 + _ + _ < _; omega
  · show un + 3 + _ + _ < _; omega
  · intro v3 h3 tk3 oc3 oe3 rs3 lk3 tl3 F3 N3 hX3 hSep3 hCo3 hEo3 hRows3 hK3 hNR3 hF3 hB3 hRes3
    simp only [List.cons_append, List.nil_append] at N3 hSep3 hRows3
    have hI3 := hX3 _ (List.mem_singleton_self _)
    simp only [List.nil_append] at hI3
    simp only [unc, Ex.pe, uChoice] at ret
    have hBk : una b tt.r + una a tt.l + rs.length ≤ Bd := by simp only [unK] at hB; omega
    generalize core T.cps.toList a.pe tt.l p err = U at *
    obtain ⟨U1, U2, U3⟩ := U
    simp only [] at ret hEo3 hK3 hB3 hRes3
    have hxZ3 : _ ∈ tl3 ++ Z := List.mem_append_right tl3 hxZ
    have hmemZ3 : _ ∈ tl3 ++ Z := List.mem_append_right tl3 hmemZ
    have hxbZ3 : _ ∈ tl3 ++ Z := List.mem_append_right tl3 hxbZ
    clear N1 F1 N
    cases U1 with
    | some tr =>
      have hres := hRes3
      cases hRes3 with
      | mk n1 n2 n3 n4 =>
      have n1Z := mem_mono hIZ _ n1
      k_steps
      rename Fr h₀ L _ m => kF
      rename News h₀ L _ _ => kN
      refine unc_endG (e := .choice x dx mem n a b) (vs := [_]) (cs := [_]) (oc := oc3) (oe := oe3) (rs' := rs3) (lc := lk3 ++ l3) (tl := tl3) ret kF kN (by k_mem) (by k_mem) ?_ ?_ ?_ hSep3 hCo3 hEo3 hEx heo lo hRows3 ?_ hNR3 hF3 ?_ (.cons hres .nil)
      · intro q hq; rw [List.append_assoc] at hq; exact .tail _ (.tail _ (.tail _ (.tail _ hq)))
      · rename _ ∧ _ ∧ _ ∧ _ ∧ AllLt _ _ => kd
        rw [List.append_assoc]; exact tbn_neAll (tbn_up (by assumption) kd.2.2)
      · rename _ ∧ _ ∧ _ ∧ AllLt _ _ => kl
        rw [List.append_assoc]; exact tbn_neAll kl.2
      · exact fun J S => ⟨lk3, l3, rfl, Cells.mono S hK3, Cells.mono (Sub.trans Sub.app S) (Cells.rows hNR3 hKb)⟩
      · show rs3.length + (una a U2 + una b tt.r) ≤ Bd; omega
    | none =>
      cases hRes3
      have hdb3 : (db, dictOf esb ksb) ∈ l3 := hdb
      k_steps
      unfold Held
      rename Fr _ _ _ (fun _ => _) => F4
      rename News _ _ _ _ => N4
      rename Below _ _ _ _ => B4
      rename Frag.In _ _ => X4
      rename Top _ _ _ _ _ _ => T4
      rename TI _ _ _ => x4
      subst hxxb
      refine core_call (Bd := Bd - una a U2) hCb [_] lk3 [] B4 F4 X4 T4 rfl (mem_mono hIZ) N4 (by intro q hq; rw [List.mem_singleton.mp hq]; exact hI3) (by simp [x4.cls]) (by rw [List.append_nil]; exact hSep3) hCo3 hEo3 (ExIn.mono Sub.app hExb) (List.mem_append_right _ heo) lo (by rw [List.append_nil]; exact hRows3)
        (Cells.mono Sub.app (Cells.rows hNR3 hKb)) (NewRows.ol hNR3 hOl fun q hq => List.mem_append_right _ hq) hp ?_ ?_ hT ?_ ?_ ?_
      · omega
      · omega
      · show dp + 1 + _ + _ < _; omega
      · show un + 3 + _ + _ < _; omega
      · intro v5 h5 tk5 oc5 oe5 rs5 lk5 tl5 F5 N5 hX5 hSep5 hCo5 hEo5 hRows5 hK5 hNR5 hF5 hB5 hRes5
        simp only [List.cons_append, List.nil_append] at N5 hSep5 hRows5
        rw [List.append_nil] at hSep5 hRows5
        have hI5 := hX5 _ (List.mem_singleton_self _)
        simp only [List.nil_append] at hI5
        have hIZ5 := mem_mono (tl := tl5) (mem_mono (tl := tl3) hIZ)
        generalize core T.cps.toList b.pe tt.r p U3 = V at *
        obtain ⟨V1, V2, V3⟩ := V
        simp only [] at ret hEo5 hK5 hB5 hRes5
        have hxZ5 : _ ∈ tl5 ++ (tl3 ++ Z) := List.mem_append_right tl5 hxZ3
        have hmemZ5 : _ ∈ tl5 ++ (tl3 ++ Z) := List.mem_append_right tl5 hmemZ3
        have aJ : ∀ K : Led, tl5 ++ (tl3 ++ K) = (tl5 ++ tl3) ++ K := fun K => (List.append_assoc _ _ _).symm
        have hFF : Fresh (tl5 ++ tl3) Z := fun q hq z hz => (List.mem_append.mp hq).elim (fun g => hF5 q g z (List.mem_append_right _ hz)) fun g => hF3 q g z hz
        have hNR := hNR3.trans hNR5 fun q hq => List.mem_append_right _ hq
        clear N4 F4
        cases V1 with
        | some tr =>
          have hres := hRes5
          cases hRes5 with
          | mk n1 n2 n3 n4 =>
          have n1Z := hIZ5 _ n1
          k_steps
          rename Fr h₀ L _ m => kF
          rename News h₀ L _ _ => kN
          refine unc_endG (e := .choice x dx mem n a b) (vs := [_]) (cs := [_]) (oc := oc5) (oe := oe5) (rs' := rs5) (lc := lk3 ++ lk5) (tl := tl5 ++ tl3) ret kF kN (by k_mem) (by k_mem) ?_ ?_ ?_ (by rw [← aJ]; exact hSep5) hCo5 (by rw [← aJ]; exact hEo5) hEx heo lo (by rw [← aJ]; exact hRows5) ?_ hNR hFF ?_ (.cons (by rw [← aJ]; exact hres) .nil)
          · intro q hq; rw [← aJ, List.append_assoc] at hq; exact .tail _ (.tail _ (.tail _ (.tail _ hq)))
          · rename _ ∧ _ ∧ _ ∧ _ ∧ AllLt _ _ => kd
            rw [← aJ, List.append_assoc]; exact tbn_neAll (tbn_up (by assumption) kd.2.2)
          · rename _ ∧ _ ∧ _ ∧ AllLt _ _ => kl
            rw [← aJ, List.append_assoc]; exact tbn_neAll kl.2
          · rw [← aJ]
            exact fun J S => ⟨lk3, lk5, rfl, Cells.mono (Sub.trans Sub.app S) (Cells.rows hNR5 hK3), Cells.mono S hK5⟩
          · show rs5.length + (una a U2 + una b V2) ≤ Bd; omega
        | none =>
          cases hRes5
          k_steps
          rename Fr h₀ L _ m => kF
          rename News h₀ L _ _ => kN
          refine unc_endN (e := .choice x dx mem n a b) (oc := oc5) (oe := oe5) (rs' := rs5) (lc := lk3 ++ lk5) (tl := tl5 ++ tl3) ret kF kN ?_ (by rw [← aJ]; exact hSep5) hCo5 (by rw [← aJ]; exact hEo5) hEx heo lo (by rw [← aJ]; exact hRows5) ?_ hNR hFF ?_
          · intro q hq; rw [← aJ, List.append_assoc] at hq; exact hq
          · rw [← aJ]
            exact fun J S => ⟨lk3, lk5, rfl, Cells.mono (Sub.trans Sub.app S) (Cells.rows hNR5 hK3), Cells.mono S hK5⟩
          · show rs5.length + (una a U2 + una b V2) ≤ Bd; omega
end Mine
namespace Mine
local macro_rules | `(tactic| walk_at "zz") => `(tactic| fail)
local macro_rules | `(tactic| walk_at "zz") => `(tactic| fail)
local macro_rules | `(tactic| walk_at "zz") => `(tactic| fail)
local macro_rules | `(tactic| walk_at "zz") => `(tactic| fail)
local macro_rules | `(tactic| walk_at "zz") => `(tactic| fail)
local macro_rules | `(tactic| walk_at "zz") => `(tactic| fail)
local macro_rules | `(tactic| walk_at "zz") => `(tactic| fail)
local macro_rules | `(tactic| walk_at "zz") => `(tactic| fail)
local macro_rules | `(tactic| walk_at "zz") => `(tactic| fail)
local macro_rules | `(tactic| walk_at "zz") => `(tactic| fail)
local macro_rules | `(tactic| walk_at "zz") => `(tactic| fail)
local macro_rules | `(tactic| walk_at "zz") => `(tactic| fail)
local macro_rules | `(tactic| walk_at "zz") => `(tactic| fail)
theorem rs_A_cn : True := by w_top off; trivial
local macro_rules | `(tactic| k_all) => `(tactic| assumption)
local macro_rules | `(tactic| k_ne) => `(tactic| first | assumption | exact Ne.symm (by assumption) | exact Nat.ne_of_lt (by assumption) | exact Nat.ne_of_gt (by assumption))
local macro_rules | `(tactic| k_room) => `(tactic| ktr_room)
local macro_rules | `(tactic| walk_at "call builtin:getattr") => `(tactic| (k_here; (with_reducible show wpAny _ _ (call (Value.builtin _) [_, Value.str _ _, _]) _ _ _); k_dflt (first
  | (refine' ga3_own ?k1 ?k2 ?k3 ?k4 ?k5 ?k6 ?k7 ?k8 ?k9 ?k10 ?k11 ?_; (case k1 => k_asm); (case k2 => k_asm); (case k3 => k_inst); (case k4 => k_is); (case k5 => k_is); (case k6 => k_is); (case k7 => k_is); (case k8 => k_get); (case k9 => k_handed); (case k10 => decide +kernel); (case k11 => k_is); k_whole)
  | (refine' ga3_miss ?k1 ?k2 ?k3 ?k4 ?k5 ?k6 ?k7 ?k8 ?k9 ?k10 ?k11 ?k12 ?k13 ?_; (case k1 => k_asm); (case k2 => k_asm); (case k3 => k_asm); (case k4 => k_inst); (case k5 => k_is); (case k6 => k_is); (case k7 => k_is); (case k8 => decide +kernel); (case k9 => k_get); (case k10 => decide +kernel); (case k11 => k_is); (case k12 => exact rfl); (case k13 => (first | (refine' MsgOk.of ?q1 ?q2 ?q3; (case q1 => k_is); (case q2 => decide +kernel); (case q3 => decide +kernel)) | (rename IsEx _ => h5; rcases h5 with e5 | e5 | e5 | e5 | e5 <;> subst e5 <;> (refine' MsgOk.of ?q1 ?q2 ?q3; (case q1 => k_is); (case q2 => decide +kernel); (case q3 => decide +kernel))))); k_whole; intro h' tk' F' N'; (try k_sweep)))))
local macro_rules | `(tactic| k_upd) => `(tactic| first | (refine' Off.head ?a; (case a => k_all)) | (refine' Off.tail ?a ?b; (case a => k_ne); (case b => k_upd)))
local macro_rules | `(tactic| walk_at "pyIter ref") => `(tactic| (k_here; (with_reducible show wpAny _ _ (pyIter (Value.ref _)) (fun it s₂ => codeAny _ _ (Code.forLoop _ it _ _ _) _ s₂) _ _); k_dflt (refine' tup_iter ?k1 ?k2 ?k3 ?_; (case k1 => k_asm); (case k2 => k_asm); (case k3 => exact News.isTup (by k_asm) (by k_mem)); k_whole); intro I' h' o' F' N' x' l1 l2; (try k_lt l1); (try k_lt2 l2); (try k_sweep)))
local macro_rules | `(tactic| walk_at "codeAny forLoop") => `(tactic| (k_here; (with_reducible show codeAny _ _ (Code.forLoop _ (Value.ref _) _ _ _) (okR _) _); k_dflt (first
  | (refine' tup_last ?k1 ?k2 ?k3 ?k4 ?k5 ?k6 ?k7 ?_; (case k1 => k_asm); (case k4 => assumption); (case k2 => k_asm); (case k3 => k_upd); (case k5 => exact News.isTup (by k_asm) (by k_mem)); (case k6 => exact rfl); (case k7 => exact rfl); k_whole; intro h' F' N'; (try k_sweep))
  | (refine' tup_turn ?k1 ?k2 ?k3 ?k4 ?k5 ?k6 ?k7 ?_; (case k1 => k_asm); (case k4 => assumption); (case k2 => k_asm); (case k3 => k_updF); (case k5 => exact News.isTup (by k_asm) (by k_mem)); (case k6 => first | exact get2_0 | exact get2_1 | exact rfl); (case k7 => k_ne); k_whole; intro h' o' F' N' x' T'; (try k_sweep)))))
local macro_rules | `(tactic| walk_at "call builtin:len") => `(tactic| (k_here; (with_reducible show wpAny _ _ (call (Value.builtin _) [Value.ref _]) _ _ _); k_dflt (refine' d_len (knd := intKind _ _) ?k1 ?k2 ?k3 ?k4 ?k5 ?k6 ?_; (case k1 => k_asm); (case k2 => k_mem); (case k3 => assumption); (case k4 => assumption); (case k5 => first | exact rowsK_length _ | rfl); (case k6 => (first | omega | (simp only [List.length_append, List.length_cons, List.length_nil]; omega))); k_whole; intro tk')))
local macro_rules | `(tactic| walk_at "getMethod ref") => `(tactic| (k_here; (with_reducible show wpAny _ _ (getMethod (Value.ref _) (Str.ofString "get") _) _ _ _); k_dflt (refine' d_meth (knd := intKind _ _) ?k1 ?k2 ?k3 PySem.F.slot_dict_get PySem.F.type_dict_get ?_; (case k1 => k_asm); (case k2 => k_mem); (case k3 => assumption); k_whole)))
local macro_rules | `(tactic| walk_at "call builtin:dict.get") => `(tactic| (k_here; (with_reducible show wpAny _ _ (call (Value.builtin _) [Value.ref _, Value.int _ _]) _ _ _); k_dflt (refine' d_get (knd := intKind _ _) ?k1 ?k2 ?k3 ?k4 (intKind_is _ _ _ _) ?_; (case k1 => k_asm); (case k2 => k_mem); (case k3 => assumption); (case k4 => assumption); k_whole)))
local macro_rules | `(tactic| walk_at "compareOp In int ref") => `(tactic| (k_here; k_dflt (refine' d_in (knd := intKind _ _) ?k1 ?k2 ?k3 ?k4 (intKind_is _ _ _ _) ?_; (case k1 => k_asm); (case k2 => k_mem); (case k3 => assumption); (case k4 => assumption); k_whole)))
local macro_rules | `(tactic| walk_at "subscriptTail") => `(tactic| (k_here; (with_reducible show wpAny _ _ (subscriptTail _ _ (Value.ref _) (Value.int _ _)) _ _ _); k_dflt (refine' d_item (knd := intKind _ _) ?k1 ?k2 ?k3 (intKind_is _ _ _ _) ?k5 ?_; (case k1 => k_asm); (case k2 => k_mem); (case k3 => assumption); (case k5 => assumption); k_whole)))
local macro_rules | `(tactic| walk_at "setItem ref int") => `(tactic| (k_here; k_dflt (refine' d_set (knd := intKind _ _) ?k1 ?k2 ?k3 ?k4 (intKind_is _ _ _ _) ?k6 ?_; (case k1 => k_asm); (case k2 => k_asm); (case k3 => k_updF); (case k4 => assumption); (case k6 => (rw [sizeLine_eq]; (first | omega | (simp only [rowsK_length, rowK_length, List.length_map, List.length_append, List.length_cons, List.length_nil]; omega)))); k_whole); intro h' o' F' N' hd'; (try dsimp only at N'); (try simp only [rowsK_length, stored_rows] at hd'); (try k_sweep)))
local macro_rules | `(tactic| k_all) => `(tactic| first | assumption | (refine List.forall_mem_append.mpr ⟨?_, ?_⟩ <;> k_all) | (exact tbn_neAll (by first | assumption | tbn_find)) | (exact tbn_neAll (tbn_up (by assumption) (by tbn_find))))
local macro_rules | `(tactic| k_mem) => `(tactic| ((with_reducible show List.Mem _ _); first | (show (_ : Addr × Obj) ∈ (_ : List (Addr × Obj)); ktr_member) | ((with_reducible show List.Mem _ (_ ++ _)); first | (refine' List.mem_append_left _ ?q; (case q => k_mem)) | (refine' List.mem_append_right _ ?q; (case q => k_mem)))))
local macro_rules | `(tactic| k_put) => `(tactic| first | exact putL_nil _ _ _ _ _ | exact putL_one _ _ _ _ _ _ _ _)
local macro_rules | `(tactic| walk_at "eval Name") => `(tactic| (k_here; k_dflt (refine' nameX_L ?F ?v ?_ ?a ?b; (case F => k_asm); (case a => rfl); (case b => rfl); (case v => assumption); k_whole)))
local macro_rules | `(tactic| k_put) => `(tactic| first | exact putL_nil _ _ _ _ _ | exact putL_one _ _ _ _ _ _ _ _ | exact putL_err_pos | exact putL_err_expr)
local macro_rules | `(tactic| walk_at "getAttr ref") => `(tactic| (k_here; k_dflt (refine' exc_getD ?k1 ?k2 ?k3 ?k4 ?k5 ?k6 ?k7 ?k8 ?k9 ?k10 ?k11 ?_; (case k1 => k_asm); (case k2 => k_asm); (case k3 => (refine' InstAt.of_newsF ?N ?h1 ?h2; (case N => k_asm); (case h1 => k_mem); (case h2 => k_mem))); (case k4 => k_is); (case k5 => k_is); (case k6 => k_is); (case k7 => k_is); (case k8 => k_is); (case k9 => k_is); (case k10 => k_get); (case k11 => k_handed); k_whole)))
local macro_rules | `(tactic| walk_at "setAttr ref") => `(tactic| (k_here; k_dflt (refine' exc_set ?k1 ?k2 ?k3 ?k4 ?k5 ?k6 ?k7 ?k8 ?k9 ?k10 ?k11 ?k12 ?k13 ?_; (case k1 => k_asm); (case k2 => k_asm); (case k3 => k_asm); (case k4 => (refine' InstAt.of_newsF ?N ?h1 ?h2; (case N => k_asm); (case h1 => k_mem); (case h2 => k_mem))); (case k5 => exact rfl); (case k6 => k_is); (case k7 => kernel_rfl); (case k8 => k_is); (case k9 => k_is); (case k10 => k_get); (case k11 => k_put); (case k12 => k_upd); (case k13 => exact Nat.le_of_ble_eq_true rfl); k_whole; intro h' F' N'; (try k_sweep))))
local macro_rules | `(tactic| k_slotget) => `(tactic| first | assumption | rfl)
local macro_rules | `(tactic| walk_at "getAttr ref") => `(tactic| (k_here; k_dflt (refine' get_slotW ?k1 ?k2 ?k3 ?k4 ?k5 ?k6 ?k7 ?k8 ?k9 ?k10 ?k11 ?_; (case k1 => k_asm); (case k2 => k_asm); (case k3 => k_asm); (case k4 => k_mem); (case k5 => k_is); (case k6 => k_is); (case k7 => k_is); (case k8 => k_is); (case k9 => k_is); (case k10 => k_slotget); (case k11 => k_handed); k_whole)))
local macro_rules | `(tactic| walk_at "call builtin:len") => `(tactic| (k_here; (with_reducible show wpAny _ _ (call (Value.builtin _) [Value.str _ _]) _ _ _); k_dflt (refine' SC.len_str ?k1 ?_; (case k1 => assumption); k_whole)))
local macro_rules | `(tactic| walk_at "getMethod ref") => `(tactic| (k_here; (with_reducible show wpAny _ _ (getMethod (Value.ref _) (Str.ofString "match_core") _) _ _ _); k_dflt (refine' meth_core ?k1 ?k2 ?k3 ?k4 ?k5 ?_; (case k1 => k_asm); (case k2 => k_asm); (case k4 => k_inst); (case k3 => assumption); (case k5 => assumption); k_whole)))
local macro_rules | `(tactic| walk_at "call ref") => `(tactic| (k_here; (with_reducible show wpAny _ _ (call (Value.ref 266) _) _ _ _); refine Held.out ?_))
local macro_rules | `(tactic| walk_at "exec For Name Attribute cons nil") => `(tactic| (k_here; refine for_F ?_))
local macro_rules | `(tactic| walk_at "truthy ref") => `(tactic| (k_here; k_dflt (refine' truthyL ?k1 ?k2 ?k3 ?k4 ?_; (case k1 => k_asm); (case k2 => k_mem); (case k3 => first | assumption | (simp only [List.size_toArray, List.length_cons, List.length_nil]; decide) | (simp only [Array.size_push, List.size_toArray, List.length_cons, List.length_nil]; omega)); (case k4 => first | assumption | exact ne1 | exact ne0 | exact neP); k_whole); intro tk'))
theorem unc_chain {w : World} {T : Str} {x dx mem : Addr} {n : Nat} {a b : Ex} (hCa : CoreOK w T a) (hCb : CoreOK w T b) : UncOK w T (.chain x dx mem n a b) := by
  intro dp un gd cn cs aa ccd cl outer A₀ base h₀ L m s loose mean mg mb Q E ca er ed oc oe fs ol rs lc I Z tt p err t1 t2 Bd B F X Tp hk hIZ N hSep hSt hKid hOl hp hB hB2 hT hd hun ret
  obtain ⟨hCo, hEo, hEx, heo, lo, hRows⟩ := hSt
  obtain ⟨⟨idt, tn, hx⟩, hmem, hExa, hExb, hnl⟩ := id hEx
  simp only [Ex.x, Ex.fU]
  obtain ⟨l2, l3, rfl, hKa, hKb⟩ := hKid
  simp only [Ex.deep] at hd hun
  obtain ⟨hIa, sla, tna, hxa, hsla⟩ := hExa.own
  obtain ⟨hIb, slb, tnb, hxb, hslb⟩ := hExb.own
  obtain ⟨esa, ksa, hda, hga⟩ := Cells.dict hKa
  obtain ⟨esb, ksb, hdb, hgb⟩ := Cells.dict hKb
  have hxZ := hIZ _ hx
  have hmemZ := hIZ _ hmem
  have hxaZ := hIZ _ hxa
  have hxbZ := hIZ _ hxb
  generalize hxxa : a.x = xa at hxaZ hmemZ
  generalize hdda : a.dx = da at hxaZ hda
  generalize hcca : a.cls = Ca at hxaZ hIa
  generalize hxxb : b.x = xb at hxbZ hmemZ
  generalize hddb : b.dx = db at hxbZ hdb
  generalize hccb : b.cls = Cb at hxbZ hIb
  rw [List.append_assoc] at N
  refine wpAny_call ?_
  k_dflt ktr_enter
  k_steps
  unfold Held
  rename Fr _ _ _ (fun _ => _) => F1
  rename News _ _ _ _ => N1
  rename Below _ _ _ _ => B1
  rename Frag.In _ _ => X1
  rename Top _ _ _ _ _ _ => T1
  rename _ ∧ _ ∧ AllLt _ _ => lI
  rename TI _ _ _ => x1
  rename IsTup _ _ _ => tu1
  rename _ ∧ _ ∧ _ ∧ AllLt _ _ => kI
  subst hxxa
  refine core_call (Bd := Bd - una b tt.r) hCa [_, _] [] l3 B1 F1 X1 T1 rfl hIZ N1 (by exact apart2 kI.2 lI) (by simp [x1.cls]) hSep hCo hEo hExa heo lo hRows hKa hOl hp ?_ ?_ hT ?_ ?_ ?_
  · simp only [unK] at hB; omega
  · omega
  · show dp + 1 + _ + _ < _; omega
  · show un + 3 + _ + _ < _; omega
  · intro v3 h3 tk3 oc3 oe3 rs3 lk3 tl3 F3 N3 hX3 hSep3 hCo3 hEo3 hRows3 hK3 hNR3 hF3 hB3 hRes3
    simp only [List.cons_append, List.nil_append] at N3 hSep3 hRows3
    have hI3 := hX3 _ (.head _)
    have hl3 := hX3 _ (.tail _ (.head _))
    simp only [List.nil_append] at hI3 hl3
    simp only [unc, Ex.pe, uChain] at ret
    have hok := Cells.okC hKa err hp
    have hBk : una b tt.r + una a tt.l + rs.length ≤ Bd := by simp only [unK] at hB; omega
    generalize core T.cps.toList a.pe tt.l p err = U at *
    obtain ⟨U1, U2, U3⟩ := U
    simp only [] at ret hEo3 hK3 hB3 hRes3 hok
    have hxZ3 : _ ∈ tl3 ++ Z := List.mem_append_right tl3 hxZ
    have hmemZ3 : _ ∈ tl3 ++ Z := List.mem_append_right tl3 hmemZ
    have hxbZ3 : _ ∈ tl3 ++ Z := List.mem_append_right tl3 hxbZ
    have kI1 := kI.1
    clear N1 F1 N
    cases U1 with
    | none =>
      cases hRes3
      k_steps
      rename Fr h₀ L _ m => kF
      rename News h₀ L _ _ => kN
      refine unc_endN (e := .chain x dx mem n a b) (oc := oc3) (oe := oe3) (rs' := rs3) (lc := lk3 ++ l3) (tl := tl3) ret kF kN ?_ hSep3 hCo3 hEo3 hEx heo lo hRows3 ?_ hNR3 hF3 ?_
      · intro q hq; rw [List.append_assoc] at hq; exact .tail _ (.tail _ hq)
      · exact fun J S => ⟨lk3, l3, rfl, Cells.mono S hK3, Cells.mono (Sub.trans Sub.app S) (Cells.rows hNR3 hKb)⟩
      · show rs3.length + (una a U2 + una b tt.r) ≤ Bd; omega
    | some tr =>
      obtain ⟨n0, s0, e0, cs0⟩ := tr
      have hres := hRes3
      obtain ⟨na, nd, ncl, nx, nep, nts, nte, ntT, nvs, rfl, n1, n2, n3, n4⟩ := NodeIn.inv hRes3
      have n1Z := mem_mono hIZ _ n1
      obtain ⟨q0, q1, q2⟩ := hok _ rfl
      simp only [Tree.s, Tree.e] at q0 q1 q2 ret
      have q0' := q0.symm; subst q0'
      have hdb3 : (db, dictOf esb ksb) ∈ l3 := hdb
      k_steps
      unfold Held
      rename Fr _ _ _ (fun _ => _) => F4
      rename News _ _ _ _ => N4
      rename Below _ _ _ _ => B4
      rename Frag.In _ _ => X4
      rename Top _ _ _ _ _ _ => T4
      rename TI _ _ _ => x4
      have ez : ∀ y z : Nat, y ≤ z → ((y : Int) + ((z : Int) - y)) = ((y + (z - y) : Nat) : Int) := by intros; omega
      rw [ez _ _ q1] at F4 ⊢
      subst hxxb
      refine core_call (Bd := Bd - una a U2) hCb [_, _] lk3 [] B4 F4 X4 T4 rfl (mem_mono hIZ) N4 (by intro q hq; rcases List.mem_cons.mp hq with rfl | hq; exact hI3; rw [List.mem_singleton.mp hq]; exact hl3) (by simp [x4.cls]) (by rw [List.append_nil]; exact hSep3) hCo3 hEo3 (ExIn.mono Sub.app hExb) (List.mem_append_right _ heo) lo (by rw [List.append_nil]; exact hRows3)
        (Cells.mono Sub.app (Cells.rows hNR3 hKb)) (NewRows.ol hNR3 hOl fun q hq => List.mem_append_right _ hq) ?_ ?_ ?_ hT ?_ ?_ ?_
      · omega
      · omega
      · omega
      · show dp + 1 + _ + _ < _; omega
      · show un + 3 + _ + _ < _; omega
      · intro v5 h5 tk5 oc5 oe5 rs5 lk5 tl5 F5 N5 hX5 hSep5 hCo5 hEo5 hRows5 hK5 hNR5 hF5 hB5 hRes5
        simp only [List.cons_append, List.nil_append] at N5 hSep5 hRows5
        rw [List.append_nil] at hSep5 hRows5
        have hI5 := hX5 _ (.head _)
        have hl5 := hX5 _ (.tail _ (.head _))
        simp only [List.nil_append] at hI5 hl5
        have hIZ5 := mem_mono (tl := tl5) (mem_mono (tl := tl3) hIZ)
        have hok5 := Cells.okC (Cells.rows hNR3 hKb) U3 (p := p + (e0 - p)) (by omega)
        generalize core T.cps.toList b.pe tt.r _ U3 = V at *
        obtain ⟨V1, V2, V3⟩ := V
        simp only [] at ret hEo5 hK5 hB5 hRes5
        have hxZ5 : _ ∈ tl5 ++ (tl3 ++ Z) := List.mem_append_right tl5 hxZ3
        have hmemZ5 : _ ∈ tl5 ++ (tl3 ++ Z) := List.mem_append_right tl5 hmemZ3
        have aJ : ∀ K : Led, tl5 ++ (tl3 ++ K) = (tl5 ++ tl3) ++ K := fun K => (List.append_assoc _ _ _).symm
        have hFF : Fresh (tl5 ++ tl3) Z := fun q hq z hz => (List.mem_append.mp hq).elim (fun g => hF5 q g z (List.mem_append_right _ hz)) fun g => hF3 q g z hz
        have hNR := hNR3.trans hNR5 fun q hq => List.mem_append_right _ hq
        clear N4 F4
        cases V1 with
        | none =>
          cases hRes5
          k_steps
          rename Fr h₀ L _ m => kF
          rename News h₀ L _ _ => kN
          refine unc_endN (e := .chain x dx mem n a b) (oc := oc5) (oe := oe5) (rs' := rs5) (lc := lk3 ++ lk5) (tl := tl5 ++ tl3) ret kF kN ?_ (by rw [← aJ]; exact hSep5) hCo5 (by rw [← aJ]; exact hEo5) hEx heo lo (by rw [← aJ]; exact hRows5) ?_ hNR hFF ?_
          · intro q hq; rw [← aJ, List.append_assoc] at hq; exact .tail _ (.tail _ hq)
          · rw [← aJ]
            exact fun J S => ⟨lk3, lk5, rfl, Cells.mono (Sub.trans Sub.app S) (Cells.rows hNR5 hK3), Cells.mono S hK5⟩
          · show rs5.length + (una a U2 + una b V2) ≤ Bd; omega
        | some tr =>
          obtain ⟨n6, s6, e6, cs6⟩ := tr
          have hres5 := hRes5
          obtain ⟨ma, md, mcl, mx, mep, mts, mte, mtT, mvs, rfl, m1, m2, m3, m4⟩ := NodeIn.inv hRes5
          have m1Z := hIZ5 _ m1
          obtain ⟨r0, r1, r2⟩ := hok5 _ rfl
          simp only [Tree.s, Tree.e] at r0 r1 r2 ret
          have r0' := r0.symm; subst r0'
          k_steps
          rename Fr h₀ L _ m => kF
          rename News h₀ L _ _ => kN
          rw [ez _ _ r1] at kN
          have el : ∀ k, W.listOf ((#[].push (Value.ref na)).push (Value.ref ma)) k = listObj [.ref na, .ref ma] k := fun _ => rfl
          rw [el] at kN
          refine unc_endG (e := .chain x dx mem n a b) (vs := [.ref na, .ref ma]) (cs := [.nd n0 p e0 cs0, .nd n6 (p + (e0 - p)) e6 cs6]) (oc := oc5) (oe := oe5) (rs' := rs5) (lc := lk3 ++ lk5) (tl := tl5 ++ tl3) ret kF kN (by k_mem) (by k_mem) ?_ ?_ ?_ (by rw [← aJ]; exact hSep5) hCo5 (by rw [← aJ]; exact hEo5) hEx heo lo (by rw [← aJ]; exact hRows5) ?_ hNR hFF ?_
            (.cons (NodeIn.mono (by rw [← aJ]; exact Sub.app) hres) (.cons (by rw [← aJ]; exact hres5) .nil))
          · intro q hq; rw [← aJ, List.append_assoc] at hq; exact .tail _ (.tail _ (.tail _ hq))
          · rename _ ∧ _ ∧ _ ∧ AllLt _ _ => kd
            rw [← aJ, List.append_assoc]; exact tbn_neAll (tbn_up (by assumption) kd.2)
          · rw [← aJ, List.append_assoc]; exact hl5
          · rw [← aJ]
            exact fun J S => ⟨lk3, lk5, rfl, Cells.mono (Sub.trans Sub.app S) (Cells.rows hNR5 hK3), Cells.mono S hK5⟩
          · show rs5.length + (una a U2 + una b V2) ≤ Bd; omega
end Mine
namespace Mine
local macro_rules | `(tactic| walk_at "zz") => `(tactic| fail)
local macro_rules | `(tactic| walk_at "zz") => `(tactic| fail)
local macro_rules | `(tactic| walk_at "zz") => `(tactic| fail)
local macro_rules | `(tactic| walk_at "zz") => `(tactic| fail)
local macro_rules | `(tactic| walk_at "zz") => `(tactic| fail)
local macro_rules | `(tactic| walk_at "zz") => `(tactic| fail)
local macro_rules | `(tactic| walk_at "zz") => `(tactic| fail)
local macro_rules | `(tactic| walk_at "zz") => `(tactic| fail)
local macro_rules | `(tactic| walk_at "zz") => `(tactic| fail)
local macro_rules | `(tactic| walk_at "zz") => `(tactic| fail)
local macro_rules | `(tactic| walk_at "zz") => `(tactic| fail)
local macro_rules | `(tactic| walk_at "zz") => `(tactic| fail)
local macro_rules | `(tactic| walk_at "zz") => `(tactic| fail)
local macro_rules | `(tactic| walk_at "zz") => `(tactic| fail)
theorem rs_A_mn : True := by w_top off; trivial
local macro_rules | `(tactic| k_all) => `(tactic| assumption)
local macro_rules | `(tactic| k_ne) => `(tactic| first | assumption | exact Ne.symm (by assumption) | exact Nat.ne_of_lt (by assumption) | exact Nat.ne_of_gt (by assumption))
local macro_rules | `(tactic| k_room) => `(tactic| ktr_room)
local macro_rules | `(tactic| walk_at "call builtin:getattr") => `(tactic| (k_here; (with_reducible show wpAny _ _ (call (Value.builtin _) [_, Value.str _ _, _]) _ _ _); k_dflt (first
  | (refine' ga3_own ?k1 ?k2 ?k3 ?k4 ?k5 ?k6 ?k7 ?k8 ?k9 ?k10 ?k11 ?_; (case k1 => k_asm); (case k2 => k_asm); (case k3 => k_inst); (case k4 => k_is); (case k5 => k_is); (case k6 => k_is); (case k7 => k_is); (case k8 => k_get); (case k9 => k_handed); (case k10 => decide +kernel); (case k11 => k_is); k_whole)
  | (refine' ga3_miss ?k1 ?k2 ?k3 ?k4 ?k5 ?k6 ?k7 ?k8 ?k9 ?k10 ?k11 ?k12 ?k13 ?_; (case k1 => k_asm); (case k2 => k_asm); (case k3 => k_asm); (case k4 => k_inst); (case k5 => k_is); (case k6 => k_is); (case k7 => k_is); (case k8 => decide +kernel); (case k9 => k_get); (case k10 => decide +kernel); (case k11 => k_is); (case k12 => exact rfl); (case k13 => (first | (refine' MsgOk.of ?q1 ?q2 ?q3; (case q1 => k_is); (case q2 => decide +kernel); (case q3 => decide +kernel)) | (rename IsEx _ => h5; rcases h5 with e5 | e5 | e5 | e5 | e5 <;> subst e5 <;> (refine' MsgOk.of ?q1 ?q2 ?q3; (case q1 => k_is); (case q2 => decide +kernel); (case q3 => decide +kernel))))); k_whole; intro h' tk' F' N'; (try k_sweep)))))
local macro_rules | `(tactic| k_upd) => `(tactic| first | (refine' Off.head ?a; (case a => k_all)) | (refine' Off.tail ?a ?b; (case a => k_ne); (case b => k_upd)))
local macro_rules | `(tactic| walk_at "pyIter ref") => `(tactic| (k_here; (with_reducible show wpAny _ _ (pyIter (Value.ref _)) (fun it s₂ => codeAny _ _ (Code.forLoop _ it _ _ _) _ s₂) _ _); k_dflt (refine' tup_iter ?k1 ?k2 ?k3 ?_; (case k1 => k_asm); (case k2 => k_asm); (case k3 => exact News.isTup (by k_asm) (by k_mem)); k_whole); intro I' h' o' F' N' x' l1 l2; (try k_lt l1); (try k_lt2 l2); (try k_sweep)))
local macro_rules | `(tactic| walk_at "codeAny forLoop") => `(tactic| (k_here; (with_reducible show codeAny _ _ (Code.forLoop _ (Value.ref _) _ _ _) (okR _) _); k_dflt (first
  | (refine' tup_last ?k1 ?k2 ?k3 ?k4 ?k5 ?k6 ?k7 ?_; (case k1 => k_asm); (case k4 => assumption); (case k2 => k_asm); (case k3 => k_upd); (case k5 => exact News.isTup (by k_asm) (by k_mem)); (case k6 => exact rfl); (case k7 => exact rfl); k_whole; intro h' F' N'; (try k_sweep))
  | (refine' tup_turn ?k1 ?k2 ?k3 ?k4 ?k5 ?k6 ?k7 ?_; (case k1 => k_asm); (case k4 => assumption); (case k2 => k_asm); (case k3 => k_updF); (case k5 => exact News.isTup (by k_asm) (by k_mem)); (case k6 => first | exact get2_0 | exact get2_1 | exact rfl); (case k7 => k_ne); k_whole; intro h' o' F' N' x' T'; (try k_sweep)))))
local macro_rules | `(tactic| walk_at "call builtin:len") => `(tactic| (k_here; (with_reducible show wpAny _ _ (call (Value.builtin _) [Value.ref _]) _ _ _); k_dflt (refine' d_len (knd := intKind _ _) ?k1 ?k2 ?k3 ?k4 ?k5 ?k6 ?_; (case k1 => k_asm); (case k2 => k_mem); (case k3 => assumption); (case k4 => assumption); (case k5 => first | exact rowsK_length _ | rfl); (case k6 => (first | omega | (simp only [List.length_append, List.length_cons, List.length_nil]; omega))); k_whole; intro tk')))
local macro_rules | `(tactic| walk_at "getMethod ref") => `(tactic| (k_here; (with_reducible show wpAny _ _ (getMethod (Value.ref _) (Str.ofString "get") _) _ _ _); k_dflt (refine' d_meth (knd := intKind _ _) ?k1 ?k2 ?k3 PySem.F.slot_dict_get PySem.F.type_dict_get ?_; (case k1 => k_asm); (case k2 => k_mem); (case k3 => assumption); k_whole)))
local macro_rules | `(tactic| walk_at "call builtin:dict.get") => `(tactic| (k_here; (with_reducible show wpAny _ _ (call (Value.builtin _) [Value.ref _, Value.int _ _]) _ _ _); k_dflt (refine' d_get (knd := intKind _ _) ?k1 ?k2 ?k3 ?k4 (intKind_is _ _ _ _) ?_; (case k1 => k_asm); (case k2 => k_mem); (case k3 => assumption); (case k4 => assumption); k_whole)))
local macro_rules | `(tactic| walk_at "compareOp In int ref") => `(tactic| (k_here; k_dflt (refine' d_in (knd := intKind _ _) ?k1 ?k2 ?k3 ?k4 (intKind_is _ _ _ _) ?_; (case k1 => k_asm); (case k2 => k_mem); (case k3 => assumption); (case k4 => assumption); k_whole)))
local macro_rules | `(tactic| walk_at "subscriptTail") => `(tactic| (k_here; (with_reducible show wpAny _ _ (subscriptTail _ _ (Value.ref _) (Value.int _ _)) _ _ _); k_dflt (refine' d_item (knd := intKind _ _) ?k1 ?k2 ?k3 (intKind_is _ _ _ _) ?k5 ?_; (case k1 => k_asm); (case k2 => k_mem); (case k3 => assumption); (case k5 => assumption); k_whole)))
local macro_rules | `(tactic| walk_at "setItem ref int") => `(tactic| (k_here; k_dflt (refine' d_set (knd := intKind _ _) ?k1 ?k2 ?k3 ?k4 (intKind_is _ _ _ _) ?k6 ?_; (case k1 => k_asm); (case k2 => k_asm); (case k3 => k_updF); (case k4 => assumption); (case k6 => (rw [sizeLine_eq]; (first | omega | (simp only [rowsK_length, rowK_length, List.length_map, List.length_append, List.length_cons, List.length_nil]; omega)))); k_whole); intro h' o' F' N' hd'; (try dsimp only at N'); (try simp only [rowsK_length, stored_rows] at hd'); (try k_sweep)))
local macro_rules | `(tactic| k_all) => `(tactic| first | assumption | (refine List.forall_mem_append.mpr ⟨?_, ?_⟩ <;> k_all) | (exact tbn_neAll (by first | assumption | tbn_find)) | (exact tbn_neAll (tbn_up (by assumption) (by tbn_find))))
local macro_rules | `(tactic| k_mem) => `(tactic| ((with_reducible show List.Mem _ _); first | (show (_ : Addr × Obj) ∈ (_ : List (Addr × Obj)); ktr_member) | ((with_reducible show List.Mem _ (_ ++ _)); first | (refine' List.mem_append_left _ ?q; (case q => k_mem)) | (refine' List.mem_append_right _ ?q; (case q => k_mem)))))
local macro_rules | `(tactic| k_put) => `(tactic| first | exact putL_nil _ _ _ _ _ | exact putL_one _ _ _ _ _ _ _ _)
local macro_rules | `(tactic| walk_at "eval Name") => `(tactic| (k_here; k_dflt (refine' nameX_L ?F ?v ?_ ?a ?b; (case F => k_asm); (case a => rfl); (case b => rfl); (case v => assumption); k_whole)))
local macro_rules | `(tactic| k_put) => `(tactic| first | exact putL_nil _ _ _ _ _ | exact putL_one _ _ _ _ _ _ _ _ | exact putL_err_pos | exact putL_err_expr)
local macro_rules | `(tactic| walk_at "getAttr ref") => `(tactic| (k_here; k_dflt (refine' exc_getD ?k1 ?k2 ?k3 ?k4 ?k5 ?k6 ?k7 ?k8 ?k9 ?k10 ?k11 ?_; (case k1 => k_asm); (case k2 => k_asm); (case k3 => (refine' InstAt.of_newsF ?N ?h1 ?h2; (case N => k_asm); (case h1 => k_mem); (case h2 => k_mem))); (case k4 => k_is); (case k5 => k_is); (case k6 => k_is); (case k7 => k_is); (case k8 => k_is); (case k9 => k_is); (case k10 => k_get); (case k11 => k_handed); k_whole)))
local macro_rules | `(tactic| walk_at "setAttr ref") => `(tactic| (k_here; k_dflt (refine' exc_set ?k1 ?k2 ?k3 ?k4 ?k5 ?k6 ?k7 ?k8 ?k9 ?k10 ?k11 ?k12 ?k13 ?_; (case k1 => k_asm); (case k2 => k_asm); (case k3 => k_asm); (case k4 => (refine' InstAt.of_newsF ?N ?h1 ?h2; (case N => k_asm); (case h1 => k_mem); (case h2 => k_mem))); (case k5 => exact rfl); (case k6 => k_is); (case k7 => kernel_rfl); (case k8 => k_is); (case k9 => k_is); (case k10 => k_get); (case k11 => k_put); (case k12 => k_upd); (case k13 => exact Nat.le_of_ble_eq_true rfl); k_whole; intro h' F' N'; (try k_sweep))))
local macro_rules | `(tactic| k_slotget) => `(tactic| first | assumption | rfl)
local macro_rules | `(tactic| walk_at "getAttr ref") => `(tactic| (k_here; k_dflt (refine' get_slotW ?k1 ?k2 ?k3 ?k4 ?k5 ?k6 ?k7 ?k8 ?k9 ?k10 ?k11 ?_; (case k1 => k_asm); (case k2 => k_asm); (case k3 => k_asm); (case k4 => k_mem); (case k5 => k_is); (case k6 => k_is); (case k7 => k_is); (case k8 => k_is); (case k9 => k_is); (case k10 => k_slotget); (case k11 => k_handed); k_whole)))
local macro_rules | `(tactic| walk_at "call builtin:len") => `(tactic| (k_here; (with_reducible show wpAny _ _ (call (Value.builtin _) [Value.str _ _]) _ _ _); k_dflt (refine' SC.len_str ?k1 ?_; (case k1 => assumption); k_whole)))
local macro_rules | `(tactic| walk_at "getMethod ref") => `(tactic| (k_here; (with_reducible show wpAny _ _ (getMethod (Value.ref _) (Str.ofString "match_core") _) _ _ _); k_dflt (refine' meth_core ?k1 ?k2 ?k3 ?k4 ?k5 ?_; (case k1 => k_asm); (case k2 => k_asm); (case k4 => k_inst); (case k3 => assumption); (case k5 => assumption); k_whole)))
local macro_rules | `(tactic| walk_at "call ref") => `(tactic| (k_here; (with_reducible show wpAny _ _ (call (Value.ref 266) _) _ _ _); refine Held.out ?_))
local macro_rules | `(tactic| walk_at "exec For Name Attribute cons nil") => `(tactic| (k_here; refine for_F ?_))
local macro_rules | `(tactic| walk_at "truthy ref") => `(tactic| (k_here; k_dflt (refine' truthyL ?k1 ?k2 ?k3 ?k4 ?_; (case k1 => k_asm); (case k2 => k_mem); (case k3 => first | assumption | (simp only [List.size_toArray, List.length_cons, List.length_nil]; decide) | (simp only [Array.size_push, List.size_toArray, List.length_cons, List.length_nil]; omega)); (case k4 => first | assumption | exact ne1 | exact ne0 | exact neP); k_whole); intro tk'))
theorem NodesIn.snoc {I : Led} {T : Str} {v : Value} {t : Tree} : ∀ {vs : List Value} {cs : List Tree}, NodesIn I T vs cs → NodeIn I T v t → NodesIn I T (vs ++ [v]) (cs ++ [t])
  | _, _, .nil, h => .cons h .nil
  | _, _, .cons a r, h => .cons a (NodesIn.snoc r h)
theorem cmp_inf (n : Int) : (Float64.cmpInt (Float64.inf false) n == some Ordering.gt) = true := by
  have : Float64.decode (Float64.inf false) = .inf false := by kernel_rfl
  simp [Float64.cmpInt, this]
theorem lt_max {w : World} {A : Around} {E : Value → Shared → Prop} {s : Shared} {Q : Value → Shared → Prop} {k : Nat} {t : Tok} {v : Value} {most : Option Nat} (h : maxV most v) (hq : Q (.bool (most.all fun m => decide (k < m))) s) : wpAny (model PR w) A (compareOp .Lt (.int (k : Nat) t) v) Q E s := by
  cases most with
  | some m =>
    obtain ⟨u, rfl⟩ := h
    refine lt_int ?_
    simpa [Int.ofNat_lt] using hq
  | none =>
    obtain ⟨u, rfl⟩ := h
    refine lt_if ?_
    rw [cmp_inf]; exact hq
structure LocM (x : Addr) (T : Str) (t1 : Tok) (p : Nat) (t2 : Tok) (ca er l np : Nat) (tn ts : Tok) (m : Str → Option Value) : Prop where
  e1 : m (Str.ofString "self") = some (.ref x)
  e2 : m (Str.ofString "text") = some (.str T t1)
  e3 : m (Str.ofString "pos") = some (.int p t2)
  e4 : m (Str.ofString "cache") = some (.ref ca)
  e5 : m (Str.ofString "error") = some (.ref er)
  e6 : m (Str.ofString "new_pos") = some (.int np tn)
  e7 : m (Str.ofString "children") = some (.ref l)
  e8 : m (Str.ofString "size") = some (.int T.length ts)
/-- the state at the loop's head -/
def MS (w : World) (T : Str) (I Z : Led) (g : Heap) (L' : Addr) (s₀ : Shared) (e : Ex) (x : Addr) (t1 : Tok) (p : Nat) (t2 : Tok) (ca er ed l : Addr) (ol rs : List Addr) (Bd np : Nat) (cs : List Tree) (tt : TT) (err : Err) (s' : Shared) : Prop :=
  ∃ h' tk m' oc' oe' rs' lc' tl vs ep tn ts, s' = { s₀ with heap := h', toks := tk } ∧ Fr g L' h' m' ∧ LocM x T t1 p t2 ca er l np tn ts m' ∧ News g L' h' ((l, listObj vs ep) :: (ca, oc') :: (ed, oe') :: (lc' ++ (tl ++ Z))) ∧ (∀ q ∈ (ca, oc') :: (ed, oe') :: (lc' ++ (tl ++ Z)), q.1 ≠ l) ∧
    Sep ((ca, oc') :: (ed, oe') :: lc') (tl ++ Z) ∧ CacheObj w oc' rs' ∧ ErrObj (tl ++ I) T oe' err ∧ (∀ r ∈ rs', ∃ o : Obj, o.cls = .type "dict" ∧ (r, o) ∈ lc' ++ (tl ++ Z)) ∧ Cells w (tl ++ I) T ol rs' e tt lc' ∧ NewRows Z rs rs' ∧ Fresh tl Z ∧ rs'.length + una e tt ≤ Bd ∧ NodesIn (tl ++ I) T vs cs
def MInv (w : World) (T : Str) (I Z : Led) (g : Heap) (L' : Addr) (s₀ : Shared) (e : Ex) (x : Addr) (t1 : Tok) (p : Nat) (t2 : Tok) (ca er ed l : Addr) (ol rs : List Addr) (Bd least : Nat) (most : Option Nat) (G : Nat × List Tree × TT × Err) (k : Nat) (s' : Shared) : Prop :=
  ∃ np cs tt2 err2, MS w T I Z g L' s₀ e x t1 p t2 ca er ed l ol rs Bd np cs tt2 err2 s' ∧ p ≤ np ∧ np ≤ T.cps.size ∧ cs.length ≤ least + (np - p) ∧ (T.cps.size - np) + (least - cs.length) < k ∧ manyGo (core T.cps.toList e.pe) T.cps.size least most k tt2 np cs err2 = G
def MEnd (w : World) (T : Str) (I Z : Led) (g : Heap) (L' : Addr) (s₀ : Shared) (e : Ex) (x : Addr) (t1 : Tok) (p : Nat) (t2 : Tok) (ca er ed l : Addr) (ol rs : List Addr) (Bd least : Nat) (G : Nat × List Tree × TT × Err) (f : Flow) (s' : Shared) : Prop :=
  f = Flow.next ∧ ∃ np cs tt2 err2, MS w T I Z g L' s₀ e x t1 p t2 ca er ed l ol rs Bd np cs tt2 err2 s' ∧ p ≤ np ∧ np ≤ T.cps.size ∧ cs.length ≤ least + T.cps.size + 1 ∧ (np, cs, tt2, err2) = G
local macro_rules | `(tactic| walk_at "call builtin:len") => `(tactic| (k_here; (with_reducible show wpAny _ _ (call (Value.builtin _) [Value.ref _]) _ _ _); k_dflt (first | (refine' lenL ?k1 ?k2 ?k3 ?k4 ?_; (case k1 => k_asm); (case k2 => k_mem); (case k3 => assumption); (case k4 => omega); k_whole) | (refine' lenP ?k1 ?k2 ?k3 ?k4 ?_; (case k1 => k_asm); (case k2 => k_mem); (case k3 => assumption); (case k4 => omega); k_whole))))
theorem max_handed {v : Value} {most : Option Nat} (h : maxV most v) : handedIn v = true := by
  cases most <;> obtain ⟨u, rfl⟩ := h <;> rfl
local macro_rules | `(tactic| walk_at "loadName") => `(tactic| (k_here; k_dflt (refine' loadX_L ?F ?v ?_ ?a ?b; (case F => k_asm); (case a => rfl); (case b => rfl); (case v => assumption); k_whole)))
local macro_rules | `(tactic| k_handed) => `(tactic| assumption)
local macro_rules | `(tactic| walk_at "last exec While") => `(tactic| (k_here; refine Held.out ?_))
theorem unc_many {w : World} {T : Str} {x dx mem : Addr} {n least : Nat} {most : Option Nat} {e : Ex} (hC : CoreOK w T e) : UncOK w T (.many x dx mem n least most e) := by
  intro dp un gd cn cs a ccd cl outer A₀ base h₀ L m s loose mean mg mb Q E ca er ed oc oe fs ol rs lc I Z tt p err t1 t2 Bd B F X Tp hk hIZ N hSep hSt hKid hOl hp hB hB2 hT hd hun ret
  obtain ⟨hCo, hEo, hEx, heo, lo, hRows⟩ := hSt
  obtain ⟨⟨idt, tn, tl0, v, hx, hmx⟩, hmem, hExe, hleast, hnl⟩ := id hEx
  simp only [Ex.x, Ex.fU]
  simp only [Kids] at hKid
  simp only [Ex.deep] at hd hun
  obtain ⟨hIe, sle, tne, hxe, hsle⟩ := hExe.own
  obtain ⟨es, ks, hde, hge⟩ := Cells.dict hKid
  have hxZ := hIZ _ hx
  have hmemZ := hIZ _ hmem
  have hxeZ := hIZ _ hxe
  generalize hxx : e.x = xe at hxeZ hmemZ
  generalize hdd : e.dx = de at hxeZ hde
  generalize hcc : e.cls = Ce at hxeZ hIe
  have hfT : ¬ (T.length : Int) ≥ 2 ^ 63 := by simp only [Str.length]; omega
  refine wpAny_call ?_
  k_dflt ktr_enter
  k_steps
  unfold Held
  rename Fr _ _ _ (fun _ => _) => F1
  rename News _ _ _ _ => N1
  rename _ ∧ _ ∧ AllLt _ _ => lI
  rename Below _ _ _ _ => B1
  rename Frag.In _ _ => X1
  rename Top _ _ _ _ _ _ => T1
  rename_i g1 L1 h9 FG1 tk9 h8 l1 h7 h6 tk8 h5
  have hsz : T.cps.toList.length = T.cps.size := Array.length_toList
  have hTl : T.length = T.cps.size := rfl
  have hS0 : MS w T I Z g1 L1 s e x t1 p t2 ca er ed l1 ol rs Bd p [] tt.l err { s with heap := h5, toks := tk } :=
    ⟨h5, tk, _, oc, oe, rs, lc, [], [], 0, t2, _, rfl, F1, ⟨by rfl, by rfl, by rfl, by rfl, by rfl, by rfl, by rfl, by rfl⟩, N1, by exact tbn_neAll lI, hSep, hCo, hEo, hRows, hKid, NewRows.refl, Fresh.nil, hB, .nil⟩
  have hgo : manyGo (core T.cps.toList e.pe) T.cps.size least most (T.cps.size + least + 1) tt.l p [] err = manyGo (core T.cps.toList e.pe) T.cps.size least most (T.cps.size + least + 1) tt.l p [] err := rfl
  simp only [unc, Ex.pe, uMany, hsz] at ret
  generalize hG : manyGo (core T.cps.toList e.pe) T.cps.size least most (T.cps.size + least + 1) tt.l p [] err = G at ret
  clear hgo hKid hSep hCo hEo hRows N1 F1 N lI
  clear hde hge
  refine wpAny_mono (Q := MEnd w T I Z g1 L1 s e x t1 p t2 ca er ed l1 ol rs Bd least G) ?_ ?_ (fun _ _ q => q)
  · refine while_F (while_J (MInv w T I Z g1 L1 s e x t1 p t2 ca er ed l1 ol rs Bd least most G) ?_ (T.cps.size + least + 1) ⟨p, [], tt.l, err, hS0, Nat.le_refl _, hp, by simp, by simp; omega, hG⟩)
    rintro k s' ⟨np, cs, tt2, err2, ⟨h2, tk2, m2, oc2, oe2, rs2, lc2, tl2, vs2, ep2, tn2, ts2, rfl, F2, ⟨e1, e2, e3, e4, e5, e6, e7, e8⟩, N2, hl2, hSep2, hCo2, hEo2, hRows2, hK2, hNR2, hF2, hB2', hV2⟩, hp1, hp2, hcs, hk2, hGo⟩
    cases k with
    | zero => omega
    | succ k =>
    unfold manyGo at hGo
    have hvl := NodesIn.len hV2
    obtain ⟨es2, ks2, hde2, hge2⟩ := Cells.dict hK2
    rw [hdd] at hde2
    have hxZ2 : _ ∈ tl2 ++ Z := List.mem_append_right tl2 hxZ
    have hmemZ2 : _ ∈ tl2 ++ Z := List.mem_append_right tl2 hmemZ
    have hxeZ2 : _ ∈ tl2 ++ Z := List.mem_append_right tl2 hxeZ
    by_cases hlt : np < T.cps.size
    · have hlt' : (np : Int) < (T.length : Int) := by rw [hTl]; omega
      have hvh := max_handed hmx
      have hcs0 : cs.length ≤ 100000 := by omega
      k_steps
      refine lt_max hmx ?_
      cases hmo : most.all fun m => decide (cs.length < m) with
      | false =>
        rw [hmo, if_neg (by simp)] at hGo
        k_steps
        exact ⟨rfl, np, cs, tt2, err2, ⟨_, _, m2, oc2, oe2, rs2, lc2, tl2, vs2, ep2, tn2, ts2, rfl, F2, ⟨e1, e2, e3, e4, e5, e6, e7, e8⟩, N2, hl2, hSep2, hCo2, hEo2, hRows2, hK2, hNR2, hF2, hB2', hV2⟩, hp1, hp2, by omega, hGo⟩
      | true =>
        rw [hmo, if_pos (by simp [hlt])] at hGo
        k_steps
        unfold Held
        rename Fr _ _ _ m2 => F3
        rename News _ _ _ _ => N3
        subst hxx
        refine core_call hC [_] [] [] B1 F3 X1 T1 rfl (mem_mono hIZ) N3 (by intro q hq; rw [List.mem_singleton.mp hq]; exact hl2) (by simp) (by simpa using hSep2) hCo2 hEo2 (ExIn.mono Sub.app hExe) (List.mem_append_right _ heo) lo (by simpa using hRows2) hK2
          (NewRows.ol hNR2 hOl fun q hq => List.mem_append_right _ hq) hp2 hB2' hB2 hT ?_ ?_ ?_
        · show dp + 1 + _ + _ < _; omega
        · show un + 3 + _ + _ < _; omega
        · intro v5 h5 tk5 oc5 oe5 rs5 lk5 tl5 F5 N5 hX5 hSep5 hCo5 hEo5 hRows5 hK5 hNR5 hF5 hB5 hRes5
          simp only [List.cons_append, List.nil_append, List.append_nil] at N5 hSep5 hRows5
          have hl5 := hX5 _ (.head _)
          simp only [List.nil_append] at hl5
          have hIZ5 := mem_mono (tl := tl5) (mem_mono (tl := tl2) hIZ)
          have hok5 := Cells.okC hK2 err2 hp2
          generalize core T.cps.toList e.pe tt2 np err2 = V at *
          obtain ⟨V1, V2, V3⟩ := V
          simp only [] at hGo hEo5 hK5 hB5 hRes5
          have hxZ5 : _ ∈ tl5 ++ (tl2 ++ Z) := List.mem_append_right tl5 hxZ2
          have hmemZ5 : _ ∈ tl5 ++ (tl2 ++ Z) := List.mem_append_right tl5 hmemZ2
          have aJ : ∀ K : Led, tl5 ++ (tl2 ++ K) = (tl5 ++ tl2) ++ K := fun K => (List.append_assoc _ _ _).symm
          have hFF : Fresh (tl5 ++ tl2) Z := fun q hq z hz => (List.mem_append.mp hq).elim (fun g => hF5 q g z (List.mem_append_right _ hz)) fun g => hF2 q g z hz
          have hNR := hNR2.trans hNR5 fun q hq => List.mem_append_right _ hq
          have mk : ∀ h' tk' m' vs cs' ep' np' tn', Fr g1 L1 h' m' → LocM x T t1 p t2 ca er l1 np' tn' ts2 m' → News g1 L1 h' ((l1, listObj vs ep') :: (ca, oc5) :: (ed, oe5) :: (lk5 ++ (tl5 ++ (tl2 ++ Z)))) → NodesIn (tl5 ++ (tl2 ++ I)) T vs cs' →
              MS w T I Z g1 L1 s e x t1 p t2 ca er ed l1 ol rs Bd np' cs' V2 V3 { s with heap := h', toks := tk' } := by
            intro h' tk' m' vs cs' ep' np' tn' f lm nn nd
            rw [aJ] at nn hSep5 hEo5 hRows5 hK5 nd hl5
            exact ⟨h', tk', m', oc5, oe5, rs5, lk5, tl5 ++ tl2, vs, ep', tn', ts2, rfl, f, lm, nn, hl5, hSep5, hCo5, hEo5, hRows5, hK5, hNR, hFF, hB5, nd⟩
          clear N3 F3
          cases V1 with
          | none =>
            cases hRes5
            k_steps
            rename Fr g1 L1 _ _ => kF
            rename News g1 L1 _ _ => kN
            dsimp only
            exact ⟨rfl, np, cs, V2, V3, mk _ _ _ _ _ _ _ _ kF ⟨by exact e1, by exact e2, by exact e3, by exact e4, by exact e5, by exact e6, by exact e7, by exact e8⟩ kN (NodesIn.mono Sub.app hV2), hp1, hp2, by omega, hGo⟩
          | some tr =>
            obtain ⟨n6, s6, e6', cs6⟩ := tr
            have hres5 := hRes5
            obtain ⟨ma, md, mcl, mx, mep, mts, mte, mtT, mvs, rfl, m1', m2', m3', m4'⟩ := NodeIn.inv hRes5
            have m1Z := hIZ5 _ m1'
            obtain ⟨r0, r1, r2⟩ := hok5 _ rfl
            simp only [Tree.s, Tree.e] at r0 r1 r2
            have hGo2 : (if (decide (least ≤ cs.length + 1) && (e6' - s6 == 0)) = true then (np, cs ++ [.nd n6 s6 e6' cs6], V2, V3) else manyGo (core T.cps.toList e.pe) T.cps.size least most k V2 (np + (e6' - s6)) (cs ++ [.nd n6 s6 e6' cs6]) V3) = G := hGo
            clear hGo
            have r0' := r0.symm; subst r0'
            have ez : ∀ y z : Nat, y ≤ z → ((y : Int) + ((z : Int) - y)) = ((y + (z - y) : Nat) : Int) := by intros; omega
            have el : ∀ u k, W.listOf (vs2.toArray.push u) k = listObj (vs2 ++ [u]) k := fun u k => by simp [W.listOf, listObj]
            have hV5 := NodesIn.snoc (NodesIn.mono (Sub.app (tl := tl5)) hV2) hres5
            k_steps
            · rename Fr g1 L1 _ _ => kF
              rename News g1 L1 _ _ => kN
              dsimp only
              rw [el] at kN
              refine ⟨rfl, np, cs ++ [_], V2, V3, mk _ _ _ _ _ _ _ _ kF ⟨by exact e1, by exact e2, by exact e3, by exact e4, by exact e5, by exact e6, by exact e7, by exact e8⟩ kN hV5, hp1, hp2, by simp; omega, ?_⟩
              rw [← hGo2, if_pos]
              simp; omega
            all_goals (
              rename Fr g1 L1 _ _ => kF
              rename News g1 L1 _ _ => kN
              dsimp only
              rw [ez _ _ r1] at kF
              rw [el] at kN
              rw [if_neg (by simp; omega)] at hGo2
              refine ⟨k, Nat.lt_succ_self _, np + (e6' - np), cs ++ [_], V2, V3, mk _ _ _ _ _ _ _ _ kF ⟨by exact e1, by exact e2, by exact e3, by exact e4, by exact e5, by rfl, by exact e7, by exact e8⟩ kN hV5, ?_, ?_, ?_, ?_, hGo2⟩
              · omega
              · omega
              · simp; omega
              · simp; omega)
    · have hlt' : ¬ (np : Int) < (T.length : Int) := by rw [hTl]; omega
      k_steps
      rw [if_neg (by simp [hlt])] at hGo
      exact ⟨rfl, np, cs, tt2, err2, ⟨h2, tk2, m2, oc2, oe2, rs2, lc2, tl2, vs2, ep2, tn2, ts2, rfl, F2, ⟨e1, e2, e3, e4, e5, e6, e7, e8⟩, N2, hl2, hSep2, hCo2, hEo2, hRows2, hK2, hNR2, hF2, hB2', hV2⟩, hp1, hp2, by omega, hGo⟩
  · rintro f s' ⟨rfl, np, cs, tt2, err2, ⟨h2, tk2, m2, oc2, oe2, rs2, lc2, tl2, vs2, ep2, tn2, ts2, rfl, F2, ⟨e1, e2, e3, e4, e5, e6, e7, e8⟩, N2, hl2, hSep2, hCo2, hEo2, hRows2, hK2, hNR2, hF2, hB2', hV2⟩, hp1, hp2, hcs, hG2⟩
    dsimp only
    subst hG2
    clear hG hS0
    have hvl := NodesIn.len hV2
    have hxZ2 : _ ∈ tl2 ++ Z := List.mem_append_right tl2 hxZ
    simp only [] at ret
    have hcs0 : cs.length ≤ 100000 := by omega
    by_cases hle : least ≤ cs.length
    · rw [if_pos hle] at ret
      have hle' : ((cs.length : Nat) : Int) ≥ ((least : Nat) : Int) := by omega
      cases hvs : vs2 with
      | nil =>
        subst hvs
        have : cs = [] := List.length_eq_zero_iff.mp hvl.symm
        subst this
        k_steps
        rename Fr h₀ L _ m => kF
        rename News h₀ L _ _ => kN
        refine unc_endG (e := .many x dx mem n least most e) (vs := []) (cs := []) (oc := oc2) (oe := oe2) (rs' := rs2) (lc := lc2) (tl := tl2) (ep := 0) ret kF kN (by k_mem) (by exact .head _) ?_ ?_ ?_ hSep2 hCo2 hEo2 hEx heo lo hRows2 ?_ hNR2 hF2 ?_ .nil
        · intro q hq; exact .tail _ (.tail _ (.tail _ (.tail _ hq)))
        · rename _ ∧ _ ∧ _ ∧ AllLt _ _ => kd
          exact tbn_neAll (tbn_up (by assumption) kd.2)
        · rename _ ∧ _ ∧ _ ∧ _ ∧ _ ∧ AllLt _ _ => kl
          exact tbn_neAll kl.2.2.2
        · exact fun J S => Cells.mono S hK2
        · exact hB2'
      | cons v0 vs0 =>
        subst hvs
        have hsz3 : ((v0 :: vs0).toArray).size < 2 ^ 62 := by rw [List.size_toArray]; omega
        k_steps
        rename Fr h₀ L _ m => kF
        rename News h₀ L _ _ => kN
        refine unc_endG (e := .many x dx mem n least most e) (vs := v0 :: vs0) (cs := cs) (oc := oc2) (oe := oe2) (rs' := rs2) (lc := lc2) (tl := tl2) ret kF kN (by k_mem) (by k_mem) ?_ ?_ hl2 hSep2 hCo2 hEo2 hEx heo lo hRows2 ?_ hNR2 hF2 ?_ hV2
        · intro q hq; exact .tail _ (.tail _ (.tail _ hq))
        · rename _ ∧ _ ∧ _ ∧ AllLt _ _ => kd
          exact tbn_neAll (tbn_up (by assumption) kd.2)
        · exact fun J S => Cells.mono S hK2
        · exact hB2'
    · rw [if_neg hle] at ret
      have hle' : ¬ ((cs.length : Nat) : Int) ≥ ((least : Nat) : Int) := by omega
      k_steps
      rename Fr h₀ L _ m => kF
      rename News h₀ L _ _ => kN
      refine unc_endN (e := .many x dx mem n least most e) (oc := oc2) (oe := oe2) (rs' := rs2) (lc := lc2) (tl := tl2) ret kF kN ?_ hSep2 hCo2 hEo2 hEx heo lo hRows2 ?_ hNR2 hF2 ?_
      · intro q hq; exact .tail _ hq
      · exact fun J S => Cells.mono S hK2
      · exact hB2'
end Mine
namespace Mine
theorem core_all {w : World} {T : Str} : ∀ e : Ex, CoreOK w T e
  | .word .. => core_ok unc_word
  | .look _ _ _ _ _ e => core_ok (unc_look (core_all e))
  | .many _ _ _ _ _ _ e => core_ok (unc_many (core_all e))
  | .choice _ _ _ _ a b => core_ok (unc_choice (core_all a) (core_all b))
  | .chain _ _ _ _ a b => core_ok (unc_chain (core_all a) (core_all b))
end Mine
namespace Mine
local macro_rules | `(tactic| walk_at "zz") => `(tactic| fail)
local macro_rules | `(tactic| walk_at "zz") => `(tactic| fail)
local macro_rules | `(tactic| walk_at "zz") => `(tactic| fail)
local macro_rules | `(tactic| walk_at "zz") => `(tactic| fail)
local macro_rules | `(tactic| walk_at "zz") => `(tactic| fail)
local macro_rules | `(tactic| walk_at "zz") => `(tactic| fail)
local macro_rules | `(tactic| walk_at "zz") => `(tactic| fail)
local macro_rules | `(tactic| walk_at "zz") => `(tactic| fail)
local macro_rules | `(tactic| walk_at "zz") => `(tactic| fail)
local macro_rules | `(tactic| walk_at "zz") => `(tactic| fail)
local macro_rules | `(tactic| walk_at "zz") => `(tactic| fail)
local macro_rules | `(tactic| walk_at "zz") => `(tactic| fail)
local macro_rules | `(tactic| walk_at "zz") => `(tactic| fail)
local macro_rules | `(tactic| walk_at "zz") => `(tactic| fail)
local macro_rules | `(tactic| walk_at "zz") => `(tactic| fail)
local macro_rules | `(tactic| walk_at "zz") => `(tactic| fail)
local macro_rules | `(tactic| walk_at "zz") => `(tactic| fail)
local macro_rules | `(tactic| walk_at "zz") => `(tactic| fail)
local macro_rules | `(tactic| walk_at "zz") => `(tactic| fail)
theorem rs_A_nx : True := by w_top off; trivial
local macro_rules | `(tactic| k_all) => `(tactic| assumption)
local macro_rules | `(tactic| k_ne) => `(tactic| first | assumption | exact Ne.symm (by assumption) | exact Nat.ne_of_lt (by assumption) | exact Nat.ne_of_gt (by assumption))
local macro_rules | `(tactic| k_room) => `(tactic| ktr_room)
local macro_rules | `(tactic| walk_at "call builtin:getattr") => `(tactic| (k_here; (with_reducible show wpAny _ _ (call (Value.builtin _) [_, Value.str _ _, _]) _ _ _); k_dflt (first
  | (refine' ga3_own ?k1 ?k2 ?k3 ?k4 ?k5 ?k6 ?k7 ?k8 ?k9 ?k10 ?k11 ?_; (case k1 => k_asm); (case k2 => k_asm); (case k3 => k_inst); (case k4 => k_is); (case k5 => k_is); (case k6 => k_is); (case k7 => k_is); (case k8 => k_get); (case k9 => k_handed); (case k10 => decide +kernel); (case k11 => k_is); k_whole)
  | (refine' ga3_miss ?k1 ?k2 ?k3 ?k4 ?k5 ?k6 ?k7 ?k8 ?k9 ?k10 ?k11 ?k12 ?k13 ?_; (case k1 => k_asm); (case k2 => k_asm); (case k3 => k_asm); (case k4 => k_inst); (case k5 => k_is); (case k6 => k_is); (case k7 => k_is); (case k8 => decide +kernel); (case k9 => k_get); (case k10 => decide +kernel); (case k11 => k_is); (case k12 => exact rfl); (case k13 => (first | (refine' MsgOk.of ?q1 ?q2 ?q3; (case q1 => k_is); (case q2 => decide +kernel); (case q3 => decide +kernel)) | (rename IsEx _ => h5; rcases h5 with e5 | e5 | e5 | e5 | e5 <;> subst e5 <;> (refine' MsgOk.of ?q1 ?q2 ?q3; (case q1 => k_is); (case q2 => decide +kernel); (case q3 => decide +kernel))))); k_whole; intro h' tk' F' N'; (try k_sweep)))))
local macro_rules | `(tactic| k_upd) => `(tactic| first | (refine' Off.head ?a; (case a => k_all)) | (refine' Off.tail ?a ?b; (case a => k_ne); (case b => k_upd)))
local macro_rules | `(tactic| walk_at "pyIter ref") => `(tactic| (k_here; (with_reducible show wpAny _ _ (pyIter (Value.ref _)) (fun it s₂ => codeAny _ _ (Code.forLoop _ it _ _ _) _ s₂) _ _); k_dflt (refine' tup_iter ?k1 ?k2 ?k3 ?_; (case k1 => k_asm); (case k2 => k_asm); (case k3 => exact News.isTup (by k_asm) (by k_mem)); k_whole); intro I' h' o' F' N' x' l1 l2; (try k_lt l1); (try k_lt2 l2); (try k_sweep)))
local macro_rules | `(tactic| walk_at "codeAny forLoop") => `(tactic| (k_here; (with_reducible show codeAny _ _ (Code.forLoop _ (Value.ref _) _ _ _) (okR _) _); k_dflt (first
  | (refine' tup_last ?k1 ?k2 ?k3 ?k4 ?k5 ?k6 ?k7 ?_; (case k1 => k_asm); (case k4 => assumption); (case k2 => k_asm); (case k3 => k_upd); (case k5 => exact News.isTup (by k_asm) (by k_mem)); (case k6 => exact rfl); (case k7 => exact rfl); k_whole; intro h' F' N'; (try k_sweep))
  | (refine' tup_turn ?k1 ?k2 ?k3 ?k4 ?k5 ?k6 ?k7 ?_; (case k1 => k_asm); (case k4 => assumption); (case k2 => k_asm); (case k3 => k_updF); (case k5 => exact News.isTup (by k_asm) (by k_mem)); (case k6 => first | exact get2_0 | exact get2_1 | exact rfl); (case k7 => k_ne); k_whole; intro h' o' F' N' x' T'; (try k_sweep)))))
local macro_rules | `(tactic| walk_at "call builtin:len") => `(tactic| (k_here; (with_reducible show wpAny _ _ (call (Value.builtin _) [Value.ref _]) _ _ _); k_dflt (refine' d_len (knd := intKind _ _) ?k1 ?k2 ?k3 ?k4 ?k5 ?k6 ?_; (case k1 => k_asm); (case k2 => k_mem); (case k3 => assumption); (case k4 => assumption); (case k5 => first | exact rowsK_length _ | rfl); (case k6 => (first | omega | (simp only [List.length_append, List.length_cons, List.length_nil]; omega))); k_whole; intro tk')))
local macro_rules | `(tactic| walk_at "getMethod ref") => `(tactic| (k_here; (with_reducible show wpAny _ _ (getMethod (Value.ref _) (Str.ofString "get") _) _ _ _); k_dflt (refine' d_meth (knd := intKind _ _) ?k1 ?k2 ?k3 PySem.F.slot_dict_get PySem.F.type_dict_get ?_; (case k1 => k_asm); (case k2 => k_mem); (case k3 => assumption); k_whole)))
local macro_rules | `(tactic| walk_at "call builtin:dict.get") => `(tactic| (k_here; (with_reducible show wpAny _ _ (call (Value.builtin _) [Value.ref _, Value.int _ _]) _ _ _); k_dflt (refine' d_get (knd := intKind _ _) ?k1 ?k2 ?k3 ?k4 (intKind_is _ _ _ _) ?_; (case k1 => k_asm); (case k2 => k_mem); (case k3 => assumption); (case k4 => assumption); k_whole)))
local macro_rules | `(tactic| walk_at "compareOp In int ref") => `(tactic| (k_here; k_dflt (refine' d_in (knd := intKind _ _) ?k1 ?k2 ?k3 ?k4 (intKind_is _ _ _ _) ?_; (case k1 => k_asm); (case k2 => k_mem); (case k3 => assumption); (case k4 => assumption); k_whole)))
local macro_rules | `(tactic| walk_at "subscriptTail") => `(tactic| (k_here; (with_reducible show wpAny _ _ (subscriptTail _ _ (Value.ref _) (Value.int _ _)) _ _ _); k_dflt (refine' d_item (knd := intKind _ _) ?k1 ?k2 ?k3 (intKind_is _ _ _ _) ?k5 ?_; (case k1 => k_asm); (case k2 => k_mem); (case k3 => assumption); (case k5 => assumption); k_whole)))
local macro_rules | `(tactic| walk_at "setItem ref int") => `(tactic| (k_here; k_dflt (refine' d_set (knd := intKind _ _) ?k1 ?k2 ?k3 ?k4 (intKind_is _ _ _ _) ?k6 ?_; (case k1 => k_asm); (case k2 => k_asm); (case k3 => k_updF); (case k4 => assumption); (case k6 => (rw [sizeLine_eq]; (first | omega | (simp only [rowsK_length, rowK_length, List.length_map, List.length_append, List.length_cons, List.length_nil]; omega)))); k_whole); intro h' o' F' N' hd'; (try dsimp only at N'); (try simp only [rowsK_length, stored_rows] at hd'); (try k_sweep)))
local macro_rules | `(tactic| k_all) => `(tactic| first | assumption | (refine List.forall_mem_append.mpr ⟨?_, ?_⟩ <;> k_all) | (exact tbn_neAll (by first | assumption | tbn_find)) | (exact tbn_neAll (tbn_up (by assumption) (by tbn_find))))
local macro_rules | `(tactic| k_mem) => `(tactic| ((with_reducible show List.Mem _ _); first | (show (_ : Addr × Obj) ∈ (_ : List (Addr × Obj)); ktr_member) | ((with_reducible show List.Mem _ (_ ++ _)); first | (refine' List.mem_append_left _ ?q; (case q => k_mem)) | (refine' List.mem_append_right _ ?q; (case q => k_mem)))))
local macro_rules | `(tactic| k_put) => `(tactic| first | exact putL_nil _ _ _ _ _ | exact putL_one _ _ _ _ _ _ _ _)
local macro_rules | `(tactic| walk_at "eval Name") => `(tactic| (k_here; k_dflt (refine' nameX_L ?F ?v ?_ ?a ?b; (case F => k_asm); (case a => rfl); (case b => rfl); (case v => assumption); k_whole)))
local macro_rules | `(tactic| k_put) => `(tactic| first | exact putL_nil _ _ _ _ _ | exact putL_one _ _ _ _ _ _ _ _ | exact putL_err_pos | exact putL_err_expr)
local macro_rules | `(tactic| walk_at "getAttr ref") => `(tactic| (k_here; k_dflt (refine' exc_getD ?k1 ?k2 ?k3 ?k4 ?k5 ?k6 ?k7 ?k8 ?k9 ?k10 ?k11 ?_; (case k1 => k_asm); (case k2 => k_asm); (case k3 => (refine' InstAt.of_newsF ?N ?h1 ?h2; (case N => k_asm); (case h1 => k_mem); (case h2 => k_mem))); (case k4 => k_is); (case k5 => k_is); (case k6 => k_is); (case k7 => k_is); (case k8 => k_is); (case k9 => k_is); (case k10 => k_get); (case k11 => k_handed); k_whole)))
local macro_rules | `(tactic| walk_at "setAttr ref") => `(tactic| (k_here; k_dflt (refine' exc_set ?k1 ?k2 ?k3 ?k4 ?k5 ?k6 ?k7 ?k8 ?k9 ?k10 ?k11 ?k12 ?k13 ?_; (case k1 => k_asm); (case k2 => k_asm); (case k3 => k_asm); (case k4 => (refine' InstAt.of_newsF ?N ?h1 ?h2; (case N => k_asm); (case h1 => k_mem); (case h2 => k_mem))); (case k5 => exact rfl); (case k6 => k_is); (case k7 => kernel_rfl); (case k8 => k_is); (case k9 => k_is); (case k10 => k_get); (case k11 => k_put); (case k12 => k_upd); (case k13 => exact Nat.le_of_ble_eq_true rfl); k_whole; intro h' F' N'; (try k_sweep))))
local macro_rules | `(tactic| k_slotget) => `(tactic| first | assumption | rfl)
local macro_rules | `(tactic| walk_at "getAttr ref") => `(tactic| (k_here; k_dflt (refine' get_slotW ?k1 ?k2 ?k3 ?k4 ?k5 ?k6 ?k7 ?k8 ?k9 ?k10 ?k11 ?_; (case k1 => k_asm); (case k2 => k_asm); (case k3 => k_asm); (case k4 => k_mem); (case k5 => k_is); (case k6 => k_is); (case k7 => k_is); (case k8 => k_is); (case k9 => k_is); (case k10 => k_slotget); (case k11 => k_handed); k_whole)))
local macro_rules | `(tactic| walk_at "call builtin:len") => `(tactic| (k_here; (with_reducible show wpAny _ _ (call (Value.builtin _) [Value.str _ _]) _ _ _); k_dflt (refine' SC.len_str ?k1 ?_; (case k1 => assumption); k_whole)))
local macro_rules | `(tactic| walk_at "getMethod ref") => `(tactic| (k_here; (with_reducible show wpAny _ _ (getMethod (Value.ref _) (Str.ofString "match_core") _) _ _ _); k_dflt (refine' meth_core ?k1 ?k2 ?k3 ?k4 ?k5 ?_; (case k1 => k_asm); (case k2 => k_asm); (case k4 => k_inst); (case k3 => assumption); (case k5 => assumption); k_whole)))
local macro_rules | `(tactic| walk_at "call ref") => `(tactic| (k_here; (with_reducible show wpAny _ _ (call (Value.ref 266) _) _ _ _); refine Held.out ?_))
local macro_rules | `(tactic| walk_at "exec For Name Attribute cons nil") => `(tactic| (k_here; refine for_F ?_))
local macro_rules | `(tactic| walk_at "truthy ref") => `(tactic| (k_here; k_dflt (refine' truthyL ?k1 ?k2 ?k3 ?k4 ?_; (case k1 => k_asm); (case k2 => k_mem); (case k3 => first | assumption | (simp only [List.size_toArray, List.length_cons, List.length_nil]; decide) | (simp only [Array.size_push, List.size_toArray, List.length_cons, List.length_nil]; omega)); (case k4 => first | assumption | exact ne1 | exact ne0 | exact neP); k_whole); intro tk'))
local macro_rules | `(tactic| walk_at "call builtin:len") => `(tactic| (k_here; (with_reducible show wpAny _ _ (call (Value.builtin _) [Value.ref _]) _ _ _); k_dflt (first | (refine' lenL ?k1 ?k2 ?k3 ?k4 ?_; (case k1 => k_asm); (case k2 => k_mem); (case k3 => assumption); (case k4 => omega); k_whole) | (refine' lenP ?k1 ?k2 ?k3 ?k4 ?_; (case k1 => k_asm); (case k2 => k_mem); (case k3 => assumption); (case k4 => omega); k_whole))))
abbrev stObj (scr used names : Nat) (t1 t2 : Tok) (ep : Nat) : Obj := { cls := .type "list", data := .seq #[.ref scr, .int (used : Nat) t1, .int (names : Nat) t2] ep }
theorem next_ok {w : World} {dp un : Nat} {gd : Option (List Code)} {cn : Str} {cs : Scope} {a : Addr} {ccd : Value} {cl : List (Str × Addr)} {outer : List Env} {A₀ : Around} {base h₀ : Heap} {L : Addr} {m : Str → Option Value} {s : Shared}
    {loose : List Str} {mean : ExcName → Option Value} {mg mb : Str → Option Value} {Q E : Value → Shared → Prop}
    {st scr : Addr} {vs : List Value} {ns : List Int} {used names : Nat} {t1 t2 tk : Tok} {ep ek : Nat} {lim : Int} {Z : Led}
    (B : Below A₀ base outer h₀) (F : Fr h₀ L s.heap m) (X : (hd.heap_39 w.params).In h₀)
    (T : Top topProg loose mean mg mb h₀) (hk : cs.kind = .function)
    (N : News h₀ L s.heap ((st, stObj scr used names t1 t2 ep) :: Z)) (hscr : (scr, listObj vs ek) ∈ Z)
    (hI : IntsAre vs ns) (hlen : ns.length ≤ 60) (hu : used ≤ 1000) (hoff : ∀ p ∈ Z, p.1 ≠ st) (hlim : 0 < lim) (hlim2 : lim < 1000)
    (hd : dp + 1 < recursionLimit) (hun : un + 8 < cLine)
    (ret : ∀ h' tk' t1' tr, Fr h₀ L h' m → News h₀ L h' ((st, stObj scr (used + 1) names t1' t2 ep) :: Z) → Q (.int (drawn ns used lim) tr) { s with heap := h', toks := tk' }) :
    wpAny (model PR w) (ktrTop dp un gd cn cs L a ccd cl outer) (call (.ref 508) [.ref st, .int lim tk]) Q E s := by
  have hne : scr ≠ st := hoff _ hscr
  have hvl := hI.length
  have hn100 : ns.length ≤ 100000 := by omega
  by_cases hlt : used < ns.length
  all_goals (
  refine wpAny_call ?_
  k_dflt ktr_enter
  k_steps)
  all_goals (
    rename Fr h₀ L _ m => kF
    rename News h₀ L _ _ => kN
    have e : ((used : Int) + 1) = ((used + 1 : Nat) : Int) := rfl
    rw [e] at kN)
  · have ed : (ns.getD ((used : Int) + 1 - 1).toNat 0).fmod lim = drawn ns used lim := by
      have : ((used : Int) + 1 - 1).toNat = used := by omega
      rw [this, drawn, dif_pos hlt, List.getD_eq_getElem?_getD, List.getElem?_eq_getElem hlt]; rfl
    rw [ed]
    exact ret _ _ _ _ kF kN
  · have ed : drawn ns used lim = 0 := by rw [drawn, dif_neg hlt]
    rw [← ed]
    exact ret _ _ _ _ kF kN
theorem next_okU {w : World} {dp un : Nat} {gd : Option (List Code)} {cn : Str} {cs : Scope} {a : Addr} {ccd : Value} {cl : List (Str × Addr)} {outer : List Env} {A₀ : Around} {base h₀ : Heap} {L : Addr} {m : Str → Option Value} {s : Shared}
    {loose : List Str} {mean : ExcName → Option Value} {mg mb : Str → Option Value} {Q E : Value → Shared → Prop}
    {st scr : Addr} {vs : List Value} {ns : List Int} {used names : Nat} {t1 t2 tk : Tok} {ep ek : Nat} {lim : Int} {news : Led} {g : Obj → Led}
    (B : Below A₀ base outer h₀) (F : Fr h₀ L s.heap m) (X : (hd.heap_39 w.params).In h₀)
    (T : Top topProg loose mean mg mb h₀) (hk : cs.kind = .function)
    (N : News h₀ L s.heap news) (U : UpdF st (stObj scr used names t1 t2 ep) news g) (hscr : (scr, listObj vs ek) ∈ news) (hne : scr ≠ st)
    (hI : IntsAre vs ns) (hlen : ns.length ≤ 60) (hu : used ≤ 1000) (hlim : 0 < lim) (hlim2 : lim < 1000)
    (hd : dp + 1 < recursionLimit) (hun : un + 8 < cLine)
    (ret : ∀ h' tk' t1' tr, Fr h₀ L h' m → News h₀ L h' (g (stObj scr (used + 1) names t1' t2 ep)) → Q (.int (drawn ns used lim) tr) { s with heap := h', toks := tk' }) :
    wpAny (model PR w) (ktrTop dp un gd cn cs L a ccd cl outer) (call (.ref 508) [.ref st, .int lim tk]) Q E s := by
  obtain ⟨pre, post, rfl, hg, h1, h2⟩ := U.split
  refine next_ok (st := st) (scr := scr) (vs := vs) (names := names) (t1 := t1) (t2 := t2) (ep := ep) (ek := ek) (Z := pre ++ post) B F X T hk (fun q hq => N q ?_) ?_ hI hlen hu ?_ hlim hlim2 hd hun fun h' tk' t1' tr F' N' => ret h' tk' t1' tr F' ?_
  · simp only [List.mem_cons, List.mem_append] at hq ⊢
    rcases hq with h | h | h <;> simp only [h, true_or, or_true]
  · simp only [List.mem_cons, List.mem_append, Prod.mk.injEq] at hscr ⊢
    rcases hscr with h | h | h
    · exact .inl h
    · exact absurd h.1 hne
    · exact .inr h
  · intro p hp
    rcases List.mem_append.mp hp with h | h
    · exact h1 p h
    · exact h2 p h
  · rw [hg]
    intro q hq
    refine N' q ?_
    simp only [List.mem_cons, List.mem_append] at hq ⊢
    rcases hq with h | h | h <;> simp only [h, true_or, or_true]
end Mine
namespace Mine
local macro_rules | `(tactic| walk_at "zz") => `(tactic| fail)
local macro_rules | `(tactic| walk_at "zz") => `(tactic| fail)
local macro_rules | `(tactic| walk_at "zz") => `(tactic| fail)
local macro_rules | `(tactic| walk_at "zz") => `(tactic| fail)
local macro_rules | `(tactic| walk_at "zz") => `(tactic| fail)
local macro_rules | `(tactic| walk_at "zz") => `(tactic| fail)
local macro_rules | `(tactic| walk_at "zz") => `(tactic| fail)
local macro_rules | `(tactic| walk_at "zz") => `(tactic| fail)
local macro_rules | `(tactic| walk_at "zz") => `(tactic| fail)
local macro_rules | `(tactic| walk_at "zz") => `(tactic| fail)
local macro_rules | `(tactic| walk_at "zz") => `(tactic| fail)
local macro_rules | `(tactic| walk_at "zz") => `(tactic| fail)
local macro_rules | `(tactic| walk_at "zz") => `(tactic| fail)
local macro_rules | `(tactic| walk_at "zz") => `(tactic| fail)
local macro_rules | `(tactic| walk_at "zz") => `(tactic| fail)
local macro_rules | `(tactic| walk_at "zz") => `(tactic| fail)
local macro_rules | `(tactic| walk_at "zz") => `(tactic| fail)
local macro_rules | `(tactic| walk_at "zz") => `(tactic| fail)
local macro_rules | `(tactic| walk_at "zz") => `(tactic| fail)
local macro_rules | `(tactic| walk_at "zz") => `(tactic| fail)
local macro_rules | `(tactic| walk_at "zz") => `(tactic| fail)
theorem rs_A_mk : True := by w_top off; trivial
local macro_rules | `(tactic| k_all) => `(tactic| assumption)
local macro_rules | `(tactic| k_ne) => `(tactic| first | assumption | exact Ne.symm (by assumption) | exact Nat.ne_of_lt (by assumption) | exact Nat.ne_of_gt (by assumption))
local macro_rules | `(tactic| k_room) => `(tactic| ktr_room)
local macro_rules | `(tactic| walk_at "call builtin:getattr") => `(tactic| (k_here; (with_reducible show wpAny _ _ (call (Value.builtin _) [_, Value.str _ _, _]) _ _ _); k_dflt (first
  | (refine' ga3_own ?k1 ?k2 ?k3 ?k4 ?k5 ?k6 ?k7 ?k8 ?k9 ?k10 ?k11 ?_; (case k1 => k_asm); (case k2 => k_asm); (case k3 => k_inst); (case k4 => k_is); (case k5 => k_is); (case k6 => k_is); (case k7 => k_is); (case k8 => k_get); (case k9 => k_handed); (case k10 => decide +kernel); (case k11 => k_is); k_whole)
  | (refine' ga3_miss ?k1 ?k2 ?k3 ?k4 ?k5 ?k6 ?k7 ?k8 ?k9 ?k10 ?k11 ?k12 ?k13 ?_; (case k1 => k_asm); (case k2 => k_asm); (case k3 => k_asm); (case k4 => k_inst); (case k5 => k_is); (case k6 => k_is); (case k7 => k_is); (case k8 => decide +kernel); (case k9 => k_get); (case k10 => decide +kernel); (case k11 => k_is); (case k12 => exact rfl); (case k13 => (first | (refine' MsgOk.of ?q1 ?q2 ?q3; (case q1 => k_is); (case q2 => decide +kernel); (case q3 => decide +kernel)) | (rename IsEx _ => h5; rcases h5 with e5 | e5 | e5 | e5 | e5 <;> subst e5 <;> (refine' MsgOk.of ?q1 ?q2 ?q3; (case q1 => k_is); (case q2 => decide +kernel); (case q3 => decide +kernel))))); k_whole; intro h' tk' F' N'; (try k_sweep)))))
local macro_rules | `(tactic| k_upd) => `(tactic| first | (refine' Off.head ?a; (case a => k_all)) | (refine' Off.tail ?a ?b; (case a => k_ne); (case b => k_upd)))
local macro_rules | `(tactic| walk_at "pyIter ref") => `(tactic| (k_here; (with_reducible show wpAny _ _ (pyIter (Value.ref _)) (fun it s₂ => codeAny _ _ (Code.forLoop _ it _ _ _) _ s₂) _ _); k_dflt (refine' tup_iter ?k1 ?k2 ?k3 ?_; (case k1 => k_asm); (case k2 => k_asm); (case k3 => exact News.isTup (by k_asm) (by k_mem)); k_whole); intro I' h' o' F' N' x' l1 l2; (try k_lt l1); (try k_lt2 l2); (try k_sweep)))
local macro_rules | `(tactic| walk_at "codeAny forLoop") => `(tactic| (k_here; (with_reducible show codeAny _ _ (Code.forLoop _ (Value.ref _) _ _ _) (okR _) _); k_dflt (first
  | (refine' tup_last ?k1 ?k2 ?k3 ?k4 ?k5 ?k6 ?k7 ?_; (case k1 => k_asm); (case k4 => assumption); (case k2 => k_asm); (case k3 => k_upd); (case k5 => exact News.isTup (by k_asm) (by k_mem)); (case k6 => exact rfl); (case k7 => exact rfl); k_whole; intro h' F' N'; (try k_sweep))
  | (refine' tup_turn ?k1 ?k2 ?k3 ?k4 ?k5 ?k6 ?k7 ?_; (case k1 => k_asm); (case k4 => assumption); (case k2 => k_asm); (case k3 => k_updF); (case k5 => exact News.isTup (by k_asm) (by k_mem)); (case k6 => first | exact get2_0 | exact get2_1 | exact rfl); (case k7 => k_ne); k_whole; intro h' o' F' N' x' T'; (try k_sweep)))))
local macro_rules | `(tactic| walk_at "call builtin:len") => `(tactic| (k_here; (with_reducible show wpAny _ _ (call (Value.builtin _) [Value.ref _]) _ _ _); k_dflt (refine' d_len (knd := intKind _ _) ?k1 ?k2 ?k3 ?k4 ?k5 ?k6 ?_; (case k1 => k_asm); (case k2 => k_mem); (case k3 => assumption); (case k4 => assumption); (case k5 => first | exact rowsK_length _ | rfl); (case k6 => (first | omega | (simp only [List.length_append, List.length_cons, List.length_nil]; omega))); k_whole; intro tk')))
local macro_rules | `(tactic| walk_at "getMethod ref") => `(tactic| (k_here; (with_reducible show wpAny _ _ (getMethod (Value.ref _) (Str.ofString "get") _) _ _ _); k_dflt (refine' d_meth (knd := intKind _ _) ?k1 ?k2 ?k3 PySem.F.slot_dict_get PySem.F.type_dict_get ?_; (case k1 => k_asm); (case k2 => k_mem); (case k3 => assumption); k_whole)))
local macro_rules | `(tactic| walk_at "call builtin:dict.get") => `(tactic| (k_here; (with_reducible show wpAny _ _ (call (Value.builtin _) [Value.ref _, Value.int _ _]) _ _ _); k_dflt (refine' d_get (knd := intKind _ _) ?k1 ?k2 ?k3 ?k4 (intKind_is _ _ _ _) ?_; (case k1 => k_asm); (case k2 => k_mem); (case k3 => assumption); (case k4 => assumption); k_whole)))
local macro_rules | `(tactic| walk_at "compareOp In int ref") => `(tactic| (k_here; k_dflt (refine' d_in (knd := intKind _ _) ?k1 ?k2 ?k3 ?k4 (intKind_is _ _ _ _) ?_; (case k1 => k_asm); (case k2 => k_mem); (case k3 => assumption); (case k4 => assumption); k_whole)))
local macro_rules | `(tactic| walk_at "subscriptTail") => `(tactic| (k_here; (with_reducible show wpAny _ _ (subscriptTail _ _ (Value.ref _) (Value.int _ _)) _ _ _); k_dflt (refine' d_item (knd := intKind _ _) ?k1 ?k2 ?k3 (intKind_is _ _ _ _) ?k5 ?_; (case k1 => k_asm); (case k2 => k_mem); (case k3 => assumption); (case k5 => assumption); k_whole)))
local macro_rules | `(tactic| walk_at "setItem ref int") => `(tactic| (k_here; k_dflt (refine' d_set (knd := intKind _ _) ?k1 ?k2 ?k3 ?k4 (intKind_is _ _ _ _) ?k6 ?_; (case k1 => k_asm); (case k2 => k_asm); (case k3 => k_updF); (case k4 => assumption); (case k6 => (rw [sizeLine_eq]; (first | omega | (simp only [rowsK_length, rowK_length, List.length_map, List.length_append, List.length_cons, List.length_nil]; omega)))); k_whole); intro h' o' F' N' hd'; (try dsimp only at N'); (try simp only [rowsK_length, stored_rows] at hd'); (try k_sweep)))
local macro_rules | `(tactic| k_all) => `(tactic| first | assumption | (refine List.forall_mem_append.mpr ⟨?_, ?_⟩ <;> k_all) | (exact tbn_neAll (by first | assumption | tbn_find)) | (exact tbn_neAll (tbn_up (by assumption) (by tbn_find))))
local macro_rules | `(tactic| k_mem) => `(tactic| ((with_reducible show List.Mem _ _); first | (show (_ : Addr × Obj) ∈ (_ : List (Addr × Obj)); ktr_member) | ((with_reducible show List.Mem _ (_ ++ _)); first | (refine' List.mem_append_left _ ?q; (case q => k_mem)) | (refine' List.mem_append_right _ ?q; (case q => k_mem)))))
local macro_rules | `(tactic| k_put) => `(tactic| first | exact putL_nil _ _ _ _ _ | exact putL_one _ _ _ _ _ _ _ _)
local macro_rules | `(tactic| walk_at "eval Name") => `(tactic| (k_here; k_dflt (refine' nameX_L ?F ?v ?_ ?a ?b; (case F => k_asm); (case a => rfl); (case b => rfl); (case v => assumption); k_whole)))
local macro_rules | `(tactic| k_put) => `(tactic| first | exact putL_nil _ _ _ _ _ | exact putL_one _ _ _ _ _ _ _ _ | exact putL_err_pos | exact putL_err_expr)
local macro_rules | `(tactic| walk_at "getAttr ref") => `(tactic| (k_here; k_dflt (refine' exc_getD ?k1 ?k2 ?k3 ?k4 ?k5 ?k6 ?k7 ?k8 ?k9 ?k10 ?k11 ?_; (case k1 => k_asm); (case k2 => k_asm); (case k3 => (refine' InstAt.of_newsF ?N ?h1 ?h2; (case N => k_asm); (case h1 => k_mem); (case h2 => k_mem))); (case k4 => k_is); (case k5 => k_is); (case k6 => k_is); (case k7 => k_is); (case k8 => k_is); (case k9 => k_is); (case k10 => k_get); (case k11 => k_handed); k_whole)))
local macro_rules | `(tactic| walk_at "setAttr ref") => `(tactic| (k_here; k_dflt (refine' exc_set ?k1 ?k2 ?k3 ?k4 ?k5 ?k6 ?k7 ?k8 ?k9 ?k10 ?k11 ?k12 ?k13 ?_; (case k1 => k_asm); (case k2 => k_asm); (case k3 => k_asm); (case k4 => (refine' InstAt.of_newsF ?N ?h1 ?h2; (case N => k_asm); (case h1 => k_mem); (case h2 => k_mem))); (case k5 => exact rfl); (case k6 => k_is); (case k7 => kernel_rfl); (case k8 => k_is); (case k9 => k_is); (case k10 => k_get); (case k11 => k_put); (case k12 => k_upd); (case k13 => exact Nat.le_of_ble_eq_true rfl); k_whole; intro h' F' N'; (try k_sweep))))
local macro_rules | `(tactic| k_slotget) => `(tactic| first | assumption | rfl)
local macro_rules | `(tactic| walk_at "getAttr ref") => `(tactic| (k_here; k_dflt (refine' get_slotW ?k1 ?k2 ?k3 ?k4 ?k5 ?k6 ?k7 ?k8 ?k9 ?k10 ?k11 ?_; (case k1 => k_asm); (case k2 => k_asm); (case k3 => k_asm); (case k4 => k_mem); (case k5 => k_is); (case k6 => k_is); (case k7 => k_is); (case k8 => k_is); (case k9 => k_is); (case k10 => k_slotget); (case k11 => k_handed); k_whole)))
local macro_rules | `(tactic| walk_at "call builtin:len") => `(tactic| (k_here; (with_reducible show wpAny _ _ (call (Value.builtin _) [Value.str _ _]) _ _ _); k_dflt (refine' SC.len_str ?k1 ?_; (case k1 => assumption); k_whole)))
local macro_rules | `(tactic| walk_at "getMethod ref") => `(tactic| (k_here; (with_reducible show wpAny _ _ (getMethod (Value.ref _) (Str.ofString "match_core") _) _ _ _); k_dflt (refine' meth_core ?k1 ?k2 ?k3 ?k4 ?k5 ?_; (case k1 => k_asm); (case k2 => k_asm); (case k4 => k_inst); (case k3 => assumption); (case k5 => assumption); k_whole)))
local macro_rules | `(tactic| walk_at "call ref") => `(tactic| (k_here; (with_reducible show wpAny _ _ (call (Value.ref 266) _) _ _ _); refine Held.out ?_))
local macro_rules | `(tactic| walk_at "exec For Name Attribute cons nil") => `(tactic| (k_here; refine for_F ?_))
local macro_rules | `(tactic| walk_at "truthy ref") => `(tactic| (k_here; k_dflt (refine' truthyL ?k1 ?k2 ?k3 ?k4 ?_; (case k1 => k_asm); (case k2 => k_mem); (case k3 => first | assumption | (simp only [List.size_toArray, List.length_cons, List.length_nil]; decide) | (simp only [Array.size_push, List.size_toArray, List.length_cons, List.length_nil]; omega)); (case k4 => first | assumption | exact ne1 | exact ne0 | exact neP); k_whole); intro tk'))
local macro_rules | `(tactic| walk_at "getMethod ref") => `(tactic| (k_here; (with_reducible show wpAny _ _ (getMethod (Value.ref _) (Str.ofString "get") _) _ _ _); k_dflt (refine' d_meth (knd := strKind _ _) ?k1 ?k2 ?k3 PySem.F.slot_dict_get PySem.F.type_dict_get ?_; (case k1 => k_asm); (case k2 => k_mem); (case k3 => assumption); k_whole)))
local macro_rules | `(tactic| walk_at "call builtin:dict.get") => `(tactic| (k_here; (with_reducible show wpAny _ _ (call (Value.builtin _) [Value.ref _, Value.str _ _, _]) _ _ _); k_dflt (refine' d_get3 (knd := strKind _ _) ?k1 ?k2 ?k3 ?k4 (strKind_is _ _ _ _) ?_; (case k1 => k_asm); (case k2 => k_mem); (case k3 => assumption); (case k4 => assumption); k_whole)))
local macro_rules | `(tactic| walk_at "getAttr ref") => `(tactic| (k_here; ks_any; k_dflt (refine' ks_attr ?k1 ?k2 ?k3 ?k4 ?k5 ?k6 ?k7 ?k8 ?k9 ?_; (case k1 => k_asm); (case k2 => k_asm); (case k3 => k_asm); (case k4 => k_mem); (case k5 => k_inst); (case k6 => k_is); (case k7 => ks_is); (case k8 => k_is); (case k9 => decide); intro q' h' F' N' l1; (try k_lt l1))))
local macro_rules | `(tactic| walk_at "wpAt") => `(tactic| (with_unfolding_all (ks_step "exec Expr"; refine ks_wpAt_Expr_any ?_)))
local macro_rules | `(tactic| walk_at "wpAt") => `(tactic| (with_unfolding_all (ks_step "eval Call"; refine ks_wpAt_MethodCall ?_)))
local macro_rules | `(tactic| kc_enter) => `(tactic| (first | (refine' ks_code_super ?k1 ?k2 ?k3 ?k4 ?k5 ?kA ?kF ?kK ?k6 ?k7 ?k8 ?k9 ?kB ?_ ?c1 ?c2 ?c3 ?c4; (case kA => exact rfl); (case kF => exact rfl); (case kK => first | exact rfl | assumption); (case k1 => k_asm); (case k2 => k_asm); (case k3 => k_asm); (case k4 => k_asm); (case k5 => k_asm); (case k6 => k_is); (case k7 => k_is); (case k8 => k_room); (case k9 => refine' kp_binds ?kx ?ke; (case kx => k_in); (case ke => exact fun _ => rfl)); (case kB => exact locs rfl); (case c1 => decide); (case c2 => exact rfl); (case c3 => exact rfl); (case c4 => exact rfl); intro g' L' h' FG' F' N' B' X' T' l1; (try k_lt l1); (try dsimp only); (try k_lift B')) | (refine' ks_both ?k1 ?k2 ?k3 ?k4 ?k5 ?kA ?kF ?kK ?k6 ?k7 ?k8 ?kV ?kX ?kN ?kP ?kS ?kT ?kB ?_ ?c2 ?c3 ?c4 ?c5; (case kA => exact rfl); (case kF => exact rfl); (case kK => first | exact rfl | assumption); (case k1 => k_asm); (case k2 => k_asm); (case k3 => k_asm); (case k4 => k_asm); (case k5 => k_asm); (case k6 => k_is); (case k7 => k_is); (case k8 => k_room); (case kV => kp_lit); (case kX => kp_lit); (case kN => exact rfl); (case kP => exact rfl); (case kS => exact fun _ => rfl); (case kT => exact fun _ _ => rfl); (case kB => exact fun _ _ => locs rfl); (case c5 => decide); (case c2 => exact rfl); (case c3 => exact rfl); (case c4 => exact rfl); intro C' D' o' t0' g' L' h' tk' l1 l2 lo' eo' hs' FG' F' N' B' X' T' l3; (try k_lt l1); (try k_lt2 l2); (try k_lt l3); (try dsimp only); (try k_lift B')) | (refine' ks_more ?k1 ?k2 ?k3 ?k4 ?k5 ?kA ?kF ?kK ?k6 ?k7 ?k8 ?kX ?kN ?kP ?kT ?kB ?_ ?c2 ?c3 ?c4 ?c5; (case kA => exact rfl); (case kF => exact rfl); (case kK => first | exact rfl | assumption); (case k1 => k_asm); (case k2 => k_asm); (case k3 => k_asm); (case k4 => k_asm); (case k5 => k_asm); (case k6 => k_is); (case k7 => k_is); (case k8 => k_room); (case kX => kp_lit); (case kN => exact rfl); (case kP => exact rfl); (case kT => exact fun _ => rfl); (case kB => exact fun _ => locs rfl); (case c5 => decide); (case c2 => exact rfl); (case c3 => exact rfl); (case c4 => exact rfl); intro D' o' t0' g' L' h' tk' l1 lo' eo' hs' FG' F' N' B' X' T' l3; (try k_lt l1); (try k_lt l3); (try dsimp only); (try k_lift B'))))
local macro_rules | `(tactic| walk_at "call ref") => `(tactic| (k_here; k_dflt (first
  | (refine' call_cls ?k1 ?k2 ?k3 ?k4 ?k5 ?k6 ?_; (case k1 => k_asm); (case k2 => k_asm); (case k3 => k_asm); (case k4 => k_is); (case k5 => k_is); (case k6 => k_is); intro x' d' h' F' N' l1 l2; (replace l1 := allLt_of l1); (try simp only [AllLt, and_true] at l1); (try k_lt2 l2); (try k_sweep); kc_enter)
  | (refine' call_meth ?k1 ?k2 ?_; (case k1 => k_asm); (case k2 => k_mem); kc_enter))))
theorem News.mid {h₀ h : Heap} {L : Addr} {a b : Addr × Obj} {Y J : Led} (N : News h₀ L h (Y ++ (a :: b :: J))) : News h₀ L h (a :: b :: (Y ++ J)) := fun q hq => N q (by
  simp only [List.mem_cons, List.mem_append] at hq ⊢
  rcases hq with h | h | h | h <;> simp only [h, true_or, or_true])
/-- each is newer than what follows -/
def Desc : Led → Led → Prop
  | [], _ => True
  | p :: r, J => AllLt p.1 (r ++ J) ∧ Desc r J
theorem allLt_right {a : Addr} : ∀ {l J : Led}, AllLt a (l ++ J) → AllLt a J
  | [], _, h => h
  | _ :: r, _, h => allLt_right (l := r) h.2
theorem Desc.above : ∀ {l J : Led}, Desc l J → Above l J
  | [], _, _ => fun _ h => nomatch h
  | p :: r, J, h => fun q hq => by
    rcases List.mem_cons.mp hq with rfl | hq
    · exact allLt_right h.1
    · exact Desc.above h.2 q hq
theorem Desc.mid {a b : Addr × Obj} {J : Led} : ∀ {Y : Led}, Desc (Y ++ [a, b]) J → b.1 ≠ a.1 ∧ ∀ p ∈ Y, p.1 ≠ b.1
  | [], h => ⟨Nat.ne_of_lt h.1.1, fun _ h => nomatch h⟩
  | y :: Y, h => by
    obtain ⟨h1, h2⟩ := Desc.mid (Y := Y) h.2
    refine ⟨h1, fun p hp => ?_⟩
    rcases List.mem_cons.mp hp with rfl | hp
    · exact Nat.ne_of_gt (tb_ltOf h.1 b (by simp))
    · exact h2 p hp
theorem Desc.made {a b : Addr × Obj} {Y J : Led} (h : Desc (Y ++ [a, b]) J) : Above (a :: b :: Y) J ∧ b.1 ≠ a.1 ∧ ∀ p ∈ Y, p.1 ≠ b.1 := by
  refine ⟨fun p hp => h.above p ?_, h.mid⟩
  simp only [List.mem_cons, List.mem_append, List.not_mem_nil, or_false] at hp ⊢
  rcases hp with h | h | h <;> simp only [h, true_or, or_true]
theorem valueAt_one {k : Str} {v d : Value} : (valueAt [(k, v)] k).getD d = v := by rw [valueAt_cons, if_pos rfl]; rfl
theorem make_lit {w : World} {dp un : Nat} {gd : Option (List Code)} {cn : Str} {cs : Scope} {a : Addr} {ccd : Value} {cl : List (Str × Addr)} {outer : List Env} {A₀ : Around} {base h₀ : Heap} {L : Addr} {m : Str → Option Value} {s : Shared}
    {loose : List Str} {mean : ExcName → Option Value} {mg mb : Str → Option Value} {Q E : Value → Shared → Prop}
    {wd nm : Str} {tw tn : Tok} {news : Led}
    (B : Below A₀ base outer h₀) (F : Fr h₀ L s.heap m) (X : (hd.heap_39 w.params).In h₀)
    (T : Top topProg loose mean mg mb h₀) (hk : cs.kind = .function) (N : News h₀ L s.heap news)
    (hd : dp + 6 < recursionLimit) (hun : un + 40 < cLine)
    (ret : ∀ x dx h' tk' Y idt , Fr h₀ L h' m → News h₀ L h' ((x, (⟨.ref 336, some dx, .plain, #[some (.str wd tw), some (.ref idt), some (.str nm tn)]⟩ : Obj)) :: (dx, dictOf [] 0) :: (Y ++ news)) → Above ((x, (⟨.ref 336, some dx, .plain, #[some (.str wd tw), some (.ref idt), some (.str nm tn)]⟩ : Obj)) :: (dx, dictOf [] 0) :: Y) news ∧ dx ≠ x ∧ (∀ p ∈ Y, p.1 ≠ dx) → Q (.ref x) { s with heap := h', toks := tk' }) :
    wpAny (model PR w) (ktrTop dp un gd cn cs L a ccd cl outer) (call (.ref 336) [.str wd tw] [(Str.ofString "name", .str nm tn)]) Q E s := by
  k_steps
  rename Fr h₀ L _ m => kF
  rename News h₀ L _ _ => kN
  rename _ ∧ _ ∧ _ ∧ _ ∧ _ ∧ AllLt _ _ => k6
  rename _ ∧ _ ∧ _ ∧ _ ∧ AllLt _ _ => k5
  rename _ ∧ _ ∧ _ ∧ AllLt _ _ => k4
  rename _ ∧ _ ∧ AllLt _ _ => k3
  rename AllLt _ _ => k1
  rename @LT.lt Nat _ _ _ => k2
  exact ret _ _ _ _ [_, _, _, _] _ kF (News.mid (Y := [_, _, _, _]) kN) (Desc.made (Y := [_, _, _, _]) ⟨k6, k5, k4, k3, ⟨k2, tbn_up k2 k1⟩, k1, trivial⟩)
theorem make_chain {w : World} {dp un : Nat} {gd : Option (List Code)} {cn : Str} {cs : Scope} {a : Addr} {ccd : Value} {cl : List (Str × Addr)} {outer : List Env} {A₀ : Around} {base h₀ : Heap} {L : Addr} {m : Str → Option Value} {s : Shared}
    {loose : List Str} {mean : ExcName → Option Value} {mg mb : Str → Option Value} {Q E : Value → Shared → Prop}
    {nm : Str} {x1 x2 : Addr} {tn : Tok} {news : Led}
    (B : Below A₀ base outer h₀) (F : Fr h₀ L s.heap m) (X : (hd.heap_39 w.params).In h₀)
    (T : Top topProg loose mean mg mb h₀) (hk : cs.kind = .function) (N : News h₀ L s.heap news)
    (hd : dp + 6 < recursionLimit) (hun : un + 40 < cLine)
    (ret : ∀ x dx h' tk' Y idt mem, Fr h₀ L h' m → News h₀ L h' ((x, (⟨.ref 394, some dx, .plain, #[some (.ref mem), some (.ref idt), some (.str nm tn)]⟩ : Obj)) :: (dx, dictOf [] 0) :: (Y ++ news)) → Above ((x, (⟨.ref 394, some dx, .plain, #[some (.ref mem), some (.ref idt), some (.str nm tn)]⟩ : Obj)) :: (dx, dictOf [] 0) :: Y) news ∧ dx ≠ x ∧ (∀ p ∈ Y, p.1 ≠ dx) → (mem, tupObj [.ref x1, .ref x2]) ∈ Y → Q (.ref x) { s with heap := h', toks := tk' }) :
    wpAny (model PR w) (ktrTop dp un gd cn cs L a ccd cl outer) (call (.ref 394) [.ref x1, .ref x2] [(Str.ofString "name", .str nm tn)]) Q E s := by
  walk1
  walk1
  refine ks_wpAt_Expr_any ?_
  refine ks_wpAt_MethodCall ?_
  k_steps
  rename Fr h₀ L _ m => kF
  rename News h₀ L _ _ => kN
  rename _ ∧ _ ∧ _ ∧ _ ∧ _ ∧ _ ∧ AllLt _ _ => k7
  rename _ ∧ _ ∧ _ ∧ _ ∧ _ ∧ AllLt _ _ => k6
  rename _ ∧ _ ∧ _ ∧ _ ∧ AllLt _ _ => k5
  rename _ ∧ _ ∧ AllLt _ _ => k3
  rename AllLt _ _ => k1
  simp only [valueAt_one] at kN
  exact ret _ _ _ _ [_, _, _, _, _] _ _ kF (News.mid (Y := [_, _, _, _, _]) kN) (Desc.made (Y := [_, _, _, _, _]) ⟨k7, k6, k5, ⟨by assumption, Nat.lt_trans k3.1 (by assumption), Nat.lt_trans k3.2.1 (by assumption), tbn_up (by assumption) k3.2.2⟩, k3, ⟨by assumption, tbn_up (by assumption) k1⟩, k1, trivial⟩) (by exact .tail _ (.tail _ (.tail _ (.tail _ (.head _)))))
theorem make_choice {w : World} {dp un : Nat} {gd : Option (List Code)} {cn : Str} {cs : Scope} {a : Addr} {ccd : Value} {cl : List (Str × Addr)} {outer : List Env} {A₀ : Around} {base h₀ : Heap} {L : Addr} {m : Str → Option Value} {s : Shared}
    {loose : List Str} {mean : ExcName → Option Value} {mg mb : Str → Option Value} {Q E : Value → Shared → Prop}
    {nm : Str} {x1 x2 : Addr} {tn : Tok} {news : Led}
    (B : Below A₀ base outer h₀) (F : Fr h₀ L s.heap m) (X : (hd.heap_39 w.params).In h₀)
    (T : Top topProg loose mean mg mb h₀) (hk : cs.kind = .function) (N : News h₀ L s.heap news)
    (hd : dp + 6 < recursionLimit) (hun : un + 40 < cLine)
    (ret : ∀ x dx h' tk' Y idt mem, Fr h₀ L h' m → News h₀ L h' ((x, (⟨.ref 420, some dx, .plain, #[some (.ref mem), some (.ref idt), some (.str nm tn)]⟩ : Obj)) :: (dx, dictOf [] 0) :: (Y ++ news)) → Above ((x, (⟨.ref 420, some dx, .plain, #[some (.ref mem), some (.ref idt), some (.str nm tn)]⟩ : Obj)) :: (dx, dictOf [] 0) :: Y) news ∧ dx ≠ x ∧ (∀ p ∈ Y, p.1 ≠ dx) → (mem, tupObj [.ref x1, .ref x2]) ∈ Y → Q (.ref x) { s with heap := h', toks := tk' }) :
    wpAny (model PR w) (ktrTop dp un gd cn cs L a ccd cl outer) (call (.ref 420) [.ref x1, .ref x2] [(Str.ofString "name", .str nm tn)]) Q E s := by
  walk1
  walk1
  refine ks_wpAt_Expr_any ?_
  refine ks_wpAt_MethodCall ?_
  k_steps
  rename Fr h₀ L _ m => kF
  rename News h₀ L _ _ => kN
  rename _ ∧ _ ∧ _ ∧ _ ∧ _ ∧ _ ∧ AllLt _ _ => k7
  rename _ ∧ _ ∧ _ ∧ _ ∧ _ ∧ AllLt _ _ => k6
  rename _ ∧ _ ∧ _ ∧ _ ∧ AllLt _ _ => k5
  rename _ ∧ _ ∧ AllLt _ _ => k3
  rename AllLt _ _ => k1
  simp only [valueAt_one] at kN
  exact ret _ _ _ _ [_, _, _, _, _] _ _ kF (News.mid (Y := [_, _, _, _, _]) kN) (Desc.made (Y := [_, _, _, _, _]) ⟨k7, k6, k5, ⟨by assumption, Nat.lt_trans k3.1 (by assumption), Nat.lt_trans k3.2.1 (by assumption), tbn_up (by assumption) k3.2.2⟩, k3, ⟨by assumption, tbn_up (by assumption) k1⟩, k1, trivial⟩) (by exact .tail _ (.tail _ (.tail _ (.tail _ (.head _)))))
theorem make_look {w : World} {dp un : Nat} {gd : Option (List Code)} {cn : Str} {cs : Scope} {a : Addr} {ccd : Value} {cl : List (Str × Addr)} {outer : List Env} {A₀ : Around} {base h₀ : Heap} {L : Addr} {m : Str → Option Value} {s : Shared}
    {loose : List Str} {mean : ExcName → Option Value} {mg mb : Str → Option Value} {Q E : Value → Shared → Prop}
    {nm : Str} {x1 : Addr} {neg : Bool} {tn : Tok} {news : Led}
    (B : Below A₀ base outer h₀) (F : Fr h₀ L s.heap m) (X : (hd.heap_39 w.params).In h₀)
    (T : Top topProg loose mean mg mb h₀) (hk : cs.kind = .function) (N : News h₀ L s.heap news)
    (hd : dp + 6 < recursionLimit) (hun : un + 40 < cLine)
    (ret : ∀ x dx h' tk' Y idt mem, Fr h₀ L h' m → News h₀ L h' ((x, (⟨.ref 458, some dx, .plain, #[some (.bool neg), some (.ref mem), some (.ref idt), some (.str nm tn)]⟩ : Obj)) :: (dx, dictOf [] 0) :: (Y ++ news)) → Above ((x, (⟨.ref 458, some dx, .plain, #[some (.bool neg), some (.ref mem), some (.ref idt), some (.str nm tn)]⟩ : Obj)) :: (dx, dictOf [] 0) :: Y) news ∧ dx ≠ x ∧ (∀ p ∈ Y, p.1 ≠ dx) → (mem, tupObj [.ref x1]) ∈ Y → Q (.ref x) { s with heap := h', toks := tk' }) :
    wpAny (model PR w) (ktrTop dp un gd cn cs L a ccd cl outer) (call (.ref 458) [.ref x1] [(Str.ofString "negative", .bool neg), (Str.ofString "name", .str nm tn)]) Q E s := by
  walk1
  walk1
  refine ks_wpAt_Expr_any ?_
  refine ks_wpAt_MethodKW ?_
  walk1
  walk1
  rename _ = dictOf _ _ => eo
  rename Fr _ _ _ (fun _ => _) => kF
  subst eo
  refine' callM_A kF ?N ?X ?q ?f ?hm ?lo ?ha ?hy ?hx ?_
  case N => k_asm
  case X => k_asm
  case q => k_mem
  case f => k_is
  case hm => k_mem
  case lo => assumption
  case ha => exact rfl
  case hy =>
    intro Q' E' s' F' q
    refine' nameX_L F' ?v q ?a ?b ?c
    case a => rfl
    case b => rfl
    case c => rfl
    case v => rfl
  case hx =>
    intro Q' E' s' F' q
    refine' nameX_L F' ?v q ?a ?b ?c
    case a => rfl
    case b => rfl
    case c => rfl
    case v => rfl
  intro d' h' F' N' l1
  k_lt l1
  k_steps
  rename Fr h₀ L _ m => kF
  rename News h₀ L _ _ => kN
  simp only [valueAt_one] at kN
  exact ret _ _ _ _ [_, _, _, _, _, _, _, _, _] _ _ kF (News.mid (Y := [_, _, _, _, _, _, _, _, _]) kN) (Desc.made (Y := [_, _, _, _, _, _, _, _, _]) ⟨by assumption, by assumption, by assumption, ⟨by assumption, tbn_up (by assumption) (by assumption)⟩, by assumption, by assumption, by assumption, by assumption, by assumption, ⟨by assumption, tbn_up (by assumption) (by assumption)⟩, by assumption, trivial⟩) (by exact .tail _ (.tail _ (.tail _ (.tail _ (.head _)))))
theorem make_many {w : World} {dp un : Nat} {gd : Option (List Code)} {cn : Str} {cs : Scope} {a : Addr} {ccd : Value} {cl : List (Str × Addr)} {outer : List Env} {A₀ : Around} {base h₀ : Heap} {L : Addr} {m : Str → Option Value} {s : Shared}
    {loose : List Str} {mean : ExcName → Option Value} {mg mb : Str → Option Value} {Q E : Value → Shared → Prop}
    {nm : Str} {x1 : Addr} {least : Int} {tl0 : Tok} {tn : Tok} {news : Led}
    (B : Below A₀ base outer h₀) (F : Fr h₀ L s.heap m) (X : (hd.heap_39 w.params).In h₀)
    (T : Top topProg loose mean mg mb h₀) (hk : cs.kind = .function) (N : News h₀ L s.heap news)
    (hd : dp + 6 < recursionLimit) (hun : un + 40 < cLine)
    (ret : ∀ x dx h' tk' Y idt mem mv, Fr h₀ L h' m → News h₀ L h' ((x, (⟨.ref 497, some dx, .plain, #[some mv, some (.int least tl0), some (.ref mem), some (.ref idt), some (.str nm tn)]⟩ : Obj)) :: (dx, dictOf [] 0) :: (Y ++ news)) → Above ((x, (⟨.ref 497, some dx, .plain, #[some mv, some (.int least tl0), some (.ref mem), some (.ref idt), some (.str nm tn)]⟩ : Obj)) :: (dx, dictOf [] 0) :: Y) news ∧ dx ≠ x ∧ (∀ p ∈ Y, p.1 ≠ dx) → (mem, tupObj [.ref x1]) ∈ Y → maxV none mv → Q (.ref x) { s with heap := h', toks := tk' }) :
    wpAny (model PR w) (ktrTop dp un gd cn cs L a ccd cl outer) (call (.ref 497) [.ref x1] [(Str.ofString "min", .int least tl0), (Str.ofString "name", .str nm tn)]) Q E s := by
  walk1
  walk1
  refine ks_wpAt_Expr_any ?_
  refine ks_wpAt_MethodKW ?_
  walk1
  walk1
  rename _ = dictOf _ _ => eo
  replace eo : _ = dictOf [] 0 := eo
  rename Fr _ _ _ (fun _ => _) => kF
  subst eo
  refine' callM_B kF ?N ?X ?T ?q ?f ?hm ?lo ?ha ?hy ?hz ?hx ?_
  case N => k_asm
  case X => k_asm
  case T => exact Top.nolimit (by k_asm)
  case q => k_mem
  case f => k_is
  case hm => k_mem
  case lo => assumption
  case ha => exact rfl
  case hy =>
    intro Q' E' s' F' q
    refine' nameX_L F' ?v q ?a ?b ?c
    case a => rfl
    case b => rfl
    case c => rfl
    case v => rfl
  case hz =>
    intro Q' E' s' F' q
    refine' nameX_L F' ?v q ?a ?b ?c
    case a => rfl
    case b => rfl
    case c => rfl
    case v => rfl
  case hx =>
    intro Q' E' s' F' q
    refine' nameX_L F' ?v q ?a ?b ?c
    case a => rfl
    case b => rfl
    case c => rfl
    case v => rfl
  intro d' S' h' o' t' tk' F' N' l1 l2
  k_lt l1
  replace l2 : @LT.lt Nat _ d' S' := l2
  k_steps
  rename Fr h₀ L _ m => kF
  rename News h₀ L _ _ => kN
  simp only [valueAt_one] at kN
  refine ret _ _ _ _ [_, _, _, _, _, _, _, _, _, _] _ _ _ kF (News.mid (Y := [_, _, _, _, _, _, _, _, _, _]) kN) (Desc.made (Y := [_, _, _, _, _, _, _, _, _, _]) ⟨by assumption, by assumption, by assumption, ⟨by assumption, tbn_up (by assumption) (by assumption)⟩, by assumption, ⟨l2, tbn_up l2 l1⟩, by assumption, by assumption, by assumption, by assumption, ⟨by assumption, tbn_up (by assumption) (by assumption)⟩, by assumption, trivial⟩) (by exact .tail _ (.tail _ (.tail _ (.tail _ (.head _))))) ⟨_, rfl⟩
theorem make_manyM {w : World} {dp un : Nat} {gd : Option (List Code)} {cn : Str} {cs : Scope} {a : Addr} {ccd : Value} {cl : List (Str × Addr)} {outer : List Env} {A₀ : Around} {base h₀ : Heap} {L : Addr} {m : Str → Option Value} {s : Shared}
    {loose : List Str} {mean : ExcName → Option Value} {mg mb : Str → Option Value} {Q E : Value → Shared → Prop}
    {nm : Str} {x1 : Addr} {least : Int} {tl0 : Tok} {most : Int} {tm : Tok} {tn : Tok} {news : Led}
    (B : Below A₀ base outer h₀) (F : Fr h₀ L s.heap m) (X : (hd.heap_39 w.params).In h₀)
    (T : Top topProg loose mean mg mb h₀) (hk : cs.kind = .function) (N : News h₀ L s.heap news)
    (hd : dp + 6 < recursionLimit) (hun : un + 40 < cLine)
    (ret : ∀ x dx h' tk' Y idt mem mv, Fr h₀ L h' m → News h₀ L h' ((x, (⟨.ref 497, some dx, .plain, #[some mv, some (.int least tl0), some (.ref mem), some (.ref idt), some (.str nm tn)]⟩ : Obj)) :: (dx, dictOf [] 0) :: (Y ++ news)) → Above ((x, (⟨.ref 497, some dx, .plain, #[some mv, some (.int least tl0), some (.ref mem), some (.ref idt), some (.str nm tn)]⟩ : Obj)) :: (dx, dictOf [] 0) :: Y) news ∧ dx ≠ x ∧ (∀ p ∈ Y, p.1 ≠ dx) → (mem, tupObj [.ref x1]) ∈ Y → mv = .int most tm → Q (.ref x) { s with heap := h', toks := tk' }) :
    wpAny (model PR w) (ktrTop dp un gd cn cs L a ccd cl outer) (call (.ref 497) [.ref x1] [(Str.ofString "min", .int least tl0), (Str.ofString "max", .int most tm), (Str.ofString "name", .str nm tn)]) Q E s := by
  walk1
  walk1
  refine ks_wpAt_Expr_any ?_
  refine ks_wpAt_MethodKW ?_
  walk1
  walk1
  rename _ = dictOf _ _ => eo
  replace eo : _ = dictOf [] 0 := eo
  rename Fr _ _ _ (fun _ => _) => kF
  subst eo
  refine' callM_B kF ?N ?X ?T ?q ?f ?hm ?lo ?ha ?hy ?hz ?hx ?_
  case N => k_asm
  case X => k_asm
  case T => exact Top.nolimit (by k_asm)
  case q => k_mem
  case f => k_is
  case hm => k_mem
  case lo => assumption
  case ha => exact rfl
  case hy =>
    intro Q' E' s' F' q
    refine' nameX_L F' ?v q ?a ?b ?c
    case a => rfl
    case b => rfl
    case c => rfl
    case v => rfl
  case hz =>
    intro Q' E' s' F' q
    refine' nameX_L F' ?v q ?a ?b ?c
    case a => rfl
    case b => rfl
    case c => rfl
    case v => rfl
  case hx =>
    intro Q' E' s' F' q
    refine' nameX_L F' ?v q ?a ?b ?c
    case a => rfl
    case b => rfl
    case c => rfl
    case v => rfl
  intro d' S' h' o' t' tk' F' N' l1 l2
  k_lt l1
  replace l2 : @LT.lt Nat _ d' S' := l2
  k_steps
  rename Fr h₀ L _ m => kF
  rename News h₀ L _ _ => kN
  try simp only [valueAt_one] at kN
  refine ret _ _ _ _ [_, _, _, _, _, _, _, _, _, _] _ _ _ kF (News.mid (Y := [_, _, _, _, _, _, _, _, _, _]) kN) (Desc.made (Y := [_, _, _, _, _, _, _, _, _, _]) ⟨by assumption, by assumption, by assumption, ⟨by assumption, tbn_up (by assumption) (by assumption)⟩, by assumption, ⟨l2, tbn_up l2 l1⟩, by assumption, by assumption, by assumption, by assumption, ⟨by assumption, tbn_up (by assumption) (by assumption)⟩, by assumption, trivial⟩) (by exact .tail _ (.tail _ (.tail _ (.tail _ (.head _))))) rfl
end Mine
namespace Mine
local macro_rules | `(tactic| walk_at "zz") => `(tactic| fail)
local macro_rules | `(tactic| walk_at "zz") => `(tactic| fail)
local macro_rules | `(tactic| walk_at "zz") => `(tactic| fail)
local macro_rules | `(tactic| walk_at "zz") => `(tactic| fail)
local macro_rules | `(tactic| walk_at "zz") => `(tactic| fail)
local macro_rules | `(tactic| walk_at "zz") => `(tactic| fail)
local macro_rules | `(tactic| walk_at "zz") => `(tactic| fail)
local macro_rules | `(tactic| walk_at "zz") => `(tactic| fail)
local macro_rules | `(tactic| walk_at "zz") => `(tactic| fail)
local macro_rules | `(tactic| walk_at "zz") => `(tactic| fail)
local macro_rules | `(tactic| walk_at "zz") => `(tactic| fail)
local macro_rules | `(tactic| walk_at "zz") => `(tactic| fail)
local macro_rules | `(tactic| walk_at "zz") => `(tactic| fail)
local macro_rules | `(tactic| walk_at "zz") => `(tactic| fail)
local macro_rules | `(tactic| walk_at "zz") => `(tactic| fail)
local macro_rules | `(tactic| walk_at "zz") => `(tactic| fail)
local macro_rules | `(tactic| walk_at "zz") => `(tactic| fail)
local macro_rules | `(tactic| walk_at "zz") => `(tactic| fail)
local macro_rules | `(tactic| walk_at "zz") => `(tactic| fail)
local macro_rules | `(tactic| walk_at "zz") => `(tactic| fail)
local macro_rules | `(tactic| walk_at "zz") => `(tactic| fail)
local macro_rules | `(tactic| walk_at "zz") => `(tactic| fail)
local macro_rules | `(tactic| walk_at "zz") => `(tactic| fail)
local macro_rules | `(tactic| walk_at "zz") => `(tactic| fail)
local macro_rules | `(tactic| walk_at "zz") => `(tactic| fail)
local macro_rules | `(tactic| walk_at "zz") => `(tactic| fail)
local macro_rules | `(tactic| walk_at "zz") => `(tactic| fail)
local macro_rules | `(tactic| walk_at "zz") => `(tactic| fail)
local macro_rules | `(tactic| walk_at "zz") => `(tactic| fail)
theorem rs_A_gr : True := by w_top off; trivial
local macro_rules | `(tactic| k_all) => `(tactic| assumption)
local macro_rules | `(tactic| k_ne) => `(tactic| first | assumption | exact Ne.symm (by assumption) | exact Nat.ne_of_lt (by assumption) | exact Nat.ne_of_gt (by assumption))
local macro_rules | `(tactic| k_room) => `(tactic| ktr_room)
local macro_rules | `(tactic| walk_at "call builtin:getattr") => `(tactic| (k_here; (with_reducible show wpAny _ _ (call (Value.builtin _) [_, Value.str _ _, _]) _ _ _); k_dflt (first
  | (refine' ga3_own ?k1 ?k2 ?k3 ?k4 ?k5 ?k6 ?k7 ?k8 ?k9 ?k10 ?k11 ?_; (case k1 => k_asm); (case k2 => k_asm); (case k3 => k_inst); (case k4 => k_is); (case k5 => k_is); (case k6 => k_is); (case k7 => k_is); (case k8 => k_get); (case k9 => k_handed); (case k10 => decide +kernel); (case k11 => k_is); k_whole)
  | (refine' ga3_miss ?k1 ?k2 ?k3 ?k4 ?k5 ?k6 ?k7 ?k8 ?k9 ?k10 ?k11 ?k12 ?k13 ?_; (case k1 => k_asm); (case k2 => k_asm); (case k3 => k_asm); (case k4 => k_inst); (case k5 => k_is); (case k6 => k_is); (case k7 => k_is); (case k8 => decide +kernel); (case k9 => k_get); (case k10 => decide +kernel); (case k11 => k_is); (case k12 => exact rfl); (case k13 => (first | (refine' MsgOk.of ?q1 ?q2 ?q3; (case q1 => k_is); (case q2 => decide +kernel); (case q3 => decide +kernel)) | (rename IsEx _ => h5; rcases h5 with e5 | e5 | e5 | e5 | e5 <;> subst e5 <;> (refine' MsgOk.of ?q1 ?q2 ?q3; (case q1 => k_is); (case q2 => decide +kernel); (case q3 => decide +kernel))))); k_whole; intro h' tk' F' N'; (try k_sweep)))))
local macro_rules | `(tactic| k_upd) => `(tactic| first | (refine' Off.head ?a; (case a => k_all)) | (refine' Off.tail ?a ?b; (case a => k_ne); (case b => k_upd)))
local macro_rules | `(tactic| walk_at "pyIter ref") => `(tactic| (k_here; (with_reducible show wpAny _ _ (pyIter (Value.ref _)) (fun it s₂ => codeAny _ _ (Code.forLoop _ it _ _ _) _ s₂) _ _); k_dflt (refine' tup_iter ?k1 ?k2 ?k3 ?_; (case k1 => k_asm); (case k2 => k_asm); (case k3 => exact News.isTup (by k_asm) (by k_mem)); k_whole); intro I' h' o' F' N' x' l1 l2; (try k_lt l1); (try k_lt2 l2); (try k_sweep)))
local macro_rules | `(tactic| walk_at "codeAny forLoop") => `(tactic| (k_here; (with_reducible show codeAny _ _ (Code.forLoop _ (Value.ref _) _ _ _) (okR _) _); k_dflt (first
  | (refine' tup_last ?k1 ?k2 ?k3 ?k4 ?k5 ?k6 ?k7 ?_; (case k1 => k_asm); (case k4 => assumption); (case k2 => k_asm); (case k3 => k_upd); (case k5 => exact News.isTup (by k_asm) (by k_mem)); (case k6 => exact rfl); (case k7 => exact rfl); k_whole; intro h' F' N'; (try k_sweep))
  | (refine' tup_turn ?k1 ?k2 ?k3 ?k4 ?k5 ?k6 ?k7 ?_; (case k1 => k_asm); (case k4 => assumption); (case k2 => k_asm); (case k3 => k_updF); (case k5 => exact News.isTup (by k_asm) (by k_mem)); (case k6 => first | exact get2_0 | exact get2_1 | exact rfl); (case k7 => k_ne); k_whole; intro h' o' F' N' x' T'; (try k_sweep)))))
local macro_rules | `(tactic| walk_at "call builtin:len") => `(tactic| (k_here; (with_reducible show wpAny _ _ (call (Value.builtin _) [Value.ref _]) _ _ _); k_dflt (refine' d_len (knd := intKind _ _) ?k1 ?k2 ?k3 ?k4 ?k5 ?k6 ?_; (case k1 => k_asm); (case k2 => k_mem); (case k3 => assumption); (case k4 => assumption); (case k5 => first | exact rowsK_length _ | rfl); (case k6 => (first | omega | (simp only [List.length_append, List.length_cons, List.length_nil]; omega))); k_whole; intro tk')))
local macro_rules | `(tactic| walk_at "getMethod ref") => `(tactic| (k_here; (with_reducible show wpAny _ _ (getMethod (Value.ref _) (Str.ofString "get") _) _ _ _); k_dflt (refine' d_meth (knd := intKind _ _) ?k1 ?k2 ?k3 PySem.F.slot_dict_get PySem.F.type_dict_get ?_; (case k1 => k_asm); (case k2 => k_mem); (case k3 => assumption); k_whole)))
local macro_rules | `(tactic| walk_at "call builtin:dict.get") => `(tactic| (k_here; (with_reducible show wpAny _ _ (call (Value.builtin _) [Value.ref _, Value.int _ _]) _ _ _); k_dflt (refine' d_get (knd := intKind _ _) ?k1 ?k2 ?k3 ?k4 (intKind_is _ _ _ _) ?_; (case k1 => k_asm); (case k2 => k_mem); (case k3 => assumption); (case k4 => assumption); k_whole)))
local macro_rules | `(tactic| walk_at "compareOp In int ref") => `(tactic| (k_here; k_dflt (refine' d_in (knd := intKind _ _) ?k1 ?k2 ?k3 ?k4 (intKind_is _ _ _ _) ?_; (case k1 => k_asm); (case k2 => k_mem); (case k3 => assumption); (case k4 => assumption); k_whole)))
local macro_rules | `(tactic| walk_at "subscriptTail") => `(tactic| (k_here; (with_reducible show wpAny _ _ (subscriptTail _ _ (Value.ref _) (Value.int _ _)) _ _ _); k_dflt (refine' d_item (knd := intKind _ _) ?k1 ?k2 ?k3 (intKind_is _ _ _ _) ?k5 ?_; (case k1 => k_asm); (case k2 => k_mem); (case k3 => assumption); (case k5 => assumption); k_whole)))
local macro_rules | `(tactic| walk_at "setItem ref int") => `(tactic| (k_here; k_dflt (refine' d_set (knd := intKind _ _) ?k1 ?k2 ?k3 ?k4 (intKind_is _ _ _ _) ?k6 ?_; (case k1 => k_asm); (case k2 => k_asm); (case k3 => k_updF); (case k4 => assumption); (case k6 => (rw [sizeLine_eq]; (first | omega | (simp only [rowsK_length, rowK_length, List.length_map, List.length_append, List.length_cons, List.length_nil]; omega)))); k_whole); intro h' o' F' N' hd'; (try dsimp only at N'); (try simp only [rowsK_length, stored_rows] at hd'); (try k_sweep)))
local macro_rules | `(tactic| k_all) => `(tactic| first | assumption | (refine List.forall_mem_append.mpr ⟨?_, ?_⟩ <;> k_all) | (exact tbn_neAll (by first | assumption | tbn_find)) | (exact tbn_neAll (tbn_up (by assumption) (by tbn_find))))
local macro_rules | `(tactic| k_mem) => `(tactic| ((with_reducible show List.Mem _ _); first | (show (_ : Addr × Obj) ∈ (_ : List (Addr × Obj)); ktr_member) | ((with_reducible show List.Mem _ (_ ++ _)); first | (refine' List.mem_append_left _ ?q; (case q => k_mem)) | (refine' List.mem_append_right _ ?q; (case q => k_mem)))))
local macro_rules | `(tactic| k_put) => `(tactic| first | exact putL_nil _ _ _ _ _ | exact putL_one _ _ _ _ _ _ _ _)
local macro_rules | `(tactic| walk_at "eval Name") => `(tactic| (k_here; k_dflt (refine' nameX_L ?F ?v ?_ ?a ?b; (case F => k_asm); (case a => rfl); (case b => rfl); (case v => assumption); k_whole)))
local macro_rules | `(tactic| k_put) => `(tactic| first | exact putL_nil _ _ _ _ _ | exact putL_one _ _ _ _ _ _ _ _ | exact putL_err_pos | exact putL_err_expr)
local macro_rules | `(tactic| walk_at "getAttr ref") => `(tactic| (k_here; k_dflt (refine' exc_getD ?k1 ?k2 ?k3 ?k4 ?k5 ?k6 ?k7 ?k8 ?k9 ?k10 ?k11 ?_; (case k1 => k_asm); (case k2 => k_asm); (case k3 => (refine' InstAt.of_newsF ?N ?h1 ?h2; (case N => k_asm); (case h1 => k_mem); (case h2 => k_mem))); (case k4 => k_is); (case k5 => k_is); (case k6 => k_is); (case k7 => k_is); (case k8 => k_is); (case k9 => k_is); (case k10 => k_get); (case k11 => k_handed); k_whole)))
local macro_rules | `(tactic| walk_at "setAttr ref") => `(tactic| (k_here; k_dflt (refine' exc_set ?k1 ?k2 ?k3 ?k4 ?k5 ?k6 ?k7 ?k8 ?k9 ?k10 ?k11 ?k12 ?k13 ?_; (case k1 => k_asm); (case k2 => k_asm); (case k3 => k_asm); (case k4 => (refine' InstAt.of_newsF ?N ?h1 ?h2; (case N => k_asm); (case h1 => k_mem); (case h2 => k_mem))); (case k5 => exact rfl); (case k6 => k_is); (case k7 => kernel_rfl); (case k8 => k_is); (case k9 => k_is); (case k10 => k_get); (case k11 => k_put); (case k12 => k_upd); (case k13 => exact Nat.le_of_ble_eq_true rfl); k_whole; intro h' F' N'; (try k_sweep))))
local macro_rules | `(tactic| k_slotget) => `(tactic| first | assumption | rfl)
local macro_rules | `(tactic| walk_at "getAttr ref") => `(tactic| (k_here; k_dflt (refine' get_slotW ?k1 ?k2 ?k3 ?k4 ?k5 ?k6 ?k7 ?k8 ?k9 ?k10 ?k11 ?_; (case k1 => k_asm); (case k2 => k_asm); (case k3 => k_asm); (case k4 => k_mem); (case k5 => k_is); (case k6 => k_is); (case k7 => k_is); (case k8 => k_is); (case k9 => k_is); (case k10 => k_slotget); (case k11 => k_handed); k_whole)))
local macro_rules | `(tactic| walk_at "call builtin:len") => `(tactic| (k_here; (with_reducible show wpAny _ _ (call (Value.builtin _) [Value.str _ _]) _ _ _); k_dflt (refine' SC.len_str ?k1 ?_; (case k1 => assumption); k_whole)))
local macro_rules | `(tactic| walk_at "getMethod ref") => `(tactic| (k_here; (with_reducible show wpAny _ _ (getMethod (Value.ref _) (Str.ofString "match_core") _) _ _ _); k_dflt (refine' meth_core ?k1 ?k2 ?k3 ?k4 ?k5 ?_; (case k1 => k_asm); (case k2 => k_asm); (case k4 => k_inst); (case k3 => assumption); (case k5 => assumption); k_whole)))
local macro_rules | `(tactic| walk_at "call ref") => `(tactic| (k_here; (with_reducible show wpAny _ _ (call (Value.ref 266) _) _ _ _); refine Held.out ?_))
local macro_rules | `(tactic| walk_at "exec For Name Attribute cons nil") => `(tactic| (k_here; refine for_F ?_))
local macro_rules | `(tactic| walk_at "truthy ref") => `(tactic| (k_here; k_dflt (refine' truthyL ?k1 ?k2 ?k3 ?k4 ?_; (case k1 => k_asm); (case k2 => k_mem); (case k3 => first | assumption | (simp only [List.size_toArray, List.length_cons, List.length_nil]; decide) | (simp only [Array.size_push, List.size_toArray, List.length_cons, List.length_nil]; omega)); (case k4 => first | assumption | exact ne1 | exact ne0 | exact neP); k_whole); intro tk'))
local macro_rules | `(tactic| walk_at "call ref") => `(tactic| (k_here; (with_reducible show wpAny _ _ (call (Value.ref 508) _) _ _ _); k_dflt (refine' next_okU ?B ?F ?X ?T ?hk ?N ?U ?hscr ?hne ?hI ?hlen ?hu ?hlim ?hlim2 ?hd ?hun ?_; (case B => k_asm); (case F => k_asm); (case X => k_asm); (case T => k_asm); (case hk => rfl); (case N => k_asm); (case U => k_updF); (case hscr => k_mem); (case hne => k_ne); (case hI => assumption); (case hlen => assumption); (case hu => omega); (case hlim => omega); (case hlim2 => omega); (case hd => ktr_room); (case hun => ktr_units); k_whole); intro h' tk' t1' tr F' N'; (try dsimp only at N'); (try k_sweep)))
local macro_rules | `(tactic| walk_at "call ref") => `(tactic| (k_here; (with_reducible show wpAny _ _ (call (Value.ref 336) _ _) _ _ _); k_dflt (refine' make_lit ?B ?F ?X ?T ?hk ?N ?hd ?hun ?_; (case B => k_asm); (case F => k_asm); (case X => k_asm); (case T => k_asm); (case hk => rfl); (case N => k_asm); (case hd => ktr_room); (case hun => ktr_units); k_whole); intro x' dx' h' tk' Y' idt' F' N' hA'; (try k_sweep)))
local macro_rules | `(tactic| walk_at "call ref") => `(tactic| (k_here; (with_reducible show wpAny _ _ (call (Value.ref 394) _ _) _ _ _); k_dflt (refine' make_chain ?B ?F ?X ?T ?hk ?N ?hd ?hun ?_; (case B => k_asm); (case F => k_asm); (case X => k_asm); (case T => k_asm); (case hk => rfl); (case N => k_asm); (case hd => ktr_room); (case hun => ktr_units); k_whole); intro x' dx' h' tk' Y' idt' mem' F' N' hA' hmem'; (try k_sweep)))
local macro_rules | `(tactic| walk_at "call ref") => `(tactic| (k_here; (with_reducible show wpAny _ _ (call (Value.ref 420) _ _) _ _ _); k_dflt (refine' make_choice ?B ?F ?X ?T ?hk ?N ?hd ?hun ?_; (case B => k_asm); (case F => k_asm); (case X => k_asm); (case T => k_asm); (case hk => rfl); (case N => k_asm); (case hd => ktr_room); (case hun => ktr_units); k_whole); intro x' dx' h' tk' Y' idt' mem' F' N' hA' hmem'; (try k_sweep)))
local macro_rules | `(tactic| walk_at "call ref") => `(tactic| (k_here; (with_reducible show wpAny _ _ (call (Value.ref 458) _ _) _ _ _); k_dflt (refine' make_look ?B ?F ?X ?T ?hk ?N ?hd ?hun ?_; (case B => k_asm); (case F => k_asm); (case X => k_asm); (case T => k_asm); (case hk => rfl); (case N => k_asm); (case hd => ktr_room); (case hun => ktr_units); k_whole); intro x' dx' h' tk' Y' idt' mem' F' N' hA' hmem'; (try k_sweep)))
local macro_rules | `(tactic| walk_at "call ref") => `(tactic| (k_here; (with_reducible show wpAny _ _ (call (Value.ref 497) _ _) _ _ _); k_dflt (refine' make_many ?B ?F ?X ?T ?hk ?N ?hd ?hun ?_; (case B => k_asm); (case F => k_asm); (case X => k_asm); (case T => k_asm); (case hk => rfl); (case N => k_asm); (case hd => ktr_room); (case hun => ktr_units); k_whole); intro x' dx' h' tk' Y' idt' mem' mv' F' N' hA' hmem' hmx'; (try k_sweep)))
local macro_rules | `(tactic| walk_at "call ref") => `(tactic| (k_here; (with_reducible show wpAny _ _ (call (Value.ref 497) _ _) _ _ _); k_dflt (refine' make_manyM ?B ?F ?X ?T ?hk ?N ?hd ?hun ?_; (case B => k_asm); (case F => k_asm); (case X => k_asm); (case T => k_asm); (case hk => rfl); (case N => k_asm); (case hd => ktr_room); (case hun => ktr_units); k_whole); intro x' dx' h' tk' Y' idt' mem' mv' F' N' hA' hmem' hmx'; (try k_sweep)))
local macro_rules | `(tactic| walk_at "call ref") => `(tactic| (k_here; (with_reducible show wpAny _ _ (call (Value.ref 515) _) _ _ _); refine Held.out ?_))
theorem item_S {w : World} {A : Around} {E : Value → Shared → Prop} {s : Shared} {h₀ : Heap} {L : Addr} {news : Led} {value slice : Expr} {l : Addr} {vs : List Value} {ys : List Str} {ep : Nat} {k : Int} {u : Tok} {Q : Value → Shared → Prop} (N : News h₀ L s.heap news) (hm : (l, listObj vs ep) ∈ news) (hi : StrsAre vs ys)
    (hk : 0 ≤ k ∧ k < (ys.length : Int)) (hf : ys.length ≤ 1000) (h : ∀ t, Q (.str (ys.getD k.toNat Str.empty) t) s)
    (hs : subscripted slice false (.ref l) (.int k u) = operate [.ref l, .int k u] (getItem (.ref l) (.int k u)) := by with_unfolding_all rfl) :
    wpAny (model PR w) A (subscriptTail value slice (.ref l) (.int k u)) Q E s :=
  item_strsR (N.isList hm) hi hk.1 hk.2 (by omega) h hs
local macro_rules | `(tactic| walk_at "subscriptTail") => `(tactic| (k_here; (with_reducible show wpAny _ _ (subscriptTail _ _ (Value.ref _) (Value.int _ _)) _ _ _); k_dflt (refine' item_S (vs := [Value.str _ _, _, _, _, _, _]) ?k1 ?k2 ?k3 ?k4 ?k5 ?_ ?k6; (case k1 => k_asm); (case k2 => k_mem); (case k3 => repeat constructor); (case k4 => assumption); (case k5 => decide); (case k6 => with_unfolding_all rfl); k_whole); intro t'))
theorem words6 (n : Nat) : [Str.ofString "a", Str.ofString "b", Str.ofString "ab", Str.ofString "ba", Str.ofString "bb", Str.ofString ""].getD n Str.empty = ⟨(wordAt n).toArray⟩ := by
  match n with
  | 0 => rfl
  | 1 => rfl
  | 2 => rfl
  | 3 => rfl
  | 4 => rfl
  | 5 => rfl
  | n + 6 => rfl
/-- the cells of an expression just made -/
def dicts : Ex → Led
  | .word _ dx _ _ => [(dx, dictOf [] 0)]
  | .look _ dx _ _ _ e => (dx, dictOf [] 0) :: dicts e
  | .many _ dx _ _ _ _ e => (dx, dictOf [] 0) :: dicts e
  | .choice _ dx _ _ a b => (dx, dictOf [] 0) :: (dicts a ++ dicts b)
  | .chain _ dx _ _ a b => (dx, dictOf [] 0) :: (dicts a ++ dicts b)
def strL (l : List Nat) : Str := ⟨l.toArray⟩
def planD : PE → Dat
  | .word _ w => .tuple [.str (Str.ofString "word"), .str (strL w), .int 0, .int 0]
  | .look _ neg e => .tuple [.str (Str.ofString "look"), planD e, .bool neg, .int 0]
  | .many _ least most e => .tuple [.str (Str.ofString "many"), planD e, .int least, .int (mostI most)]
  | .choice _ a b => .tuple [.str (Str.ofString "choice"), planD a, planD b, .int 0]
  | .chain _ a b => .tuple [.str (Str.ofString "chain"), planD a, planD b, .int 0]
/-- what has grown lies apart -/
structure Grew (st : Addr) (Z D tl : Led) : Prop where
  nd : (D.map (·.1)).Nodup
  off : ∀ p ∈ D ++ tl, p.1 ≠ st ∧ ∀ q ∈ Z, q.1 ≠ p.1
  sep : ∀ p ∈ tl, ∀ q ∈ D, p.1 ≠ q.1
theorem Grew.nil {st : Addr} {Z : Led} : Grew st Z [] [] := ⟨List.nodup_nil, fun _ h => (nomatch h), fun _ h => (nomatch h)⟩
theorem Grew.comp {st : Addr} {Z D1 t1 D2 t2 : Led} (a : Grew st Z D1 t1) (b : Grew st (D1 ++ (t1 ++ Z)) D2 t2) : Grew st Z (D1 ++ D2) (t2 ++ t1) := by
  refine ⟨?_, ?_, ?_⟩
  · rw [List.map_append, List.nodup_append]
    refine ⟨a.nd, b.nd, ?_⟩
    rintro _ h1 _ h2 e
    obtain ⟨p, hp, rfl⟩ := List.mem_map.mp h1
    obtain ⟨q, hq, rfl⟩ := List.mem_map.mp h2
    exact (b.off q (List.mem_append_left _ hq)).2 p (List.mem_append_left _ hp) e
  · intro p hp
    simp only [List.mem_append] at hp
    rcases hp with (h | h) | h | h
    · exact a.off p (List.mem_append_left _ h)
    · exact ⟨(b.off p (List.mem_append_left _ h)).1, fun q hq => (b.off p (List.mem_append_left _ h)).2 q (List.mem_append_right _ (List.mem_append_right _ hq))⟩
    · exact ⟨(b.off p (List.mem_append_right _ h)).1, fun q hq => (b.off p (List.mem_append_right _ h)).2 q (List.mem_append_right _ (List.mem_append_right _ hq))⟩
    · exact a.off p (List.mem_append_right _ h)
  · intro p hp q hq
    rcases List.mem_append.mp hp with h | h <;> rcases List.mem_append.mp hq with k | k
    · exact Ne.symm ((b.off p (List.mem_append_right _ h)).2 q (List.mem_append_left _ k))
    · exact b.sep p h q k
    · exact a.sep p h q k
    · exact (b.off q (List.mem_append_left _ k)).2 p (List.mem_append_right _ (List.mem_append_left _ h))
theorem Grew.level {st x dx D2 : Addr} {Z D0 T0 X1 Y : Led} {S ox od o2 : Obj} (g : Grew st Z D0 T0) (h1 : Above X1 ((st, S) :: (D0 ++ (T0 ++ Z)))) (hm : Above ((x, ox) :: (dx, od) :: Y) (X1 ++ ((st, S) :: (D0 ++ (T0 ++ Z)))) ∧ dx ≠ x ∧ ∀ p ∈ Y, p.1 ≠ dx)
    (h2 : AllLt D2 ((x, ox) :: (dx, od) :: (Y ++ (X1 ++ ((st, S) :: (D0 ++ (T0 ++ Z))))))) : Grew st Z ((dx, od) :: D0) ((D2, o2) :: (x, ox) :: (Y ++ (X1 ++ T0))) := by
  have n1 : ∀ p ∈ X1, ∀ q ∈ (st, S) :: (D0 ++ (T0 ++ Z)), q.1 ≠ p.1 := fun p hp q hq => Nat.ne_of_lt (tb_ltOf (h1 p hp) q hq)
  have n2 : ∀ p ∈ (x, ox) :: (dx, od) :: Y, ∀ q ∈ X1 ++ ((st, S) :: (D0 ++ (T0 ++ Z))), q.1 ≠ p.1 := fun p hp q hq => Nat.ne_of_lt (tb_ltOf (hm.1 p hp) q hq)
  have n3 : ∀ q ∈ (x, ox) :: (dx, od) :: (Y ++ (X1 ++ ((st, S) :: (D0 ++ (T0 ++ Z))))), q.1 ≠ D2 := fun q hq => Nat.ne_of_lt (tb_ltOf h2 q hq)
  have ins : ∀ q, q ∈ (st, S) :: (D0 ++ (T0 ++ Z)) → q ∈ X1 ++ ((st, S) :: (D0 ++ (T0 ++ Z))) := fun q hq => List.mem_append_right _ hq
  have in3 : ∀ q, q ∈ X1 ++ ((st, S) :: (D0 ++ (T0 ++ Z))) → q ∈ (x, ox) :: (dx, od) :: (Y ++ (X1 ++ ((st, S) :: (D0 ++ (T0 ++ Z))))) := fun q hq => .tail _ (.tail _ (List.mem_append_right _ hq))
  have inZ : ∀ q ∈ Z, q ∈ (st, S) :: (D0 ++ (T0 ++ Z)) := fun q hq => .tail _ (List.mem_append_right _ (List.mem_append_right _ hq))
  have inD : ∀ q ∈ D0, q ∈ (st, S) :: (D0 ++ (T0 ++ Z)) := fun q hq => .tail _ (List.mem_append_left _ hq)
  refine ⟨?_, ?_, ?_⟩
  · simp only [List.map_cons, List.nodup_cons, List.mem_map, not_exists, not_and]
    exact ⟨fun q hq => n2 (dx, od) (by simp) q (ins q (inD q hq)), g.nd⟩
  · intro p hp
    simp only [List.mem_append, List.mem_cons] at hp
    rcases hp with (rfl | h) | rfl | rfl | h | h | h
    · exact ⟨fun e => n2 (dx, od) (by simp) (st, S) (ins _ (.head _)) e.symm, fun q hq => n2 (dx, od) (by simp) q (ins q (inZ q hq))⟩
    · exact g.off p (List.mem_append_left _ h)
    · exact ⟨fun e => n3 (st, S) (in3 _ (ins _ (.head _))) e.symm, fun q hq => n3 q (in3 q (ins q (inZ q hq)))⟩
    · exact ⟨fun e => n2 (x, ox) (by simp) (st, S) (ins _ (.head _)) e.symm, fun q hq => n2 (x, ox) (by simp) q (ins q (inZ q hq))⟩
    · exact ⟨fun e => n2 p (by simp [h]) (st, S) (ins _ (.head _)) e.symm, fun q hq => n2 p (by simp [h]) q (ins q (inZ q hq))⟩
    · exact ⟨fun e => n1 p h (st, S) (.head _) e.symm, fun q hq => n1 p h q (inZ q hq)⟩
    · exact g.off p (List.mem_append_right _ h)
  · intro p hp q hq
    simp only [List.mem_append, List.mem_cons] at hp hq
    rcases hp with rfl | rfl | h | h | h <;> rcases hq with rfl | k
    · exact Ne.symm (n3 (dx, od) (by simp))
    · exact Ne.symm (n3 q (in3 q (ins q (inD q k))))
    · exact Ne.symm hm.2.1
    · exact Ne.symm (n2 (x, ox) (by simp) q (ins q (inD q k)))
    · exact hm.2.2 p h
    · exact Ne.symm (n2 p (by simp [h]) q (ins q (inD q k)))
    · exact n2 (dx, od) (by simp) p (List.mem_append_left _ h)
    · exact Ne.symm (n1 p h q (inD q k))
    · exact n2 (dx, od) (by simp) p (ins p (.tail _ (List.mem_append_right _ (List.mem_append_left _ h))))
    · exact g.sep p h q k
theorem News.level {h₀ h : Heap} {L st x dx D2 : Addr} {Z D0 T0 X1 Y : Led} {S ox od o2 : Obj} (N : News h₀ L h ((D2, o2) :: (x, ox) :: (dx, od) :: (Y ++ (X1 ++ ((st, S) :: (D0 ++ (T0 ++ Z))))))) :
    News h₀ L h ((st, S) :: (((dx, od) :: D0) ++ (((D2, o2) :: (x, ox) :: (Y ++ (X1 ++ T0))) ++ Z))) := fun q hq => N q (by
  simp only [List.mem_cons, List.mem_append, List.cons_append] at hq ⊢
  rcases hq with h | h | h | h | h | (h | h | h) | h <;> simp only [h, true_or, or_true])
def GrownOK (w : World) (ns : List Int) (deep : Nat) : Prop :=
  ∀ (dp un : Nat) (gd : Option (List Code)) (cn : Str) (cs : Scope) (a : Addr) (ccd : Value) (cl : List (Str × Addr)) (outer : List Env) (A₀ : Around) (base h₀ : Heap) (L : Addr) (m : Str → Option Value) (s : Shared)
    (loose : List Str) (mean : ExcName → Option Value) (mg mb : Str → Option Value) (Q E : Value → Shared → Prop) (st scr : Addr) (vs : List Value) (used names : Nat) (t1 t2 tk : Tok) (ep ek : Nat) (Z : Led),
    Below A₀ base outer h₀ → Fr h₀ L s.heap m → (hd.heap_39 w.params).In h₀ → Top topProg loose mean mg mb h₀ → cs.kind = .function →
    News h₀ L s.heap ((st, stObj scr used names t1 t2 ep) :: Z) → (scr, listObj vs ek) ∈ Z → scr ≠ st → IntsAre vs ns → ns.length ≤ 60 → used + 5 * 2 ^ deep ≤ 1000 → names + 2 ^ (deep + 1) ≤ 100 → (∀ p ∈ Z, p.1 ≠ st) →
    dp + 4 * deep + 8 < recursionLimit → un + 60 * deep + 100 < cLine →
    (∀ D h' tk' t1' t2' tl e pv, Fr h₀ L h' m → News h₀ L h' ((st, stObj scr (grown ns deep used names).2.1 (grown ns deep used names).2.2 t1' t2' ep) :: (dicts e ++ (tl ++ Z))) → e.pe = (grown ns deep used names).1 → ExIn tl e → DatIn tl pv (planD (grown ns deep used names).1) → (D, tupObj [pv, .ref e.x]) ∈ tl →
      Grew st Z (dicts e) tl → Q (.ref D) { s with heap := h', toks := tk' }) →
    wpAny (model PR w) (ktrTop dp un gd cn cs L a ccd cl outer) (call (.ref 515) [.ref st, .int deep tk]) Q E s
theorem wordAt_len (n : Nat) : (strL (wordAt n)).cps.size ≤ 2 := by
  match n with
  | 0 => decide
  | 1 => decide
  | 2 => decide
  | 3 => decide
  | 4 => decide
  | n + 5 => exact Nat.zero_le _
theorem grown_zero {w : World} {ns : List Int} : GrownOK w ns 0 := by
  intro dp un gd cn cs a ccd cl outer A₀ base h₀ L m s loose mean mg mb Q E st scr vs used names t1 t2 tk ep ek Z B F X Tp hk N hscr hne hI hlen hu hnm hoff hd hun ret
  refine wpAny_call ?_
  k_dflt ktr_enter
  have hr6 := drawn_range ns (used + 1) (lim := 6) (by decide)
  k_steps
  rename Fr h₀ L _ m => kF
  rename News h₀ L _ _ => kN
  rename Above _ _ ∧ _ => hA
  rename _ ∧ _ ∧ AllLt _ (_ ++ _) => h2
  rename _ ∧ _ ∧ AllLt _ Z => hD1
  rename _ ∧ AllLt _ Z => hl
  simp only [words6] at kN hA h2
  refine' ret _ _ _ _ _ _ (.word ?x _ (names + 1) (strL (wordAt (draw ns (used + 1) 6)))) (.ref ?pv) kF (News.level (D0 := []) (T0 := []) (X1 := [_, _]) kN) rfl ?e1 ?e2 ?e3 (Grew.level (D0 := []) (T0 := []) (X1 := [_, _]) Grew.nil ?e4 hA h2)
  case e3 => exact .head _
  case e4 => exact Above.two hl hD1.1
  case e1 => exact ⟨_, _, _, .tail _ (.head _), wordAt_len _, by omega⟩
  case e2 => exact DatIn.tuple (.tail _ (.tail _ (List.mem_append_right _ (.head _)))) (.cons (.str _ _) (.cons (.str _ _) (.cons (.int _ _) (.cons (.int _ _) .nil))))
end Mine
namespace Mine
local macro_rules | `(tactic| walk_at "zz") => `(tactic| fail)
local macro_rules | `(tactic| walk_at "zz") => `(tactic| fail)
local macro_rules | `(tactic| walk_at "zz") => `(tactic| fail)
local macro_rules | `(tactic| walk_at "zz") => `(tactic| fail)
local macro_rules | `(tactic| walk_at "zz") => `(tactic| fail)
local macro_rules | `(tactic| walk_at "zz") => `(tactic| fail)
local macro_rules | `(tactic| walk_at "zz") => `(tactic| fail)
local macro_rules | `(tactic| walk_at "zz") => `(tactic| fail)
local macro_rules | `(tactic| walk_at "zz") => `(tactic| fail)
local macro_rules | `(tactic| walk_at "zz") => `(tactic| fail)
local macro_rules | `(tactic| walk_at "zz") => `(tactic| fail)
local macro_rules | `(tactic| walk_at "zz") => `(tactic| fail)
local macro_rules | `(tactic| walk_at "zz") => `(tactic| fail)
local macro_rules | `(tactic| walk_at "zz") => `(tactic| fail)
local macro_rules | `(tactic| walk_at "zz") => `(tactic| fail)
local macro_rules | `(tactic| walk_at "zz") => `(tactic| fail)
local macro_rules | `(tactic| walk_at "zz") => `(tactic| fail)
local macro_rules | `(tactic| walk_at "zz") => `(tactic| fail)
local macro_rules | `(tactic| walk_at "zz") => `(tactic| fail)
local macro_rules | `(tactic| walk_at "zz") => `(tactic| fail)
local macro_rules | `(tactic| walk_at "zz") => `(tactic| fail)
local macro_rules | `(tactic| walk_at "zz") => `(tactic| fail)
local macro_rules | `(tactic| walk_at "zz") => `(tactic| fail)
local macro_rules | `(tactic| walk_at "zz") => `(tactic| fail)
local macro_rules | `(tactic| walk_at "zz") => `(tactic| fail)
local macro_rules | `(tactic| walk_at "zz") => `(tactic| fail)
local macro_rules | `(tactic| walk_at "zz") => `(tactic| fail)
local macro_rules | `(tactic| walk_at "zz") => `(tactic| fail)
local macro_rules | `(tactic| walk_at "zz") => `(tactic| fail)
local macro_rules | `(tactic| walk_at "zz") => `(tactic| fail)
local macro_rules | `(tactic| walk_at "zz") => `(tactic| fail)
local macro_rules | `(tactic| walk_at "zz") => `(tactic| fail)
local macro_rules | `(tactic| walk_at "zz") => `(tactic| fail)
local macro_rules | `(tactic| walk_at "zz") => `(tactic| fail)
local macro_rules | `(tactic| walk_at "zz") => `(tactic| fail)
local macro_rules | `(tactic| walk_at "zz") => `(tactic| fail)
local macro_rules | `(tactic| walk_at "zz") => `(tactic| fail)
local macro_rules | `(tactic| walk_at "zz") => `(tactic| fail)
local macro_rules | `(tactic| walk_at "zz") => `(tactic| fail)
theorem rs_A_gs : True := by w_top off; trivial
local macro_rules | `(tactic| k_all) => `(tactic| assumption)
local macro_rules | `(tactic| k_ne) => `(tactic| first | assumption | exact Ne.symm (by assumption) | exact Nat.ne_of_lt (by assumption) | exact Nat.ne_of_gt (by assumption))
local macro_rules | `(tactic| k_room) => `(tactic| ktr_room)
local macro_rules | `(tactic| walk_at "call builtin:getattr") => `(tactic| (k_here; (with_reducible show wpAny _ _ (call (Value.builtin _) [_, Value.str _ _, _]) _ _ _); k_dflt (first
  | (refine' ga3_own ?k1 ?k2 ?k3 ?k4 ?k5 ?k6 ?k7 ?k8 ?k9 ?k10 ?k11 ?_; (case k1 => k_asm); (case k2 => k_asm); (case k3 => k_inst); (case k4 => k_is); (case k5 => k_is); (case k6 => k_is); (case k7 => k_is); (case k8 => k_get); (case k9 => k_handed); (case k10 => decide +kernel); (case k11 => k_is); k_whole)
  | (refine' ga3_miss ?k1 ?k2 ?k3 ?k4 ?k5 ?k6 ?k7 ?k8 ?k9 ?k10 ?k11 ?k12 ?k13 ?_; (case k1 => k_asm); (case k2 => k_asm); (case k3 => k_asm); (case k4 => k_inst); (case k5 => k_is); (case k6 => k_is); (case k7 => k_is); (case k8 => decide +kernel); (case k9 => k_get); (case k10 => decide +kernel); (case k11 => k_is); (case k12 => exact rfl); (case k13 => (first | (refine' MsgOk.of ?q1 ?q2 ?q3; (case q1 => k_is); (case q2 => decide +kernel); (case q3 => decide +kernel)) | (rename IsEx _ => h5; rcases h5 with e5 | e5 | e5 | e5 | e5 <;> subst e5 <;> (refine' MsgOk.of ?q1 ?q2 ?q3; (case q1 => k_is); (case q2 => decide +kernel); (case q3 => decide +kernel))))); k_whole; intro h' tk' F' N'; (try k_sweep)))))
local macro_rules | `(tactic| k_upd) => `(tactic| first | (refine' Off.head ?a; (case a => k_all)) | (refine' Off.tail ?a ?b; (case a => k_ne); (case b => k_upd)))
local macro_rules | `(tactic| walk_at "pyIter ref") => `(tactic| (k_here; (with_reducible show wpAny _ _ (pyIter (Value.ref _)) (fun it s₂ => codeAny _ _ (Code.forLoop _ it _ _ _) _ s₂) _ _); k_dflt (refine' tup_iter ?k1 ?k2 ?k3 ?_; (case k1 => k_asm); (case k2 => k_asm); (case k3 => exact News.isTup (by k_asm) (by k_mem)); k_whole); intro I' h' o' F' N' x' l1 l2; (try k_lt l1); (try k_lt2 l2); (try k_sweep)))
local macro_rules | `(tactic| walk_at "codeAny forLoop") => `(tactic| (k_here; (with_reducible show codeAny _ _ (Code.forLoop _ (Value.ref _) _ _ _) (okR _) _); k_dflt (first
  | (refine' tup_last ?k1 ?k2 ?k3 ?k4 ?k5 ?k6 ?k7 ?_; (case k1 => k_asm); (case k4 => assumption); (case k2 => k_asm); (case k3 => k_upd); (case k5 => exact News.isTup (by k_asm) (by k_mem)); (case k6 => exact rfl); (case k7 => exact rfl); k_whole; intro h' F' N'; (try k_sweep))
  | (refine' tup_turn ?k1 ?k2 ?k3 ?k4 ?k5 ?k6 ?k7 ?_; (case k1 => k_asm); (case k4 => assumption); (case k2 => k_asm); (case k3 => k_updF); (case k5 => exact News.isTup (by k_asm) (by k_mem)); (case k6 => first | exact get2_0 | exact get2_1 | exact rfl); (case k7 => k_ne); k_whole; intro h' o' F' N' x' T'; (try k_sweep)))))
local macro_rules | `(tactic| walk_at "call builtin:len") => `(tactic| (k_here; (with_reducible show wpAny _ _ (call (Value.builtin _) [Value.ref _]) _ _ _); k_dflt (refine' d_len (knd := intKind _ _) ?k1 ?k2 ?k3 ?k4 ?k5 ?k6 ?_; (case k1 => k_asm); (case k2 => k_mem); (case k3 => assumption); (case k4 => assumption); (case k5 => first | exact rowsK_length _ | rfl); (case k6 => (first | omega | (simp only [List.length_append, List.length_cons, List.length_nil]; omega))); k_whole; intro tk')))
local macro_rules | `(tactic| walk_at "getMethod ref") => `(tactic| (k_here; (with_reducible show wpAny _ _ (getMethod (Value.ref _) (Str.ofString "get") _) _ _ _); k_dflt (refine' d_meth (knd := intKind _ _) ?k1 ?k2 ?k3 PySem.F.slot_dict_get PySem.F.type_dict_get ?_; (case k1 => k_asm); (case k2 => k_mem); (case k3 => assumption); k_whole)))
local macro_rules | `(tactic| walk_at "call builtin:dict.get") => `(tactic| (k_here; (with_reducible show wpAny _ _ (call (Value.builtin _) [Value.ref _, Value.int _ _]) _ _ _); k_dflt (refine' d_get (knd := intKind _ _) ?k1 ?k2 ?k3 ?k4 (intKind_is _ _ _ _) ?_; (case k1 => k_asm); (case k2 => k_mem); (case k3 => assumption); (case k4 => assumption); k_whole)))
local macro_rules | `(tactic| walk_at "compareOp In int ref") => `(tactic| (k_here; k_dflt (refine' d_in (knd := intKind _ _) ?k1 ?k2 ?k3 ?k4 (intKind_is _ _ _ _) ?_; (case k1 => k_asm); (case k2 => k_mem); (case k3 => assumption); (case k4 => assumption); k_whole)))
local macro_rules | `(tactic| walk_at "subscriptTail") => `(tactic| (k_here; (with_reducible show wpAny _ _ (subscriptTail _ _ (Value.ref _) (Value.int _ _)) _ _ _); k_dflt (refine' d_item (knd := intKind _ _) ?k1 ?k2 ?k3 (intKind_is _ _ _ _) ?k5 ?_; (case k1 => k_asm); (case k2 => k_mem); (case k3 => assumption); (case k5 => assumption); k_whole)))
local macro_rules | `(tactic| walk_at "setItem ref int") => `(tactic| (k_here; k_dflt (refine' d_set (knd := intKind _ _) ?k1 ?k2 ?k3 ?k4 (intKind_is _ _ _ _) ?k6 ?_; (case k1 => k_asm); (case k2 => k_asm); (case k3 => k_updF); (case k4 => assumption); (case k6 => (rw [sizeLine_eq]; (first | omega | (simp only [rowsK_length, rowK_length, List.length_map, List.length_append, List.length_cons, List.length_nil]; omega)))); k_whole); intro h' o' F' N' hd'; (try dsimp only at N'); (try simp only [rowsK_length, stored_rows] at hd'); (try k_sweep)))
local macro_rules | `(tactic| k_all) => `(tactic| first | assumption | (refine List.forall_mem_append.mpr ⟨?_, ?_⟩ <;> k_all) | (exact tbn_neAll (by first | assumption | tbn_find)) | (exact tbn_neAll (tbn_up (by assumption) (by tbn_find))))
local macro_rules | `(tactic| k_mem) => `(tactic| ((with_reducible show List.Mem _ _); first | (show (_ : Addr × Obj) ∈ (_ : List (Addr × Obj)); ktr_member) | ((with_reducible show List.Mem _ (_ ++ _)); first | (refine' List.mem_append_left _ ?q; (case q => k_mem)) | (refine' List.mem_append_right _ ?q; (case q => k_mem)))))
local macro_rules | `(tactic| k_put) => `(tactic| first | exact putL_nil _ _ _ _ _ | exact putL_one _ _ _ _ _ _ _ _)
local macro_rules | `(tactic| walk_at "eval Name") => `(tactic| (k_here; k_dflt (refine' nameX_L ?F ?v ?_ ?a ?b; (case F => k_asm); (case a => rfl); (case b => rfl); (case v => assumption); k_whole)))
local macro_rules | `(tactic| k_put) => `(tactic| first | exact putL_nil _ _ _ _ _ | exact putL_one _ _ _ _ _ _ _ _ | exact putL_err_pos | exact putL_err_expr)
local macro_rules | `(tactic| walk_at "getAttr ref") => `(tactic| (k_here; k_dflt (refine' exc_getD ?k1 ?k2 ?k3 ?k4 ?k5 ?k6 ?k7 ?k8 ?k9 ?k10 ?k11 ?_; (case k1 => k_asm); (case k2 => k_asm); (case k3 => (refine' InstAt.of_newsF ?N ?h1 ?h2; (case N => k_asm); (case h1 => k_mem); (case h2 => k_mem))); (case k4 => k_is); (case k5 => k_is); (case k6 => k_is); (case k7 => k_is); (case k8 => k_is); (case k9 => k_is); (case k10 => k_get); (case k11 => k_handed); k_whole)))
local macro_rules | `(tactic| walk_at "setAttr ref") => `(tactic| (k_here; k_dflt (refine' exc_set ?k1 ?k2 ?k3 ?k4 ?k5 ?k6 ?k7 ?k8 ?k9 ?k10 ?k11 ?k12 ?k13 ?_; (case k1 => k_asm); (case k2 => k_asm); (case k3 => k_asm); (case k4 => (refine' InstAt.of_newsF ?N ?h1 ?h2; (case N => k_asm); (case h1 => k_mem); (case h2 => k_mem))); (case k5 => exact rfl); (case k6 => k_is); (case k7 => kernel_rfl); (case k8 => k_is); (case k9 => k_is); (case k10 => k_get); (case k11 => k_put); (case k12 => k_upd); (case k13 => exact Nat.le_of_ble_eq_true rfl); k_whole; intro h' F' N'; (try k_sweep))))
local macro_rules | `(tactic| k_slotget) => `(tactic| first | assumption | rfl)
local macro_rules | `(tactic| walk_at "getAttr ref") => `(tactic| (k_here; k_dflt (refine' get_slotW ?k1 ?k2 ?k3 ?k4 ?k5 ?k6 ?k7 ?k8 ?k9 ?k10 ?k11 ?_; (case k1 => k_asm); (case k2 => k_asm); (case k3 => k_asm); (case k4 => k_mem); (case k5 => k_is); (case k6 => k_is); (case k7 => k_is); (case k8 => k_is); (case k9 => k_is); (case k10 => k_slotget); (case k11 => k_handed); k_whole)))
local macro_rules | `(tactic| walk_at "call builtin:len") => `(tactic| (k_here; (with_reducible show wpAny _ _ (call (Value.builtin _) [Value.str _ _]) _ _ _); k_dflt (refine' SC.len_str ?k1 ?_; (case k1 => assumption); k_whole)))
local macro_rules | `(tactic| walk_at "getMethod ref") => `(tactic| (k_here; (with_reducible show wpAny _ _ (getMethod (Value.ref _) (Str.ofString "match_core") _) _ _ _); k_dflt (refine' meth_core ?k1 ?k2 ?k3 ?k4 ?k5 ?_; (case k1 => k_asm); (case k2 => k_asm); (case k4 => k_inst); (case k3 => assumption); (case k5 => assumption); k_whole)))
local macro_rules | `(tactic| walk_at "call ref") => `(tactic| (k_here; (with_reducible show wpAny _ _ (call (Value.ref 266) _) _ _ _); refine Held.out ?_))
local macro_rules | `(tactic| walk_at "exec For Name Attribute cons nil") => `(tactic| (k_here; refine for_F ?_))
local macro_rules | `(tactic| walk_at "truthy ref") => `(tactic| (k_here; k_dflt (refine' truthyL ?k1 ?k2 ?k3 ?k4 ?_; (case k1 => k_asm); (case k2 => k_mem); (case k3 => first | assumption | (simp only [List.size_toArray, List.length_cons, List.length_nil]; decide) | (simp only [Array.size_push, List.size_toArray, List.length_cons, List.length_nil]; omega)); (case k4 => first | assumption | exact ne1 | exact ne0 | exact neP); k_whole); intro tk'))
local macro_rules | `(tactic| walk_at "call ref") => `(tactic| (k_here; (with_reducible show wpAny _ _ (call (Value.ref 508) _) _ _ _); k_dflt (refine' next_okU ?B ?F ?X ?T ?hk ?N ?U ?hscr ?hne ?hI ?hlen ?hu ?hlim ?hlim2 ?hd ?hun ?_; (case B => k_asm); (case F => k_asm); (case X => k_asm); (case T => k_asm); (case hk => rfl); (case N => k_asm); (case U => k_updF); (case hscr => k_mem); (case hne => k_ne); (case hI => assumption); (case hlen => assumption); (case hu => omega); (case hlim => omega); (case hlim2 => omega); (case hd => ktr_room); (case hun => ktr_units); k_whole); intro h' tk' t1' tr F' N'; (try dsimp only at N'); (try k_sweep)))
local macro_rules | `(tactic| walk_at "call ref") => `(tactic| (k_here; (with_reducible show wpAny _ _ (call (Value.ref 336) _ _) _ _ _); k_dflt (refine' make_lit ?B ?F ?X ?T ?hk ?N ?hd ?hun ?_; (case B => k_asm); (case F => k_asm); (case X => k_asm); (case T => k_asm); (case hk => rfl); (case N => k_asm); (case hd => ktr_room); (case hun => ktr_units); k_whole); intro x' dx' h' tk' Y' idt' F' N' hA'; (try k_sweep)))
local macro_rules | `(tactic| walk_at "call ref") => `(tactic| (k_here; (with_reducible show wpAny _ _ (call (Value.ref 394) _ _) _ _ _); k_dflt (refine' make_chain ?B ?F ?X ?T ?hk ?N ?hd ?hun ?_; (case B => k_asm); (case F => k_asm); (case X => k_asm); (case T => k_asm); (case hk => rfl); (case N => k_asm); (case hd => ktr_room); (case hun => ktr_units); k_whole); intro x' dx' h' tk' Y' idt' mem' F' N' hA' hmem'; (try k_sweep)))
local macro_rules | `(tactic| walk_at "call ref") => `(tactic| (k_here; (with_reducible show wpAny _ _ (call (Value.ref 420) _ _) _ _ _); k_dflt (refine' make_choice ?B ?F ?X ?T ?hk ?N ?hd ?hun ?_; (case B => k_asm); (case F => k_asm); (case X => k_asm); (case T => k_asm); (case hk => rfl); (case N => k_asm); (case hd => ktr_room); (case hun => ktr_units); k_whole); intro x' dx' h' tk' Y' idt' mem' F' N' hA' hmem'; (try k_sweep)))
local macro_rules | `(tactic| walk_at "call ref") => `(tactic| (k_here; (with_reducible show wpAny _ _ (call (Value.ref 458) _ _) _ _ _); k_dflt (refine' make_look ?B ?F ?X ?T ?hk ?N ?hd ?hun ?_; (case B => k_asm); (case F => k_asm); (case X => k_asm); (case T => k_asm); (case hk => rfl); (case N => k_asm); (case hd => ktr_room); (case hun => ktr_units); k_whole); intro x' dx' h' tk' Y' idt' mem' F' N' hA' hmem'; (try k_sweep)))
local macro_rules | `(tactic| walk_at "call ref") => `(tactic| (k_here; (with_reducible show wpAny _ _ (call (Value.ref 497) _ _) _ _ _); k_dflt (refine' make_many ?B ?F ?X ?T ?hk ?N ?hd ?hun ?_; (case B => k_asm); (case F => k_asm); (case X => k_asm); (case T => k_asm); (case hk => rfl); (case N => k_asm); (case hd => ktr_room); (case hun => ktr_units); k_whole); intro x' dx' h' tk' Y' idt' mem' mv' F' N' hA' hmem' hmx'; (try k_sweep)))
local macro_rules | `(tactic| walk_at "call ref") => `(tactic| (k_here; (with_reducible show wpAny _ _ (call (Value.ref 497) _ _) _ _ _); k_dflt (refine' make_manyM ?B ?F ?X ?T ?hk ?N ?hd ?hun ?_; (case B => k_asm); (case F => k_asm); (case X => k_asm); (case T => k_asm); (case hk => rfl); (case N => k_asm); (case hd => ktr_room); (case hun => ktr_units); k_whole); intro x' dx' h' tk' Y' idt' mem' mv' F' N' hA' hmem' hmx'; (try k_sweep)))
local macro_rules | `(tactic| walk_at "call ref") => `(tactic| (k_here; (with_reducible show wpAny _ _ (call (Value.ref 515) _) _ _ _); refine Held.out ?_))
local macro_rules | `(tactic| walk_at "subscriptTail") => `(tactic| (k_here; (with_reducible show wpAny _ _ (subscriptTail _ _ (Value.ref _) (Value.int _ _)) _ _ _); k_dflt (refine' item_S (vs := [Value.str _ _, _, _, _, _, _]) ?k1 ?k2 ?k3 ?k4 ?k5 ?_ ?k6; (case k1 => k_asm); (case k2 => k_mem); (case k3 => repeat constructor); (case k4 => assumption); (case k5 => decide); (case k6 => with_unfolding_all rfl); k_whole); intro t'))
theorem grown_succ {w : World} {ns : List Int} {d : Nat} (ih : GrownOK w ns d) : GrownOK w ns (d + 1) := by
  intro dp un gd cn cs a ccd cl outer A₀ base h₀ L m s loose mean mg mb Q E st scr vs used names t1 t2 tk ep ep0 Z B F X Tp hk N hscr hne hI hlen hu hnm hoff hd hun ret
  have e1 : 2 ^ (d + 1) = 2 * 2 ^ d := by rw [Nat.pow_succ]; omega
  have e2 : 2 ^ (d + 1 + 1) = 2 * 2 ^ (d + 1) := by rw [Nat.pow_succ]; omega
  have e3 : 1 ≤ 2 ^ d := Nat.one_le_two_pow
  obtain ⟨pe, pl⟩ := draw_eq ns used (lim := 8) (by decide)
  replace pe : drawn ns used 8 = (draw ns used 8 : Int) := pe
  have hd0 : (((d + 1 : Nat) : Int) == 0) = false := by simp; omega
  by_cases h2 : draw ns used 8 < 2
  · have hp2 : drawn ns used 8 < 2 := by omega
    have hg : grown ns (d + 1) used names = (.word (names + 1) (wordAt (draw ns (used + 1) 6)), used + 2, names + 1) := by simp [grown, h2]
    rw [hg] at ret
    refine wpAny_call ?_
    k_dflt ktr_enter
    have hr6 := drawn_range ns (used + 1) (lim := 6) (by decide)
    k_steps
    rename Fr h₀ L _ m => kF
    rename News h₀ L _ _ => kN
    rename Above _ _ ∧ _ => hA
    rename _ ∧ _ ∧ AllLt _ (_ ++ _) => h2
    rename _ ∧ _ ∧ AllLt _ Z => hD1
    rename _ ∧ AllLt _ Z => hl
    simp only [words6] at kN hA h2
    refine' ret _ _ _ _ _ _ (.word ?x _ (names + 1) (strL (wordAt (draw ns (used + 1) 6)))) (.ref ?pv) kF (News.level (D0 := []) (T0 := []) (X1 := [_, _]) kN) rfl ?e1 ?e2 ?e3 (Grew.level (D0 := []) (T0 := []) (X1 := [_, _]) Grew.nil ?e4 hA h2)
    case e3 => exact .head _
    case e4 => exact Above.two hl hD1.1
    case e1 => exact ⟨_, _, _, .tail _ (.head _), wordAt_len _, by omega⟩
    case e2 => exact DatIn.tuple (.tail _ (.tail _ (List.mem_append_right _ (.head _)))) (.cons (.str _ _) (.cons (.str _ _) (.cons (.int _ _) (.cons (.int _ _) .nil))))
  · have hp2 : ¬ drawn ns used 8 < 2 := by omega
    have ez : (((d + 1 : Nat) : Int) - 1) = (d : Int) := by omega
    refine wpAny_call ?_
    k_dflt ktr_enter
    k_steps
    unfold Held
    rename Fr _ _ _ (fun _ => _) => F1
    rename News _ _ _ _ => N1
    rename Below _ _ _ _ => B1
    rename Frag.In _ _ => X1
    rename Top _ _ _ _ _ _ => T1
    rw [ez]
    refine ih _ _ _ _ _ _ _ _ _ _ _ _ _ _ _ _ _ _ _ _ _ st scr vs (used + 1) (names + 1) _ _ _ _ _ Z B1 F1 X1 T1 rfl N1 hscr hne hI hlen ?_ ?_ hoff ?_ ?_ ?_
    · omega
    · omega
    · show dp + 1 + _ + _ < _; omega
    · show un + 3 + _ + _ < _; omega
    · intro D1 h3 tk3 t13 t23 tl3 e3 pv3 F3 N3 hpe3 hEx3 hpl3 hD3 hG3
      simp only [grown, h2, if_false] at ret
      have hbd := grown_bounds ns d (used + 1) (names + 1)
      generalize grown ns d (used + 1) (names + 1) = G at *
      obtain ⟨G1, G2, G3⟩ := G
      simp only [] at ret hpe3 hpl3 hbd N3
      obtain ⟨hb1, hb2, hb3, hb4⟩ := hbd
      have hscr3 : (scr, listObj vs ep0) ∈ tl3 ++ Z := List.mem_append_right tl3 hscr
      have hD13 : (D1, tupObj [pv3, .ref e3.x]) ∈ tl3 ++ Z := List.mem_append_left Z hD3
      have ho1 : ∀ p ∈ dicts e3, p.1 ≠ st := fun p hp => (hG3.off p (List.mem_append_left _ hp)).1
      have ho2 : ∀ p ∈ tl3, p.1 ≠ st := fun p hp => (hG3.off p (List.mem_append_right _ hp)).1
      have hpv := hpl3.handed
      clear N1 F1 N
      by_cases h4 : draw ns used 8 < 4
      · have hp4 : drawn ns used 8 < 4 := by omega
        simp only [h4, if_true] at ret
        k_steps
        rename Fr h₀ L _ m => kF
        rename News h₀ L _ _ => kN
        rename Above _ _ ∧ _ => hA
        rename _ ∧ AllLt _ (_ ++ _) => hD2
        rename _ ∧ _ ∧ AllLt _ (_ ++ _) => h6
        have eb : (drawn ns used 8 == 3) = (draw ns used 8 == 3) := by rw [pe, Bool.eq_iff_iff]; simp only [beq_iff_eq]; omega
        rw [eb] at kN hA h6
        refine' ret _ _ _ _ _ _ (.look ?x2 _ ?mem2 (names + 1) (draw ns used 8 == 3) e3) (.ref ?pv2) kF (News.level (D0 := dicts e3) (T0 := tl3) (X1 := [_]) kN) ?a0 ?a1 ?a2 ?a3 (Grew.level (D0 := dicts e3) (T0 := tl3) (X1 := [_]) hG3 ?a4 hA ?a5)
        case a3 => exact .head _
        case a4 => intro p hp; rw [List.mem_singleton.mp hp]; exact hD2
        case a5 => exact h6
        case a0 => show PE.look _ _ e3.pe = _; rw [hpe3]
        case a1 => exact ⟨⟨_, _, .tail _ (.head _)⟩, .tail _ (.tail _ (List.mem_append_left _ (by assumption))), ExIn.mono (fun p hp _ => .tail _ (.tail _ (List.mem_append_right _ (List.mem_append_right _ hp)))) hEx3, by omega⟩
        case a2 => exact DatIn.tuple (.tail _ (.tail _ (List.mem_append_right _ (.head _)))) (.cons (.str _ _) (.cons (DatIn.mono (fun p hp => .tail _ (.tail _ (List.mem_append_right _ (List.mem_append_right _ hp)))) hpl3) (.cons (.bool _) (.cons (.int _ _) .nil))))
      · have hp4 : ¬ drawn ns used 8 < 4 := by omega
        simp only [h4, if_false] at ret
        have hu2 : G2 + 1 ≤ 1000 := by omega
        by_cases h44 : draw ns used 8 = 4
        · have hp44 : (drawn ns used 8 == 4) = true := by rw [pe, h44]; rfl
          simp only [h44, if_true] at ret
          have hr3 := drawn_range ns (G2 + 1) (lim := 3) (by decide)
          k_steps
          · rename Fr h₀ L _ m => kF
            rename News h₀ L _ _ => kN
            rename Above _ _ ∧ _ => hA
            rename _ ∧ _ ∧ AllLt _ (_ ++ (_ :: _)) => h6
            rename List.getD _ _ _ < 0 => hneg
            obtain ⟨pe3, pl3⟩ := draw_eq ns G2 (lim := 3) (by decide)
            obtain ⟨pe4, pl4⟩ := draw_eq ns (G2 + 1) (lim := 3) (by decide)
            replace pe3 : drawn ns G2 3 = (draw ns G2 3 : Int) := pe3
            have hmv : ([-1, 1, 2] : List Int).getD (drawn ns (G2 + 1) 3).toNat 0 = mostI (mostAt (draw ns (G2 + 1) 3)) := most_val pl4
            have hmn : mostAt (draw ns (G2 + 1) 3) = none := most_none pl4 hneg
            rw [pe3, hmv] at kN hA h6
            refine' ret _ _ _ _ _ _ (.many ?x3 _ ?mem3 (names + 1) (draw ns G2 3) (mostAt (draw ns (G2 + 1) 3)) e3) (.ref ?pv3) kF (News.level (D0 := dicts e3) (T0 := tl3) (X1 := [_, _]) kN) ?b0 ?b1 ?b2 ?b3 (Grew.level (D0 := dicts e3) (T0 := tl3) (X1 := [_, _]) hG3 ?b4 hA ?b5)
            case b3 => exact .head _
            case b4 => exact Above.two (by assumption) (And.left (b := _ ∧ AllLt _ (dicts e3 ++ (tl3 ++ Z))) (by assumption))
            case b5 => exact h6
            case b0 => show PE.many _ _ _ e3.pe = _; rw [hpe3]
            case b1 => exact ⟨⟨_, _, _, _, .tail _ (.head _), by rw [hmn]; assumption⟩, .tail _ (.tail _ (List.mem_append_left _ (by assumption))), ExIn.mono (fun p hp _ => .tail _ (.tail _ (List.mem_append_right _ (List.mem_append_right _ hp)))) hEx3, by omega, by omega⟩
            case b2 => exact DatIn.tuple (.tail _ (.tail _ (List.mem_append_right _ (.head _)))) (.cons (.str _ _) (.cons (DatIn.mono (fun p hp => .tail _ (.tail _ (List.mem_append_right _ (List.mem_append_right _ hp)))) hpl3) (.cons (.int _ _) (.cons (.int _ _) .nil))))
          · rename Fr h₀ L _ m => kF
            rename News h₀ L _ _ => kN
            rename Above _ _ ∧ _ => hA
            rename _ ∧ _ ∧ AllLt _ (_ ++ (_ :: _)) => h6
            rename ¬ (List.getD _ _ _ < 0) => hneg
            obtain ⟨pe3, pl3⟩ := draw_eq ns G2 (lim := 3) (by decide)
            obtain ⟨pe4, pl4⟩ := draw_eq ns (G2 + 1) (lim := 3) (by decide)
            replace pe3 : drawn ns G2 3 = (draw ns G2 3 : Int) := pe3
            obtain ⟨kM, hmn, hmk⟩ := most_some pl4 hneg
            replace hmk : ([-1, 1, 2] : List Int).getD (drawn ns (G2 + 1) 3).toNat 0 = (kM : Int) := hmk
            rename _ = Value.int _ _ => hmx
            rw [pe3, hmk] at kN hA h6
            rw [hmk] at hmx
            rw [hmn] at ret
            refine' ret _ _ _ _ _ _ (.many ?x4 _ ?mem4 (names + 1) (draw ns G2 3) (some kM) e3) (.ref ?pv4) kF (News.level (D0 := dicts e3) (T0 := tl3) (X1 := [_, _]) kN) ?c0 ?c1 ?c2 ?c3 (Grew.level (D0 := dicts e3) (T0 := tl3) (X1 := [_, _]) hG3 ?c4 hA ?c5)
            case c3 => exact .head _
            case c4 => exact Above.two (by assumption) (And.left (b := _ ∧ AllLt _ (dicts e3 ++ (tl3 ++ Z))) (by assumption))
            case c5 => exact h6
            case c0 => show PE.many _ _ _ e3.pe = _; rw [hpe3]
            case c1 => exact ⟨⟨_, _, _, _, .tail _ (.head _), ⟨_, hmx⟩⟩, .tail _ (.tail _ (List.mem_append_left _ (by assumption))), ExIn.mono (fun p hp _ => .tail _ (.tail _ (List.mem_append_right _ (List.mem_append_right _ hp)))) hEx3, by omega, by omega⟩
            case c2 => exact DatIn.tuple (.tail _ (.tail _ (List.mem_append_right _ (.head _)))) (.cons (.str _ _) (.cons (DatIn.mono (fun p hp => .tail _ (.tail _ (List.mem_append_right _ (List.mem_append_right _ hp)))) hpl3) (.cons (.int _ _) (.cons (.int _ _) .nil))))
        · have hp44 : (drawn ns used 8 == 4) = false := by rw [pe]; simp; omega
          simp only [h44, if_false] at ret
          k_steps
          unfold Held
          rename Fr _ _ _ (fun _ => _) => F5
          rename News _ _ _ _ => N5
          rename Below _ _ _ _ => B5
          rename Frag.In _ _ => X5
          rename Top _ _ _ _ _ _ => T5
          rw [ez]
          refine ih _ _ _ _ _ _ _ _ _ _ _ _ _ _ _ _ _ _ _ _ _ st scr vs G2 G3 _ _ _ _ _ (dicts e3 ++ (tl3 ++ Z)) B5 F5 X5 T5 rfl N5 (List.mem_append_right _ hscr3) hne hI hlen ?_ ?_ ?_ ?_ ?_ ?_
          · omega
          · omega
          · intro p hp
            rcases List.mem_append.mp hp with hp | hp
            · exact ho1 p hp
            · rcases List.mem_append.mp hp with hp | hp
              · exact ho2 p hp
              · exact hoff p hp
          · show dp + 1 + _ + _ < _; omega
          · show un + 3 + _ + _ < _; omega
          · intro D6 h7 tk7 t17 t27 tl7 e7 pv7 F7 N7 hpe7 hEx7 hpl7 hD7 hG7
            have hbd7 := grown_bounds ns d G2 G3
            generalize grown ns d G2 G3 = H at *
            obtain ⟨H1, H2, H3⟩ := H
            simp only [] at ret hpe7 hpl7 hbd7 N7
            have hG := hG3.comp hG7
            obtain ⟨D0, hD0⟩ : ∃ D0, D0 = dicts e3 ++ dicts e7 := ⟨_, rfl⟩
            obtain ⟨T0, hT0⟩ : ∃ T0, T0 = tl7 ++ tl3 := ⟨_, rfl⟩
            have S3 : ∀ p ∈ tl3, p ∈ T0 := fun p hp => hT0 ▸ List.mem_append_right _ hp
            have S7 : ∀ p ∈ tl7, p ∈ T0 := fun p hp => hT0 ▸ List.mem_append_left _ hp
            rw [← hD0, ← hT0] at hG
            replace N7 : News _ _ h7 ((st, stObj scr H2 H3 t17 t27 ep) :: (D0 ++ (T0 ++ Z))) := fun q hq => N7 q (by
              rw [hD0, hT0] at hq
              simp only [List.mem_cons, List.mem_append] at hq ⊢
              rcases hq with h | (h | h) | (h | h) | h <;> simp only [h, true_or, or_true])
            have hD13' : (D1, tupObj [pv3, .ref e3.x]) ∈ T0 ++ Z := List.mem_append_left Z (S3 _ hD3)
            have hD17 : (D6, tupObj [pv7, .ref e7.x]) ∈ T0 ++ Z := List.mem_append_left Z (S7 _ hD7)
            have ho3 : ∀ p ∈ D0, p.1 ≠ st := fun p hp => (hG.off p (List.mem_append_left _ hp)).1
            have ho4 : ∀ p ∈ T0, p.1 ≠ st := fun p hp => (hG.off p (List.mem_append_right _ hp)).1
            have hpv7 := hpl7.handed
            clear N5 F5 hD13
            by_cases h5 : draw ns used 8 = 5
            · have hp5 : (drawn ns used 8 == 5) = true := by rw [pe, h5]; rfl
              simp only [h5, if_true] at ret
              k_steps
              rename Fr h₀ L _ m => kF
              rename News h₀ L _ _ => kN
              rename Above _ _ ∧ _ => hA
              rename _ ∧ _ ∧ AllLt _ (_ ++ (_ :: _)) => h6
              subst hD0
              refine' ret _ _ _ _ _ _ (.choice ?xu _ ?memu (names + 1) e3 e7) (.ref ?pvu) kF (News.level (D0 := dicts e3 ++ dicts e7) (T0 := T0) (X1 := [_]) kN) ?u0 ?u1 ?u2 ?u3 (Grew.level (D0 := dicts e3 ++ dicts e7) (T0 := T0) (X1 := [_]) hG (by intro p hp; rw [List.mem_singleton.mp hp]; assumption) hA h6)
              case u3 => exact .head _
              case u0 => show PE.choice _ e3.pe e7.pe = _; rw [hpe3, hpe7]
              case u1 => exact ⟨⟨_, _, .tail _ (.head _)⟩, .tail _ (.tail _ (List.mem_append_left _ (by assumption))), ExIn.mono (fun p hp _ => .tail _ (.tail _ (List.mem_append_right _ (List.mem_append_right _ (S3 _ hp))))) hEx3, ExIn.mono (fun p hp _ => .tail _ (.tail _ (List.mem_append_right _ (List.mem_append_right _ (S7 _ hp))))) hEx7, by omega⟩
              case u2 => exact DatIn.tuple (.tail _ (.tail _ (List.mem_append_right _ (.head _)))) (.cons (.str _ _) (.cons (DatIn.mono (fun p hp => .tail _ (.tail _ (List.mem_append_right _ (List.mem_append_right _ (S3 _ hp))))) hpl3) (.cons (DatIn.mono (fun p hp => .tail _ (.tail _ (List.mem_append_right _ (List.mem_append_right _ (S7 _ hp))))) hpl7) (.cons (.int _ _) .nil))))
            · have hp5 : (drawn ns used 8 == 5) = false := by rw [pe]; simp; omega
              simp only [h5, if_false] at ret
              k_steps
              rename Fr h₀ L _ m => kF
              rename News h₀ L _ _ => kN
              rename Above _ _ ∧ _ => hA
              rename _ ∧ _ ∧ AllLt _ (_ ++ (_ :: _)) => h6
              subst hD0
              refine' ret _ _ _ _ _ _ (.chain ?xv _ ?memv (names + 1) e3 e7) (.ref ?pvv) kF (News.level (D0 := dicts e3 ++ dicts e7) (T0 := T0) (X1 := [_]) kN) ?v0 ?v1 ?v2 ?v3 (Grew.level (D0 := dicts e3 ++ dicts e7) (T0 := T0) (X1 := [_]) hG (by intro p hp; rw [List.mem_singleton.mp hp]; assumption) hA h6)
              case v3 => exact .head _
              case v0 => show PE.chain _ e3.pe e7.pe = _; rw [hpe3, hpe7]
              case v1 => exact ⟨⟨_, _, .tail _ (.head _)⟩, .tail _ (.tail _ (List.mem_append_left _ (by assumption))), ExIn.mono (fun p hp _ => .tail _ (.tail _ (List.mem_append_right _ (List.mem_append_right _ (S3 _ hp))))) hEx3, ExIn.mono (fun p hp _ => .tail _ (.tail _ (List.mem_append_right _ (List.mem_append_right _ (S7 _ hp))))) hEx7, by omega⟩
              case v2 => exact DatIn.tuple (.tail _ (.tail _ (List.mem_append_right _ (.head _)))) (.cons (.str _ _) (.cons (DatIn.mono (fun p hp => .tail _ (.tail _ (List.mem_append_right _ (List.mem_append_right _ (S3 _ hp))))) hpl3) (.cons (DatIn.mono (fun p hp => .tail _ (.tail _ (List.mem_append_right _ (List.mem_append_right _ (S7 _ hp))))) hpl7) (.cons (.int _ _) .nil))))
theorem grown_ok {w : World} {ns : List Int} : ∀ d, GrownOK w ns d
  | 0 => grown_zero
  | d + 1 => grown_succ (grown_ok d)
end Mine
namespace Mine
local macro_rules | `(tactic| walk_at "zz") => `(tactic| fail)
local macro_rules | `(tactic| walk_at "zz") => `(tactic| fail)
local macro_rules | `(tactic| walk_at "zz") => `(tactic| fail)
local macro_rules | `(tactic| walk_at "zz") => `(tactic| fail)
local macro_rules | `(tactic| walk_at "zz") => `(tactic| fail)
local macro_rules | `(tactic| walk_at "zz") => `(tactic| fail)
local macro_rules | `(tactic| walk_at "zz") => `(tactic| fail)
local macro_rules | `(tactic| walk_at "zz") => `(tactic| fail)
local macro_rules | `(tactic| walk_at "zz") => `(tactic| fail)
local macro_rules | `(tactic| walk_at "zz") => `(tactic| fail)
local macro_rules | `(tactic| walk_at "zz") => `(tactic| fail)
local macro_rules | `(tactic| walk_at "zz") => `(tactic| fail)
local macro_rules | `(tactic| walk_at "zz") => `(tactic| fail)
local macro_rules | `(tactic| walk_at "zz") => `(tactic| fail)
local macro_rules | `(tactic| walk_at "zz") => `(tactic| fail)
local macro_rules | `(tactic| walk_at "zz") => `(tactic| fail)
local macro_rules | `(tactic| walk_at "zz") => `(tactic| fail)
local macro_rules | `(tactic| walk_at "zz") => `(tactic| fail)
local macro_rules | `(tactic| walk_at "zz") => `(tactic| fail)
local macro_rules | `(tactic| walk_at "zz") => `(tactic| fail)
local macro_rules | `(tactic| walk_at "zz") => `(tactic| fail)
local macro_rules | `(tactic| walk_at "zz") => `(tactic| fail)
local macro_rules | `(tactic| walk_at "zz") => `(tactic| fail)
local macro_rules | `(tactic| walk_at "zz") => `(tactic| fail)
local macro_rules | `(tactic| walk_at "zz") => `(tactic| fail)
local macro_rules | `(tactic| walk_at "zz") => `(tactic| fail)
local macro_rules | `(tactic| walk_at "zz") => `(tactic| fail)
local macro_rules | `(tactic| walk_at "zz") => `(tactic| fail)
local macro_rules | `(tactic| walk_at "zz") => `(tactic| fail)
local macro_rules | `(tactic| walk_at "zz") => `(tactic| fail)
local macro_rules | `(tactic| walk_at "zz") => `(tactic| fail)
local macro_rules | `(tactic| walk_at "zz") => `(tactic| fail)
local macro_rules | `(tactic| walk_at "zz") => `(tactic| fail)
local macro_rules | `(tactic| walk_at "zz") => `(tactic| fail)
local macro_rules | `(tactic| walk_at "zz") => `(tactic| fail)
local macro_rules | `(tactic| walk_at "zz") => `(tactic| fail)
local macro_rules | `(tactic| walk_at "zz") => `(tactic| fail)
local macro_rules | `(tactic| walk_at "zz") => `(tactic| fail)
local macro_rules | `(tactic| walk_at "zz") => `(tactic| fail)
local macro_rules | `(tactic| walk_at "zz") => `(tactic| fail)
local macro_rules | `(tactic| walk_at "zz") => `(tactic| fail)
local macro_rules | `(tactic| walk_at "zz") => `(tactic| fail)
local macro_rules | `(tactic| walk_at "zz") => `(tactic| fail)
local macro_rules | `(tactic| walk_at "zz") => `(tactic| fail)
local macro_rules | `(tactic| walk_at "zz") => `(tactic| fail)
local macro_rules | `(tactic| walk_at "zz") => `(tactic| fail)
local macro_rules | `(tactic| walk_at "zz") => `(tactic| fail)
local macro_rules | `(tactic| walk_at "zz") => `(tactic| fail)
local macro_rules | `(tactic| walk_at "zz") => `(tactic| fail)
theorem rs_A_rd : True := by w_top off; trivial
local macro_rules | `(tactic| k_all) => `(tactic| assumption)
local macro_rules | `(tactic| k_ne) => `(tactic| first | assumption | exact Ne.symm (by assumption) | exact Nat.ne_of_lt (by assumption) | exact Nat.ne_of_gt (by assumption))
local macro_rules | `(tactic| k_room) => `(tactic| ktr_room)
local macro_rules | `(tactic| walk_at "call builtin:getattr") => `(tactic| (k_here; (with_reducible show wpAny _ _ (call (Value.builtin _) [_, Value.str _ _, _]) _ _ _); k_dflt (first
  | (refine' ga3_own ?k1 ?k2 ?k3 ?k4 ?k5 ?k6 ?k7 ?k8 ?k9 ?k10 ?k11 ?_; (case k1 => k_asm); (case k2 => k_asm); (case k3 => k_inst); (case k4 => k_is); (case k5 => k_is); (case k6 => k_is); (case k7 => k_is); (case k8 => k_get); (case k9 => k_handed); (case k10 => decide +kernel); (case k11 => k_is); k_whole)
  | (refine' ga3_miss ?k1 ?k2 ?k3 ?k4 ?k5 ?k6 ?k7 ?k8 ?k9 ?k10 ?k11 ?k12 ?k13 ?_; (case k1 => k_asm); (case k2 => k_asm); (case k3 => k_asm); (case k4 => k_inst); (case k5 => k_is); (case k6 => k_is); (case k7 => k_is); (case k8 => decide +kernel); (case k9 => k_get); (case k10 => decide +kernel); (case k11 => k_is); (case k12 => exact rfl); (case k13 => (first | (refine' MsgOk.of ?q1 ?q2 ?q3; (case q1 => k_is); (case q2 => decide +kernel); (case q3 => decide +kernel)) | (rename IsEx _ => h5; rcases h5 with e5 | e5 | e5 | e5 | e5 <;> subst e5 <;> (refine' MsgOk.of ?q1 ?q2 ?q3; (case q1 => k_is); (case q2 => decide +kernel); (case q3 => decide +kernel))))); k_whole; intro h' tk' F' N'; (try k_sweep)))))
local macro_rules | `(tactic| k_upd) => `(tactic| first | (refine' Off.head ?a; (case a => k_all)) | (refine' Off.tail ?a ?b; (case a => k_ne); (case b => k_upd)))
local macro_rules | `(tactic| walk_at "pyIter ref") => `(tactic| (k_here; (with_reducible show wpAny _ _ (pyIter (Value.ref _)) (fun it s₂ => codeAny _ _ (Code.forLoop _ it _ _ _) _ s₂) _ _); k_dflt (refine' tup_iter ?k1 ?k2 ?k3 ?_; (case k1 => k_asm); (case k2 => k_asm); (case k3 => exact News.isTup (by k_asm) (by k_mem)); k_whole); intro I' h' o' F' N' x' l1 l2; (try k_lt l1); (try k_lt2 l2); (try k_sweep)))
local macro_rules | `(tactic| walk_at "codeAny forLoop") => `(tactic| (k_here; (with_reducible show codeAny _ _ (Code.forLoop _ (Value.ref _) _ _ _) (okR _) _); k_dflt (first
  | (refine' tup_last ?k1 ?k2 ?k3 ?k4 ?k5 ?k6 ?k7 ?_; (case k1 => k_asm); (case k4 => assumption); (case k2 => k_asm); (case k3 => k_upd); (case k5 => exact News.isTup (by k_asm) (by k_mem)); (case k6 => exact rfl); (case k7 => exact rfl); k_whole; intro h' F' N'; (try k_sweep))
  | (refine' tup_turn ?k1 ?k2 ?k3 ?k4 ?k5 ?k6 ?k7 ?_; (case k1 => k_asm); (case k4 => assumption); (case k2 => k_asm); (case k3 => k_updF); (case k5 => exact News.isTup (by k_asm) (by k_mem)); (case k6 => first | exact get2_0 | exact get2_1 | exact rfl); (case k7 => k_ne); k_whole; intro h' o' F' N' x' T'; (try k_sweep)))))
local macro_rules | `(tactic| walk_at "call builtin:len") => `(tactic| (k_here; (with_reducible show wpAny _ _ (call (Value.builtin _) [Value.ref _]) _ _ _); k_dflt (refine' d_len (knd := intKind _ _) ?k1 ?k2 ?k3 ?k4 ?k5 ?k6 ?_; (case k1 => k_asm); (case k2 => k_mem); (case k3 => assumption); (case k4 => assumption); (case k5 => first | exact rowsK_length _ | rfl); (case k6 => (first | omega | (simp only [List.length_append, List.length_cons, List.length_nil]; omega))); k_whole; intro tk')))
local macro_rules | `(tactic| walk_at "getMethod ref") => `(tactic| (k_here; (with_reducible show wpAny _ _ (getMethod (Value.ref _) (Str.ofString "get") _) _ _ _); k_dflt (refine' d_meth (knd := intKind _ _) ?k1 ?k2 ?k3 PySem.F.slot_dict_get PySem.F.type_dict_get ?_; (case k1 => k_asm); (case k2 => k_mem); (case k3 => assumption); k_whole)))
local macro_rules | `(tactic| walk_at "call builtin:dict.get") => `(tactic| (k_here; (with_reducible show wpAny _ _ (call (Value.builtin _) [Value.ref _, Value.int _ _]) _ _ _); k_dflt (refine' d_get (knd := intKind _ _) ?k1 ?k2 ?k3 ?k4 (intKind_is _ _ _ _) ?_; (case k1 => k_asm); (case k2 => k_mem); (case k3 => assumption); (case k4 => assumption); k_whole)))
local macro_rules | `(tactic| walk_at "compareOp In int ref") => `(tactic| (k_here; k_dflt (refine' d_in (knd := intKind _ _) ?k1 ?k2 ?k3 ?k4 (intKind_is _ _ _ _) ?_; (case k1 => k_asm); (case k2 => k_mem); (case k3 => assumption); (case k4 => assumption); k_whole)))
local macro_rules | `(tactic| walk_at "subscriptTail") => `(tactic| (k_here; (with_reducible show wpAny _ _ (subscriptTail _ _ (Value.ref _) (Value.int _ _)) _ _ _); k_dflt (refine' d_item (knd := intKind _ _) ?k1 ?k2 ?k3 (intKind_is _ _ _ _) ?k5 ?_; (case k1 => k_asm); (case k2 => k_mem); (case k3 => assumption); (case k5 => assumption); k_whole)))
local macro_rules | `(tactic| walk_at "setItem ref int") => `(tactic| (k_here; k_dflt (refine' d_set (knd := intKind _ _) ?k1 ?k2 ?k3 ?k4 (intKind_is _ _ _ _) ?k6 ?_; (case k1 => k_asm); (case k2 => k_asm); (case k3 => k_updF); (case k4 => assumption); (case k6 => (rw [sizeLine_eq]; (first | omega | (simp only [rowsK_length, rowK_length, List.length_map, List.length_append, List.length_cons, List.length_nil]; omega)))); k_whole); intro h' o' F' N' hd'; (try dsimp only at N'); (try simp only [rowsK_length, stored_rows] at hd'); (try k_sweep)))
local macro_rules | `(tactic| k_all) => `(tactic| first | assumption | (refine List.forall_mem_append.mpr ⟨?_, ?_⟩ <;> k_all) | (exact tbn_neAll (by first | assumption | tbn_find)) | (exact tbn_neAll (tbn_up (by assumption) (by tbn_find))))
local macro_rules | `(tactic| k_mem) => `(tactic| ((with_reducible show List.Mem _ _); first | (show (_ : Addr × Obj) ∈ (_ : List (Addr × Obj)); ktr_member) | ((with_reducible show List.Mem _ (_ ++ _)); first | (refine' List.mem_append_left _ ?q; (case q => k_mem)) | (refine' List.mem_append_right _ ?q; (case q => k_mem)))))
local macro_rules | `(tactic| k_put) => `(tactic| first | exact putL_nil _ _ _ _ _ | exact putL_one _ _ _ _ _ _ _ _)
local macro_rules | `(tactic| walk_at "eval Name") => `(tactic| (k_here; k_dflt (refine' nameX_L ?F ?v ?_ ?a ?b; (case F => k_asm); (case a => rfl); (case b => rfl); (case v => assumption); k_whole)))
local macro_rules | `(tactic| k_put) => `(tactic| first | exact putL_nil _ _ _ _ _ | exact putL_one _ _ _ _ _ _ _ _ | exact putL_err_pos | exact putL_err_expr)
local macro_rules | `(tactic| walk_at "getAttr ref") => `(tactic| (k_here; k_dflt (refine' exc_getD ?k1 ?k2 ?k3 ?k4 ?k5 ?k6 ?k7 ?k8 ?k9 ?k10 ?k11 ?_; (case k1 => k_asm); (case k2 => k_asm); (case k3 => (refine' InstAt.of_newsF ?N ?h1 ?h2; (case N => k_asm); (case h1 => k_mem); (case h2 => k_mem))); (case k4 => k_is); (case k5 => k_is); (case k6 => k_is); (case k7 => k_is); (case k8 => k_is); (case k9 => k_is); (case k10 => k_get); (case k11 => k_handed); k_whole)))
local macro_rules | `(tactic| walk_at "setAttr ref") => `(tactic| (k_here; k_dflt (refine' exc_set ?k1 ?k2 ?k3 ?k4 ?k5 ?k6 ?k7 ?k8 ?k9 ?k10 ?k11 ?k12 ?k13 ?_; (case k1 => k_asm); (case k2 => k_asm); (case k3 => k_asm); (case k4 => (refine' InstAt.of_newsF ?N ?h1 ?h2; (case N => k_asm); (case h1 => k_mem); (case h2 => k_mem))); (case k5 => exact rfl); (case k6 => k_is); (case k7 => kernel_rfl); (case k8 => k_is); (case k9 => k_is); (case k10 => k_get); (case k11 => k_put); (case k12 => k_upd); (case k13 => exact Nat.le_of_ble_eq_true rfl); k_whole; intro h' F' N'; (try k_sweep))))
local macro_rules | `(tactic| k_slotget) => `(tactic| first | assumption | rfl)
local macro_rules | `(tactic| walk_at "getAttr ref") => `(tactic| (k_here; k_dflt (refine' get_slotW ?k1 ?k2 ?k3 ?k4 ?k5 ?k6 ?k7 ?k8 ?k9 ?k10 ?k11 ?_; (case k1 => k_asm); (case k2 => k_asm); (case k3 => k_asm); (case k4 => k_mem); (case k5 => k_is); (case k6 => k_is); (case k7 => k_is); (case k8 => k_is); (case k9 => k_is); (case k10 => k_slotget); (case k11 => k_handed); k_whole)))
local macro_rules | `(tactic| walk_at "call builtin:len") => `(tactic| (k_here; (with_reducible show wpAny _ _ (call (Value.builtin _) [Value.str _ _]) _ _ _); k_dflt (refine' SC.len_str ?k1 ?_; (case k1 => assumption); k_whole)))
local macro_rules | `(tactic| walk_at "getMethod ref") => `(tactic| (k_here; (with_reducible show wpAny _ _ (getMethod (Value.ref _) (Str.ofString "match_core") _) _ _ _); k_dflt (refine' meth_core ?k1 ?k2 ?k3 ?k4 ?k5 ?_; (case k1 => k_asm); (case k2 => k_asm); (case k4 => k_inst); (case k3 => assumption); (case k5 => assumption); k_whole)))
local macro_rules | `(tactic| walk_at "call ref") => `(tactic| (k_here; (with_reducible show wpAny _ _ (call (Value.ref 266) _) _ _ _); refine Held.out ?_))
local macro_rules | `(tactic| walk_at "exec For Name Attribute cons nil") => `(tactic| (k_here; refine for_F ?_))
local macro_rules | `(tactic| walk_at "truthy ref") => `(tactic| (k_here; k_dflt (refine' truthyL ?k1 ?k2 ?k3 ?k4 ?_; (case k1 => k_asm); (case k2 => k_mem); (case k3 => first | assumption | (simp only [List.size_toArray, List.length_cons, List.length_nil]; decide) | (simp only [Array.size_push, List.size_toArray, List.length_cons, List.length_nil]; omega)); (case k4 => first | assumption | exact ne1 | exact ne0 | exact neP); k_whole); intro tk'))
theorem slice_nat (x : Str) {p n : Nat} (hp : p ≤ x.length) : Txt.slice x (some (p : Int)) (some ((p : Int) + (n : Int))) = ⟨((x.cps.toList.drop p).take n).toArray⟩ := by
  have hl : x.cps.toList.length = x.length := Array.length_toList
  by_cases h : p + n ≤ x.length
  · have := eq_of_beq (slice_closesL (x := x) (i := (p : Int)) (j := (p : Int) + n) (by omega) (by omega) (by omega))
    rw [this]
    congr 2
    congr 1 <;> omega
  · have e : Builtin.Str.strSliceIndices (some (p : Int)) (some ((p : Int) + n)) 1 x.length = Builtin.Str.strSliceIndices (some (p : Int)) (some (x.length : Int)) 1 x.length := by
      unfold Builtin.Str.strSliceIndices
      simp only [show (1 : Int) > 0 by decide, if_true]
      rw [if_neg (by omega : ¬ ((p : Int) + n) < 0), if_neg (by omega : ¬ ((x.length : Nat) : Int) < 0)]
      congr 1
      omega
    have e2 : Txt.slice x (some (p : Int)) (some ((p : Int) + n)) = Txt.slice x (some (p : Int)) (some (x.length : Int)) := by unfold Txt.slice; rw [e]
    rw [e2, eq_of_beq (slice_closesL (x := x) (i := (p : Int)) (j := (x.length : Int)) (by omega) (by omega) (by omega))]
    congr 2
    rw [List.take_of_length_le (by rw [List.length_drop]; omega), List.take_of_length_le (by rw [List.length_drop]; omega)]
    rfl
theorem max_nat {l k : Nat} : (if (k : Int) > ([(l : Int)] : List Int).getD (Int.toNat 0) 0 then (k : Int) else ([(l : Int)] : List Int).getD (Int.toNat 0) 0) = ((max l k : Nat) : Int) := by
  show (if (k : Int) > (l : Int) then (k : Int) else (l : Int)) = _
  split <;> omega
def ReadOK (w : World) (T : Str) (e : PE) : Prop :=
  ∀ (dp un : Nat) (gd : Option (List Code)) (cn : Str) (cs : Scope) (a : Addr) (ccd : Value) (cl : List (Str × Addr)) (outer : List Env) (A₀ : Around) (base h₀ : Heap) (L : Addr) (m : Str → Option Value) (s : Shared)
    (loose : List Str) (mean : ExcName → Option Value) (mg mb : Str → Option Value) (Q E : Value → Shared → Prop) (lk : Addr) (pv : Value) (p l : Nat) (t1 t2 t3 : Tok) (ep : Nat) (Z : Led),
    Below A₀ base outer h₀ → Fr h₀ L s.heap m → (hd.heap_39 w.params).In h₀ → Top topProg loose mean mg mb h₀ → cs.kind = .function →
    News h₀ L s.heap ((lk, listObj [.int (l : Nat) t3] ep) :: Z) → DatIn Z pv (planD e) → (∀ q ∈ Z, q.1 ≠ lk) → p ≤ T.cps.size → T.cps.size ≤ 1000 →
    dp + 4 * e.deep + 8 < recursionLimit → un + 60 * e.deep + 100 < cLine →
    (∀ h' tk' t3' tr, Fr h₀ L h' m → News h₀ L h' ((lk, listObj [.int ((readP T.cps.toList e p l).2 : Nat) t3'] ep) :: Z) → Q (.int (endI (readP T.cps.toList e p l).1) tr) { s with heap := h', toks := tk' }) →
    wpAny (model PR w) (ktrTop dp un gd cn cs L a ccd cl outer) (call (.ref 522) [pv, .str T t1, .int p t2, .ref lk]) Q E s
theorem read_word {w : World} {T : Str} {n : Nat} {wd : List Nat} (hwd : wd.length ≤ 2) : ReadOK w T (.word n wd) := by
  intro dp un gd cn cs a ccd cl outer A₀ base h₀ L m s loose mean mg mb Q E lk pv p l t1 t2 t3 ep Z B F X Tp hk N hpl hoff hp hT hd hun ret
  rw [planD] at hpl
  cases hpl with
  | tuple hm hA =>
  cases hA with
  | cons h1 hA =>
  cases hA with
  | cons h2 hA =>
  cases hA with
  | cons h3 hA =>
  cases hA with
  | cons h4 hA =>
  cases hA
  cases h1
  cases h2
  cases h3
  cases h4
  have hwl : (strL wd).length = wd.length := by simp [strL, Str.length]
  have hfw : ¬ ((strL wd).length : Int) ≥ 2 ^ 63 := by rw [hwl]; omega
  refine wpAny_call ?_
  k_dflt ktr_enter
  k_steps
  all_goals (
    rename Fr h₀ L _ m => kF
    rename News h₀ L _ _ => kN
    rename (Txt.slice _ _ _ == _) = _ => hs
    have ec : ((p : Int) + ((strL wd).length : Int)) = ((p + wd.length : Nat) : Int) := by rw [hwl]; omega
    rw [slice_nat T (by exact hp), hwl] at hs
    simp only [ec, max_nat] at kN)
  · have hh : ((T.cps.toList.drop p).take wd.length) = wd := by
      have := congrArg (fun x : Str => x.cps.toList) (eq_of_beq hs)
      simpa [strL] using this
    simp only [readP, hh, if_true] at ret
    rw [ec]
    exact ret _ _ _ _ kF kN
  · have hh : ¬ ((T.cps.toList.drop p).take wd.length) = wd := by
      intro e
      rw [e] at hs
      simp [strL] at hs
    simp only [readP, hh, if_false] at ret
    exact ret _ _ _ _ kF kN
end Mine
namespace Mine
local macro_rules | `(tactic| walk_at "zz") => `(tactic| fail)
local macro_rules | `(tactic| walk_at "zz") => `(tactic| fail)
local macro_rules | `(tactic| walk_at "zz") => `(tactic| fail)
local macro_rules | `(tactic| walk_at "zz") => `(tactic| fail)
local macro_rules | `(tactic| walk_at "zz") => `(tactic| fail)
local macro_rules | `(tactic| walk_at "zz") => `(tactic| fail)
local macro_rules | `(tactic| walk_at "zz") => `(tactic| fail)
local macro_rules | `(tactic| walk_at "zz") => `(tactic| fail)
local macro_rules | `(tactic| walk_at "zz") => `(tactic| fail)
local macro_rules | `(tactic| walk_at "zz") => `(tactic| fail)
local macro_rules | `(tactic| walk_at "zz") => `(tactic| fail)
local macro_rules | `(tactic| walk_at "zz") => `(tactic| fail)
local macro_rules | `(tactic| walk_at "zz") => `(tactic| fail)
local macro_rules | `(tactic| walk_at "zz") => `(tactic| fail)
local macro_rules | `(tactic| walk_at "zz") => `(tactic| fail)
local macro_rules | `(tactic| walk_at "zz") => `(tactic| fail)
local macro_rules | `(tactic| walk_at "zz") => `(tactic| fail)
local macro_rules | `(tactic| walk_at "zz") => `(tactic| fail)
local macro_rules | `(tactic| walk_at "zz") => `(tactic| fail)
local macro_rules | `(tactic| walk_at "zz") => `(tactic| fail)
local macro_rules | `(tactic| walk_at "zz") => `(tactic| fail)
local macro_rules | `(tactic| walk_at "zz") => `(tactic| fail)
local macro_rules | `(tactic| walk_at "zz") => `(tactic| fail)
local macro_rules | `(tactic| walk_at "zz") => `(tactic| fail)
local macro_rules | `(tactic| walk_at "zz") => `(tactic| fail)
local macro_rules | `(tactic| walk_at "zz") => `(tactic| fail)
local macro_rules | `(tactic| walk_at "zz") => `(tactic| fail)
local macro_rules | `(tactic| walk_at "zz") => `(tactic| fail)
local macro_rules | `(tactic| walk_at "zz") => `(tactic| fail)
local macro_rules | `(tactic| walk_at "zz") => `(tactic| fail)
local macro_rules | `(tactic| walk_at "zz") => `(tactic| fail)
local macro_rules | `(tactic| walk_at "zz") => `(tactic| fail)
local macro_rules | `(tactic| walk_at "zz") => `(tactic| fail)
local macro_rules | `(tactic| walk_at "zz") => `(tactic| fail)
local macro_rules | `(tactic| walk_at "zz") => `(tactic| fail)
local macro_rules | `(tactic| walk_at "zz") => `(tactic| fail)
local macro_rules | `(tactic| walk_at "zz") => `(tactic| fail)
local macro_rules | `(tactic| walk_at "zz") => `(tactic| fail)
local macro_rules | `(tactic| walk_at "zz") => `(tactic| fail)
local macro_rules | `(tactic| walk_at "zz") => `(tactic| fail)
local macro_rules | `(tactic| walk_at "zz") => `(tactic| fail)
local macro_rules | `(tactic| walk_at "zz") => `(tactic| fail)
local macro_rules | `(tactic| walk_at "zz") => `(tactic| fail)
local macro_rules | `(tactic| walk_at "zz") => `(tactic| fail)
local macro_rules | `(tactic| walk_at "zz") => `(tactic| fail)
local macro_rules | `(tactic| walk_at "zz") => `(tactic| fail)
local macro_rules | `(tactic| walk_at "zz") => `(tactic| fail)
local macro_rules | `(tactic| walk_at "zz") => `(tactic| fail)
local macro_rules | `(tactic| walk_at "zz") => `(tactic| fail)
local macro_rules | `(tactic| walk_at "zz") => `(tactic| fail)
theorem rs_A_rl : True := by w_top off; trivial
local macro_rules | `(tactic| k_all) => `(tactic| assumption)
local macro_rules | `(tactic| k_ne) => `(tactic| first | assumption | exact Ne.symm (by assumption) | exact Nat.ne_of_lt (by assumption) | exact Nat.ne_of_gt (by assumption))
local macro_rules | `(tactic| k_room) => `(tactic| ktr_room)
local macro_rules | `(tactic| walk_at "call builtin:getattr") => `(tactic| (k_here; (with_reducible show wpAny _ _ (call (Value.builtin _) [_, Value.str _ _, _]) _ _ _); k_dflt (first
  | (refine' ga3_own ?k1 ?k2 ?k3 ?k4 ?k5 ?k6 ?k7 ?k8 ?k9 ?k10 ?k11 ?_; (case k1 => k_asm); (case k2 => k_asm); (case k3 => k_inst); (case k4 => k_is); (case k5 => k_is); (case k6 => k_is); (case k7 => k_is); (case k8 => k_get); (case k9 => k_handed); (case k10 => decide +kernel); (case k11 => k_is); k_whole)
  | (refine' ga3_miss ?k1 ?k2 ?k3 ?k4 ?k5 ?k6 ?k7 ?k8 ?k9 ?k10 ?k11 ?k12 ?k13 ?_; (case k1 => k_asm); (case k2 => k_asm); (case k3 => k_asm); (case k4 => k_inst); (case k5 => k_is); (case k6 => k_is); (case k7 => k_is); (case k8 => decide +kernel); (case k9 => k_get); (case k10 => decide +kernel); (case k11 => k_is); (case k12 => exact rfl); (case k13 => (first | (refine' MsgOk.of ?q1 ?q2 ?q3; (case q1 => k_is); (case q2 => decide +kernel); (case q3 => decide +kernel)) | (rename IsEx _ => h5; rcases h5 with e5 | e5 | e5 | e5 | e5 <;> subst e5 <;> (refine' MsgOk.of ?q1 ?q2 ?q3; (case q1 => k_is); (case q2 => decide +kernel); (case q3 => decide +kernel))))); k_whole; intro h' tk' F' N'; (try k_sweep)))))
local macro_rules | `(tactic| k_upd) => `(tactic| first | (refine' Off.head ?a; (case a => k_all)) | (refine' Off.tail ?a ?b; (case a => k_ne); (case b => k_upd)))
local macro_rules | `(tactic| walk_at "pyIter ref") => `(tactic| (k_here; (with_reducible show wpAny _ _ (pyIter (Value.ref _)) (fun it s₂ => codeAny _ _ (Code.forLoop _ it _ _ _) _ s₂) _ _); k_dflt (refine' tup_iter ?k1 ?k2 ?k3 ?_; (case k1 => k_asm); (case k2 => k_asm); (case k3 => exact News.isTup (by k_asm) (by k_mem)); k_whole); intro I' h' o' F' N' x' l1 l2; (try k_lt l1); (try k_lt2 l2); (try k_sweep)))
local macro_rules | `(tactic| walk_at "codeAny forLoop") => `(tactic| (k_here; (with_reducible show codeAny _ _ (Code.forLoop _ (Value.ref _) _ _ _) (okR _) _); k_dflt (first
  | (refine' tup_last ?k1 ?k2 ?k3 ?k4 ?k5 ?k6 ?k7 ?_; (case k1 => k_asm); (case k4 => assumption); (case k2 => k_asm); (case k3 => k_upd); (case k5 => exact News.isTup (by k_asm) (by k_mem)); (case k6 => exact rfl); (case k7 => exact rfl); k_whole; intro h' F' N'; (try k_sweep))
  | (refine' tup_turn ?k1 ?k2 ?k3 ?k4 ?k5 ?k6 ?k7 ?_; (case k1 => k_asm); (case k4 => assumption); (case k2 => k_asm); (case k3 => k_updF); (case k5 => exact News.isTup (by k_asm) (by k_mem)); (case k6 => first | exact get2_0 | exact get2_1 | exact rfl); (case k7 => k_ne); k_whole; intro h' o' F' N' x' T'; (try k_sweep)))))
local macro_rules | `(tactic| walk_at "call builtin:len") => `(tactic| (k_here; (with_reducible show wpAny _ _ (call (Value.builtin _) [Value.ref _]) _ _ _); k_dflt (refine' d_len (knd := intKind _ _) ?k1 ?k2 ?k3 ?k4 ?k5 ?k6 ?_; (case k1 => k_asm); (case k2 => k_mem); (case k3 => assumption); (case k4 => assumption); (case k5 => first | exact rowsK_length _ | rfl); (case k6 => (first | omega | (simp only [List.length_append, List.length_cons, List.length_nil]; omega))); k_whole; intro tk')))
local macro_rules | `(tactic| walk_at "getMethod ref") => `(tactic| (k_here; (with_reducible show wpAny _ _ (getMethod (Value.ref _) (Str.ofString "get") _) _ _ _); k_dflt (refine' d_meth (knd := intKind _ _) ?k1 ?k2 ?k3 PySem.F.slot_dict_get PySem.F.type_dict_get ?_; (case k1 => k_asm); (case k2 => k_mem); (case k3 => assumption); k_whole)))
local macro_rules | `(tactic| walk_at "call builtin:dict.get") => `(tactic| (k_here; (with_reducible show wpAny _ _ (call (Value.builtin _) [Value.ref _, Value.int _ _]) _ _ _); k_dflt (refine' d_get (knd := intKind _ _) ?k1 ?k2 ?k3 ?k4 (intKind_is _ _ _ _) ?_; (case k1 => k_asm); (case k2 => k_mem); (case k3 => assumption); (case k4 => assumption); k_whole)))
local macro_rules | `(tactic| walk_at "compareOp In int ref") => `(tactic| (k_here; k_dflt (refine' d_in (knd := intKind _ _) ?k1 ?k2 ?k3 ?k4 (intKind_is _ _ _ _) ?_; (case k1 => k_asm); (case k2 => k_mem); (case k3 => assumption); (case k4 => assumption); k_whole)))
local macro_rules | `(tactic| walk_at "subscriptTail") => `(tactic| (k_here; (with_reducible show wpAny _ _ (subscriptTail _ _ (Value.ref _) (Value.int _ _)) _ _ _); k_dflt (refine' d_item (knd := intKind _ _) ?k1 ?k2 ?k3 (intKind_is _ _ _ _) ?k5 ?_; (case k1 => k_asm); (case k2 => k_mem); (case k3 => assumption); (case k5 => assumption); k_whole)))
local macro_rules | `(tactic| walk_at "setItem ref int") => `(tactic| (k_here; k_dflt (refine' d_set (knd := intKind _ _) ?k1 ?k2 ?k3 ?k4 (intKind_is _ _ _ _) ?k6 ?_; (case k1 => k_asm); (case k2 => k_asm); (case k3 => k_updF); (case k4 => assumption); (case k6 => (rw [sizeLine_eq]; (first | omega | (simp only [rowsK_length, rowK_length, List.length_map, List.length_append, List.length_cons, List.length_nil]; omega)))); k_whole); intro h' o' F' N' hd'; (try dsimp only at N'); (try simp only [rowsK_length, stored_rows] at hd'); (try k_sweep)))
local macro_rules | `(tactic| k_all) => `(tactic| first | assumption | (refine List.forall_mem_append.mpr ⟨?_, ?_⟩ <;> k_all) | (exact tbn_neAll (by first | assumption | tbn_find)) | (exact tbn_neAll (tbn_up (by assumption) (by tbn_find))))
local macro_rules | `(tactic| k_mem) => `(tactic| ((with_reducible show List.Mem _ _); first | (show (_ : Addr × Obj) ∈ (_ : List (Addr × Obj)); ktr_member) | ((with_reducible show List.Mem _ (_ ++ _)); first | (refine' List.mem_append_left _ ?q; (case q => k_mem)) | (refine' List.mem_append_right _ ?q; (case q => k_mem)))))
local macro_rules | `(tactic| k_put) => `(tactic| first | exact putL_nil _ _ _ _ _ | exact putL_one _ _ _ _ _ _ _ _)
local macro_rules | `(tactic| walk_at "eval Name") => `(tactic| (k_here; k_dflt (refine' nameX_L ?F ?v ?_ ?a ?b; (case F => k_asm); (case a => rfl); (case b => rfl); (case v => assumption); k_whole)))
local macro_rules | `(tactic| k_put) => `(tactic| first | exact putL_nil _ _ _ _ _ | exact putL_one _ _ _ _ _ _ _ _ | exact putL_err_pos | exact putL_err_expr)
local macro_rules | `(tactic| walk_at "getAttr ref") => `(tactic| (k_here; k_dflt (refine' exc_getD ?k1 ?k2 ?k3 ?k4 ?k5 ?k6 ?k7 ?k8 ?k9 ?k10 ?k11 ?_; (case k1 => k_asm); (case k2 => k_asm); (case k3 => (refine' InstAt.of_newsF ?N ?h1 ?h2; (case N => k_asm); (case h1 => k_mem); (case h2 => k_mem))); (case k4 => k_is); (case k5 => k_is); (case k6 => k_is); (case k7 => k_is); (case k8 => k_is); (case k9 => k_is); (case k10 => k_get); (case k11 => k_handed); k_whole)))
local macro_rules | `(tactic| walk_at "setAttr ref") => `(tactic| (k_here; k_dflt (refine' exc_set ?k1 ?k2 ?k3 ?k4 ?k5 ?k6 ?k7 ?k8 ?k9 ?k10 ?k11 ?k12 ?k13 ?_; (case k1 => k_asm); (case k2 => k_asm); (case k3 => k_asm); (case k4 => (refine' InstAt.of_newsF ?N ?h1 ?h2; (case N => k_asm); (case h1 => k_mem); (case h2 => k_mem))); (case k5 => exact rfl); (case k6 => k_is); (case k7 => kernel_rfl); (case k8 => k_is); (case k9 => k_is); (case k10 => k_get); (case k11 => k_put); (case k12 => k_upd); (case k13 => exact Nat.le_of_ble_eq_true rfl); k_whole; intro h' F' N'; (try k_sweep))))
local macro_rules | `(tactic| k_slotget) => `(tactic| first | assumption | rfl)
local macro_rules | `(tactic| walk_at "getAttr ref") => `(tactic| (k_here; k_dflt (refine' get_slotW ?k1 ?k2 ?k3 ?k4 ?k5 ?k6 ?k7 ?k8 ?k9 ?k10 ?k11 ?_; (case k1 => k_asm); (case k2 => k_asm); (case k3 => k_asm); (case k4 => k_mem); (case k5 => k_is); (case k6 => k_is); (case k7 => k_is); (case k8 => k_is); (case k9 => k_is); (case k10 => k_slotget); (case k11 => k_handed); k_whole)))
local macro_rules | `(tactic| walk_at "call builtin:len") => `(tactic| (k_here; (with_reducible show wpAny _ _ (call (Value.builtin _) [Value.str _ _]) _ _ _); k_dflt (refine' SC.len_str ?k1 ?_; (case k1 => assumption); k_whole)))
local macro_rules | `(tactic| walk_at "getMethod ref") => `(tactic| (k_here; (with_reducible show wpAny _ _ (getMethod (Value.ref _) (Str.ofString "match_core") _) _ _ _); k_dflt (refine' meth_core ?k1 ?k2 ?k3 ?k4 ?k5 ?_; (case k1 => k_asm); (case k2 => k_asm); (case k4 => k_inst); (case k3 => assumption); (case k5 => assumption); k_whole)))
local macro_rules | `(tactic| walk_at "call ref") => `(tactic| (k_here; (with_reducible show wpAny _ _ (call (Value.ref 266) _) _ _ _); refine Held.out ?_))
local macro_rules | `(tactic| walk_at "exec For Name Attribute cons nil") => `(tactic| (k_here; refine for_F ?_))
local macro_rules | `(tactic| walk_at "truthy ref") => `(tactic| (k_here; k_dflt (refine' truthyL ?k1 ?k2 ?k3 ?k4 ?_; (case k1 => k_asm); (case k2 => k_mem); (case k3 => first | assumption | (simp only [List.size_toArray, List.length_cons, List.length_nil]; decide) | (simp only [Array.size_push, List.size_toArray, List.length_cons, List.length_nil]; omega)); (case k4 => first | assumption | exact ne1 | exact ne0 | exact neP); k_whole); intro tk'))
local macro_rules | `(tactic| walk_at "call ref") => `(tactic| (k_here; (with_reducible show wpAny _ _ (call (Value.ref 522) _) _ _ _); refine Held.out ?_))
local macro_rules | `(tactic| walk_at "call ref") => `(tactic| (k_here; (with_reducible show wpAny _ _ (call (Value.ref 529) _) _ _ _); refine Held.out ?_))
theorem read_look {w : World} {T : Str} {n : Nat} {neg : Bool} {e : PE} (IH : ReadOK w T e) : ReadOK w T (.look n neg e) := by
  intro dp un gd cn cs a ccd cl outer A₀ base h₀ L m s loose mean mg mb Q E lk pv p l t1 t2 t3 ep Z B F X Tp hk N hpl hoff hp hT hd hun ret
  rw [planD] at hpl
  cases hpl with
  | tuple hm hA =>
  cases hA with
  | cons h1 hA =>
  cases hA with
  | cons h2 hA =>
  cases hA with
  | cons h3 hA =>
  cases hA with
  | cons h4 hA =>
  cases hA
  cases h1
  cases h3
  cases h4
  simp only [PE.deep] at hd hun
  have hvh := h2.handed
  refine wpAny_call ?_
  k_dflt ktr_enter
  k_steps
  unfold Held
  rename Fr _ _ _ (fun _ => _) => F1
  rename News _ _ _ _ => N1
  rename Below _ _ _ _ => B1
  rename Frag.In _ _ => X1
  rename Top _ _ _ _ _ _ => T1
  refine IH _ _ _ _ _ _ _ _ _ _ _ _ _ _ _ _ _ _ _ _ _ lk _ p l _ _ _ _ Z B1 F1 X1 T1 rfl N1 h2 hoff hp hT ?_ ?_ ?_
  · show dp + 1 + _ + _ < _; omega
  · show un + 3 + _ + _ < _; omega
  · intro h5 tk5 t35 tr5 F5 N5
    simp only [readP] at ret
    generalize readP T.cps.toList e p l = O at *
    obtain ⟨O1, O2⟩ := O
    simp only [] at ret N5
    clear N1 F1 N
    cases O1 with
    | none =>
      simp only [endI] at *
      k_steps
      all_goals (
        rename Fr h₀ L _ m => kF
        rename News h₀ L _ _ => kN
        rename (decide _ == neg) = _ => ha)
      · rw [if_pos (by revert ha; cases neg <;> simp)] at ret
        exact ret _ _ _ _ kF kN
      · rw [if_neg (by revert ha; cases neg <;> simp)] at ret
        exact ret _ _ _ _ kF kN
    | some e' =>
      simp only [endI] at *
      have he' : decide ((e' : Int) < 0) = false := by simp
      k_steps
      all_goals (
        rename Fr h₀ L _ m => kF
        rename News h₀ L _ _ => kN
        rename (decide _ == neg) = _ => ha
        rw [he'] at ha)
      · rw [if_pos (by revert ha; cases neg <;> simp)] at ret
        exact ret _ _ _ _ kF kN
      · rw [if_neg (by revert ha; cases neg <;> simp)] at ret
        exact ret _ _ _ _ kF kN
theorem read_choice {w : World} {T : Str} {n : Nat} {e e2 : PE} (IH : ReadOK w T e) (IH2 : ReadOK w T e2) : ReadOK w T (.choice n e e2) := by
  intro dp un gd cn cs a ccd cl outer A₀ base h₀ L m s loose mean mg mb Q E lk pv p l t1 t2 t3 ep Z B F X Tp hk N hpl hoff hp hT hd hun ret
  rw [planD] at hpl
  cases hpl with
  | tuple hm hA =>
  cases hA with
  | cons h1 hA =>
  cases hA with
  | cons h2 hA =>
  cases hA with
  | cons h3 hA =>
  cases hA with
  | cons h4 hA =>
  cases hA
  cases h1
  cases h4
  simp only [PE.deep] at hd hun
  have hvh := h2.handed
  have hvh2 := h3.handed
  have hTl : T.cps.toList.length = T.cps.size := Array.length_toList
  refine wpAny_call ?_
  k_dflt ktr_enter
  k_steps
  unfold Held
  rename Fr _ _ _ (fun _ => _) => F1
  rename News _ _ _ _ => N1
  rename Below _ _ _ _ => B1
  rename Frag.In _ _ => X1
  rename Top _ _ _ _ _ _ => T1
  refine IH _ _ _ _ _ _ _ _ _ _ _ _ _ _ _ _ _ _ _ _ _ lk _ p l _ _ _ _ Z B1 F1 X1 T1 rfl N1 h2 hoff hp hT ?_ ?_ ?_
  · show dp + 1 + _ + _ < _; omega
  · show un + 3 + _ + _ < _; omega
  · intro h5 tk5 t35 tr5 F5 N5
    simp only [readP] at ret
    have hle := readP_le (T := T.cps.toList) e p l
    generalize readP T.cps.toList e p l = O at *
    obtain ⟨O1, O2⟩ := O
    simp only [] at ret N5 hle
    clear N1 F1 N
    cases O1 with
    | none =>
      simp only [endI] at *
      k_steps
      unfold Held
      rename Fr _ _ _ (fun _ => _) => F6
      rename News _ _ _ _ => N6
      rename Below _ _ _ _ => B6
      rename Frag.In _ _ => X6
      rename Top _ _ _ _ _ _ => T6
      refine IH2 _ _ _ _ _ _ _ _ _ _ _ _ _ _ _ _ _ _ _ _ _ lk _ p O2 _ _ _ _ Z B6 F6 X6 T6 rfl N6 h3 hoff hp hT ?_ ?_ ?_
      · show dp + 1 + _ + _ < _; omega
      · show un + 3 + _ + _ < _; omega
      · intro h8 tk8 t38 tr8 F8 N8
        generalize readP T.cps.toList e2 p O2 = O' at *
        obtain ⟨O3, O4⟩ := O'
        clear N6 F6
        k_steps
        rename Fr h₀ L _ m => kF
        rename News h₀ L _ _ => kN
        exact ret _ _ _ _ kF kN
    | some e' =>
      simp only [endI] at *
      have he' : ((e' : Nat) : Int) ≥ 0 := by omega
      k_steps
      rename Fr h₀ L _ m => kF
      rename News h₀ L _ _ => kN
      exact ret _ _ _ _ kF kN
theorem read_chain {w : World} {T : Str} {n : Nat} {e e2 : PE} (IH : ReadOK w T e) (IH2 : ReadOK w T e2) : ReadOK w T (.chain n e e2) := by
  intro dp un gd cn cs a ccd cl outer A₀ base h₀ L m s loose mean mg mb Q E lk pv p l t1 t2 t3 ep Z B F X Tp hk N hpl hoff hp hT hd hun ret
  rw [planD] at hpl
  cases hpl with
  | tuple hm hA =>
  cases hA with
  | cons h1 hA =>
  cases hA with
  | cons h2 hA =>
  cases hA with
  | cons h3 hA =>
  cases hA with
  | cons h4 hA =>
  cases hA
  cases h1
  cases h4
  simp only [PE.deep] at hd hun
  have hvh := h2.handed
  have hvh2 := h3.handed
  have hTl : T.cps.toList.length = T.cps.size := Array.length_toList
  refine wpAny_call ?_
  k_dflt ktr_enter
  k_steps
  unfold Held
  rename Fr _ _ _ (fun _ => _) => F1
  rename News _ _ _ _ => N1
  rename Below _ _ _ _ => B1
  rename Frag.In _ _ => X1
  rename Top _ _ _ _ _ _ => T1
  refine IH _ _ _ _ _ _ _ _ _ _ _ _ _ _ _ _ _ _ _ _ _ lk _ p l _ _ _ _ Z B1 F1 X1 T1 rfl N1 h2 hoff hp hT ?_ ?_ ?_
  · show dp + 1 + _ + _ < _; omega
  · show un + 3 + _ + _ < _; omega
  · intro h5 tk5 t35 tr5 F5 N5
    simp only [readP] at ret
    have hle := readP_le (T := T.cps.toList) e p l
    generalize readP T.cps.toList e p l = O at *
    obtain ⟨O1, O2⟩ := O
    simp only [] at ret N5 hle
    clear N1 F1 N
    cases O1 with
    | none =>
      simp only [endI] at *
      k_steps
      rename Fr h₀ L _ m => kF
      rename News h₀ L _ _ => kN
      exact ret _ _ _ _ kF kN
    | some e' =>
      simp only [endI] at *
      have he' : ¬ ((e' : Nat) : Int) < 0 := by omega
      obtain ⟨hle1, hle2⟩ := hle e' (by omega) rfl
      k_steps
      unfold Held
      rename Fr _ _ _ (fun _ => _) => F6
      rename News _ _ _ _ => N6
      rename Below _ _ _ _ => B6
      rename Frag.In _ _ => X6
      rename Top _ _ _ _ _ _ => T6
      refine IH2 _ _ _ _ _ _ _ _ _ _ _ _ _ _ _ _ _ _ _ _ _ lk _ e' O2 _ _ _ _ Z B6 F6 X6 T6 rfl N6 h3 hoff (by omega) hT ?_ ?_ ?_
      · show dp + 1 + _ + _ < _; omega
      · show un + 3 + _ + _ < _; omega
      · intro h8 tk8 t38 tr8 F8 N8
        generalize readP T.cps.toList e2 e' O2 = O' at *
        obtain ⟨O3, O4⟩ := O'
        clear N6 F6
        k_steps
        rename Fr h₀ L _ m => kF
        rename News h₀ L _ _ => kN
        exact ret _ _ _ _ kF kN
end Mine
namespace Mine
local macro_rules | `(tactic| walk_at "zz") => `(tactic| fail)
local macro_rules | `(tactic| walk_at "zz") => `(tactic| fail)
local macro_rules | `(tactic| walk_at "zz") => `(tactic| fail)
local macro_rules | `(tactic| walk_at "zz") => `(tactic| fail)
local macro_rules | `(tactic| walk_at "zz") => `(tactic| fail)
local macro_rules | `(tactic| walk_at "zz") => `(tactic| fail)
local macro_rules | `(tactic| walk_at "zz") => `(tactic| fail)
local macro_rules | `(tactic| walk_at "zz") => `(tactic| fail)
local macro_rules | `(tactic| walk_at "zz") => `(tactic| fail)
local macro_rules | `(tactic| walk_at "zz") => `(tactic| fail)
local macro_rules | `(tactic| walk_at "zz") => `(tactic| fail)
local macro_rules | `(tactic| walk_at "zz") => `(tactic| fail)
local macro_rules | `(tactic| walk_at "zz") => `(tactic| fail)
local macro_rules | `(tactic| walk_at "zz") => `(tactic| fail)
local macro_rules | `(tactic| walk_at "zz") => `(tactic| fail)
local macro_rules | `(tactic| walk_at "zz") => `(tactic| fail)
local macro_rules | `(tactic| walk_at "zz") => `(tactic| fail)
local macro_rules | `(tactic| walk_at "zz") => `(tactic| fail)
local macro_rules | `(tactic| walk_at "zz") => `(tactic| fail)
local macro_rules | `(tactic| walk_at "zz") => `(tactic| fail)
local macro_rules | `(tactic| walk_at "zz") => `(tactic| fail)
local macro_rules | `(tactic| walk_at "zz") => `(tactic| fail)
local macro_rules | `(tactic| walk_at "zz") => `(tactic| fail)
local macro_rules | `(tactic| walk_at "zz") => `(tactic| fail)
local macro_rules | `(tactic| walk_at "zz") => `(tactic| fail)
local macro_rules | `(tactic| walk_at "zz") => `(tactic| fail)
local macro_rules | `(tactic| walk_at "zz") => `(tactic| fail)
local macro_rules | `(tactic| walk_at "zz") => `(tactic| fail)
local macro_rules | `(tactic| walk_at "zz") => `(tactic| fail)
local macro_rules | `(tactic| walk_at "zz") => `(tactic| fail)
local macro_rules | `(tactic| walk_at "zz") => `(tactic| fail)
local macro_rules | `(tactic| walk_at "zz") => `(tactic| fail)
local macro_rules | `(tactic| walk_at "zz") => `(tactic| fail)
local macro_rules | `(tactic| walk_at "zz") => `(tactic| fail)
local macro_rules | `(tactic| walk_at "zz") => `(tactic| fail)
local macro_rules | `(tactic| walk_at "zz") => `(tactic| fail)
local macro_rules | `(tactic| walk_at "zz") => `(tactic| fail)
local macro_rules | `(tactic| walk_at "zz") => `(tactic| fail)
local macro_rules | `(tactic| walk_at "zz") => `(tactic| fail)
local macro_rules | `(tactic| walk_at "zz") => `(tactic| fail)
local macro_rules | `(tactic| walk_at "zz") => `(tactic| fail)
local macro_rules | `(tactic| walk_at "zz") => `(tactic| fail)
local macro_rules | `(tactic| walk_at "zz") => `(tactic| fail)
local macro_rules | `(tactic| walk_at "zz") => `(tactic| fail)
local macro_rules | `(tactic| walk_at "zz") => `(tactic| fail)
local macro_rules | `(tactic| walk_at "zz") => `(tactic| fail)
local macro_rules | `(tactic| walk_at "zz") => `(tactic| fail)
local macro_rules | `(tactic| walk_at "zz") => `(tactic| fail)
local macro_rules | `(tactic| walk_at "zz") => `(tactic| fail)
local macro_rules | `(tactic| walk_at "zz") => `(tactic| fail)
local macro_rules | `(tactic| walk_at "zz") => `(tactic| fail)
local macro_rules | `(tactic| walk_at "zz") => `(tactic| fail)
local macro_rules | `(tactic| walk_at "zz") => `(tactic| fail)
theorem rs_A_rm : True := by w_top off; trivial
local macro_rules | `(tactic| k_all) => `(tactic| assumption)
local macro_rules | `(tactic| k_ne) => `(tactic| first | assumption | exact Ne.symm (by assumption) | exact Nat.ne_of_lt (by assumption) | exact Nat.ne_of_gt (by assumption))
local macro_rules | `(tactic| k_room) => `(tactic| ktr_room)
local macro_rules | `(tactic| walk_at "call builtin:getattr") => `(tactic| (k_here; (with_reducible show wpAny _ _ (call (Value.builtin _) [_, Value.str _ _, _]) _ _ _); k_dflt (first
  | (refine' ga3_own ?k1 ?k2 ?k3 ?k4 ?k5 ?k6 ?k7 ?k8 ?k9 ?k10 ?k11 ?_; (case k1 => k_asm); (case k2 => k_asm); (case k3 => k_inst); (case k4 => k_is); (case k5 => k_is); (case k6 => k_is); (case k7 => k_is); (case k8 => k_get); (case k9 => k_handed); (case k10 => decide +kernel); (case k11 => k_is); k_whole)
  | (refine' ga3_miss ?k1 ?k2 ?k3 ?k4 ?k5 ?k6 ?k7 ?k8 ?k9 ?k10 ?k11 ?k12 ?k13 ?_; (case k1 => k_asm); (case k2 => k_asm); (case k3 => k_asm); (case k4 => k_inst); (case k5 => k_is); (case k6 => k_is); (case k7 => k_is); (case k8 => decide +kernel); (case k9 => k_get); (case k10 => decide +kernel); (case k11 => k_is); (case k12 => exact rfl); (case k13 => (first | (refine' MsgOk.of ?q1 ?q2 ?q3; (case q1 => k_is); (case q2 => decide +kernel); (case q3 => decide +kernel)) | (rename IsEx _ => h5; rcases h5 with e5 | e5 | e5 | e5 | e5 <;> subst e5 <;> (refine' MsgOk.of ?q1 ?q2 ?q3; (case q1 => k_is); (case q2 => decide +kernel); (case q3 => decide +kernel))))); k_whole; intro h' tk' F' N'; (try k_sweep)))))
local macro_rules | `(tactic| k_upd) => `(tactic| first | (refine' Off.head ?a; (case a => k_all)) | (refine' Off.tail ?a ?b; (case a => k_ne); (case b => k_upd)))
local macro_rules | `(tactic| walk_at "pyIter ref") => `(tactic| (k_here; (with_reducible show wpAny _ _ (pyIter (Value.ref _)) (fun it s₂ => codeAny _ _ (Code.forLoop _ it _ _ _) _ s₂) _ _); k_dflt (refine' tup_iter ?k1 ?k2 ?k3 ?_; (case k1 => k_asm); (case k2 => k_asm); (case k3 => exact News.isTup (by k_asm) (by k_mem)); k_whole); intro I' h' o' F' N' x' l1 l2; (try k_lt l1); (try k_lt2 l2); (try k_sweep)))
local macro_rules | `(tactic| walk_at "codeAny forLoop") => `(tactic| (k_here; (with_reducible show codeAny _ _ (Code.forLoop _ (Value.ref _) _ _ _) (okR _) _); k_dflt (first
  | (refine' tup_last ?k1 ?k2 ?k3 ?k4 ?k5 ?k6 ?k7 ?_; (case k1 => k_asm); (case k4 => assumption); (case k2 => k_asm); (case k3 => k_upd); (case k5 => exact News.isTup (by k_asm) (by k_mem)); (case k6 => exact rfl); (case k7 => exact rfl); k_whole; intro h' F' N'; (try k_sweep))
  | (refine' tup_turn ?k1 ?k2 ?k3 ?k4 ?k5 ?k6 ?k7 ?_; (case k1 => k_asm); (case k4 => assumption); (case k2 => k_asm); (case k3 => k_updF); (case k5 => exact News.isTup (by k_asm) (by k_mem)); (case k6 => first | exact get2_0 | exact get2_1 | exact rfl); (case k7 => k_ne); k_whole; intro h' o' F' N' x' T'; (try k_sweep)))))
local macro_rules | `(tactic| walk_at "call builtin:len") => `(tactic| (k_here; (with_reducible show wpAny _ _ (call (Value.builtin _) [Value.ref _]) _ _ _); k_dflt (refine' d_len (knd := intKind _ _) ?k1 ?k2 ?k3 ?k4 ?k5 ?k6 ?_; (case k1 => k_asm); (case k2 => k_mem); (case k3 => assumption); (case k4 => assumption); (case k5 => first | exact rowsK_length _ | rfl); (case k6 => (first | omega | (simp only [List.length_append, List.length_cons, List.length_nil]; omega))); k_whole; intro tk')))
local macro_rules | `(tactic| walk_at "getMethod ref") => `(tactic| (k_here; (with_reducible show wpAny _ _ (getMethod (Value.ref _) (Str.ofString "get") _) _ _ _); k_dflt (refine' d_meth (knd := intKind _ _) ?k1 ?k2 ?k3 PySem.F.slot_dict_get PySem.F.type_dict_get ?_; (case k1 => k_asm); (case k2 => k_mem); (case k3 => assumption); k_whole)))
local macro_rules | `(tactic| walk_at "call builtin:dict.get") => `(tactic| (k_here; (with_reducible show wpAny _ _ (call (Value.builtin _) [Value.ref _, Value.int _ _]) _ _ _); k_dflt (refine' d_get (knd := intKind _ _) ?k1 ?k2 ?k3 ?k4 (intKind_is _ _ _ _) ?_; (case k1 => k_asm); (case k2 => k_mem); (case k3 => assumption); (case k4 => assumption); k_whole)))
local macro_rules | `(tactic| walk_at "compareOp In int ref") => `(tactic| (k_here; k_dflt (refine' d_in (knd := intKind _ _) ?k1 ?k2 ?k3 ?k4 (intKind_is _ _ _ _) ?_; (case k1 => k_asm); (case k2 => k_mem); (case k3 => assumption); (case k4 => assumption); k_whole)))
local macro_rules | `(tactic| walk_at "subscriptTail") => `(tactic| (k_here; (with_reducible show wpAny _ _ (subscriptTail _ _ (Value.ref _) (Value.int _ _)) _ _ _); k_dflt (refine' d_item (knd := intKind _ _) ?k1 ?k2 ?k3 (intKind_is _ _ _ _) ?k5 ?_; (case k1 => k_asm); (case k2 => k_mem); (case k3 => assumption); (case k5 => assumption); k_whole)))
local macro_rules | `(tactic| walk_at "setItem ref int") => `(tactic| (k_here; k_dflt (refine' d_set (knd := intKind _ _) ?k1 ?k2 ?k3 ?k4 (intKind_is _ _ _ _) ?k6 ?_; (case k1 => k_asm); (case k2 => k_asm); (case k3 => k_updF); (case k4 => assumption); (case k6 => (rw [sizeLine_eq]; (first | omega | (simp only [rowsK_length, rowK_length, List.length_map, List.length_append, List.length_cons, List.length_nil]; omega)))); k_whole); intro h' o' F' N' hd'; (try dsimp only at N'); (try simp only [rowsK_length, stored_rows] at hd'); (try k_sweep)))
local macro_rules | `(tactic| k_all) => `(tactic| first | assumption | (refine List.forall_mem_append.mpr ⟨?_, ?_⟩ <;> k_all) | (exact tbn_neAll (by first | assumption | tbn_find)) | (exact tbn_neAll (tbn_up (by assumption) (by tbn_find))))
local macro_rules | `(tactic| k_mem) => `(tactic| ((with_reducible show List.Mem _ _); first | (show (_ : Addr × Obj) ∈ (_ : List (Addr × Obj)); ktr_member) | ((with_reducible show List.Mem _ (_ ++ _)); first | (refine' List.mem_append_left _ ?q; (case q => k_mem)) | (refine' List.mem_append_right _ ?q; (case q => k_mem)))))
local macro_rules | `(tactic| k_put) => `(tactic| first | exact putL_nil _ _ _ _ _ | exact putL_one _ _ _ _ _ _ _ _)
local macro_rules | `(tactic| walk_at "eval Name") => `(tactic| (k_here; k_dflt (refine' nameX_L ?F ?v ?_ ?a ?b; (case F => k_asm); (case a => rfl); (case b => rfl); (case v => assumption); k_whole)))
local macro_rules | `(tactic| k_put) => `(tactic| first | exact putL_nil _ _ _ _ _ | exact putL_one _ _ _ _ _ _ _ _ | exact putL_err_pos | exact putL_err_expr)
local macro_rules | `(tactic| walk_at "getAttr ref") => `(tactic| (k_here; k_dflt (refine' exc_getD ?k1 ?k2 ?k3 ?k4 ?k5 ?k6 ?k7 ?k8 ?k9 ?k10 ?k11 ?_; (case k1 => k_asm); (case k2 => k_asm); (case k3 => (refine' InstAt.of_newsF ?N ?h1 ?h2; (case N => k_asm); (case h1 => k_mem); (case h2 => k_mem))); (case k4 => k_is); (case k5 => k_is); (case k6 => k_is); (case k7 => k_is); (case k8 => k_is); (case k9 => k_is); (case k10 => k_get); (case k11 => k_handed); k_whole)))
local macro_rules | `(tactic| walk_at "setAttr ref") => `(tactic| (k_here; k_dflt (refine' exc_set ?k1 ?k2 ?k3 ?k4 ?k5 ?k6 ?k7 ?k8 ?k9 ?k10 ?k11 ?k12 ?k13 ?_; (case k1 => k_asm); (case k2 => k_asm); (case k3 => k_asm); (case k4 => (refine' InstAt.of_newsF ?N ?h1 ?h2; (case N => k_asm); (case h1 => k_mem); (case h2 => k_mem))); (case k5 => exact rfl); (case k6 => k_is); (case k7 => kernel_rfl); (case k8 => k_is); (case k9 => k_is); (case k10 => k_get); (case k11 => k_put); (case k12 => k_upd); (case k13 => exact Nat.le_of_ble_eq_true rfl); k_whole; intro h' F' N'; (try k_sweep))))
local macro_rules | `(tactic| k_slotget) => `(tactic| first | assumption | rfl)
local macro_rules | `(tactic| walk_at "getAttr ref") => `(tactic| (k_here; k_dflt (refine' get_slotW ?k1 ?k2 ?k3 ?k4 ?k5 ?k6 ?k7 ?k8 ?k9 ?k10 ?k11 ?_; (case k1 => k_asm); (case k2 => k_asm); (case k3 => k_asm); (case k4 => k_mem); (case k5 => k_is); (case k6 => k_is); (case k7 => k_is); (case k8 => k_is); (case k9 => k_is); (case k10 => k_slotget); (case k11 => k_handed); k_whole)))
local macro_rules | `(tactic| walk_at "call builtin:len") => `(tactic| (k_here; (with_reducible show wpAny _ _ (call (Value.builtin _) [Value.str _ _]) _ _ _); k_dflt (refine' SC.len_str ?k1 ?_; (case k1 => assumption); k_whole)))
local macro_rules | `(tactic| walk_at "getMethod ref") => `(tactic| (k_here; (with_reducible show wpAny _ _ (getMethod (Value.ref _) (Str.ofString "match_core") _) _ _ _); k_dflt (refine' meth_core ?k1 ?k2 ?k3 ?k4 ?k5 ?_; (case k1 => k_asm); (case k2 => k_asm); (case k4 => k_inst); (case k3 => assumption); (case k5 => assumption); k_whole)))
local macro_rules | `(tactic| walk_at "call ref") => `(tactic| (k_here; (with_reducible show wpAny _ _ (call (Value.ref 266) _) _ _ _); refine Held.out ?_))
local macro_rules | `(tactic| walk_at "exec For Name Attribute cons nil") => `(tactic| (k_here; refine for_F ?_))
local macro_rules | `(tactic| walk_at "truthy ref") => `(tactic| (k_here; k_dflt (refine' truthyL ?k1 ?k2 ?k3 ?k4 ?_; (case k1 => k_asm); (case k2 => k_mem); (case k3 => first | assumption | (simp only [List.size_toArray, List.length_cons, List.length_nil]; decide) | (simp only [Array.size_push, List.size_toArray, List.length_cons, List.length_nil]; omega)); (case k4 => first | assumption | exact ne1 | exact ne0 | exact neP); k_whole); intro tk'))
local macro_rules | `(tactic| walk_at "call ref") => `(tactic| (k_here; (with_reducible show wpAny _ _ (call (Value.ref 522) _) _ _ _); refine Held.out ?_))
local macro_rules | `(tactic| walk_at "call ref") => `(tactic| (k_here; (with_reducible show wpAny _ _ (call (Value.ref 529) _) _ _ _); refine Held.out ?_))
local macro_rules | `(tactic| walk_at "exec For Name Call cons nil") => `(tactic| (k_here; refine for_F ?_))
local macro_rules | `(tactic| walk_at "pyIter ref") => `(tactic| (k_here; (with_reducible show wpAny _ _ (pyIter (Value.ref _)) (fun it s₂ => codeAny _ _ (Code.forLoop _ it _ _ _) _ s₂) _ _); refine Held.out ?_))
local macro_rules | `(tactic| walk_at "loadName") => `(tactic| (k_here; k_dflt (refine' loadX_L ?F ?v ?_ ?a ?b; (case F => k_asm); (case a => rfl); (case b => rfl); (case v => assumption); k_whole)))
abbrev rgO (x left : Int) : Obj := { cls := .type "range_iterator", dict := none, data := .fields #[rawInt x, rawInt left, rawInt 1], slots := #[] }
section
variable {prog : Program} {w : World} {A : Around} {E : Value → Shared → Prop} {s : Shared} {h₀ : Heap} {L I : Addr} {m : Str → Option Value} {news : Led} {x left : Int} {Q : Option Value → Shared → Prop}
theorem range_end (F : Fr h₀ L s.heap m) (N : News h₀ L s.heap news) (hm : (I, rgO x left) ∈ news) (hl : left ≤ 0) (hh : A.handled = none)
    (h : ∀ h', Fr h₀ L h' m → (∀ news' : Led, (∀ q ∈ news', q ∈ news ∧ q.1 ≠ I) → News h₀ L h' news') → Q none { s with heap := h' }) : wpAny (model prog w) A (pyNext (.ref I)) Q E s := by
  have hI := N _ hm
  refine wpAny_pyNext_range_end hh hI.1 hl fun h' he => h h' ?_ fun news' hn q hq => ?_
  · obtain ⟨oL, es, ep, hL, r⟩ := F.ns
    exact ⟨⟨oL, es, ep, he _ _ (Ne.symm hI.2.1) hL, r⟩, fun b o e => he b o (fun q => by subst q; rw [hI.2.2] at e; cases e) (F.keep b o e), F.above⟩
  · have P := N q (hn q hq).1
    exact ⟨he _ _ (hn q hq).2 P.1, P.2⟩
theorem range_item (F : Fr h₀ L s.heap m) (N : News h₀ L s.heap news) (hm : (I, rgO x left) ∈ news) (hl : 0 < left)
    (h : ∀ h', Fr h₀ L h' m → (∀ news' : Led, (∀ q ∈ news', q = (I, rgO (x + 1) (left - 1)) ∨ (q ∈ news ∧ q.1 ≠ I)) → News h₀ L h' news') → Q (some (.int x s.toks)) { s with heap := h', toks := s.toks + 1 }) : wpAny (model prog w) A (pyNext (.ref I)) Q E s := by
  have hI := N _ hm
  refine wpAny_pyNext_range_item hI.1 hl fun h' hit hs => h h' (Fr.swap F N hm hs) fun news' hn q hq => ?_
  rcases hn q hq with rfl | ⟨a, b⟩
  · exact ⟨hit, hI.2⟩
  · have P := N q a
    exact ⟨(hs.2 _ b).trans P.1, P.2⟩
end
theorem range_size (n : Nat) : Builtin.Range.rangeSize 0 ((n : Int) + 4) 1 = ((n + 4 : Nat) : Int) := by
  unfold Builtin.Range.rangeSize
  simp
  omega
theorem range_small {n : Nat} (h : n ≤ 1000) : Builtin.Range.small 0 ((n : Int) + 4) 1 = true := by
  unfold Builtin.Range.small
  rw [range_size]
  simp [Builtin.Range.rangeFitsLong]
  omega
structure LocR (T : Str) (t1 : Tok) (lk : Addr) (v2 : Value) (least : Nat) (most : Option Nat) (tl tm : Tok) (p : Nat) (tp : Tok) (count : Nat) (tc : Tok) (m : Str → Option Value) : Prop where
  e1 : m (Str.ofString "text") = some (.str T t1)
  e2 : m (Str.ofString "place") = some (.int p tp)
  e3 : m (Str.ofString "looked") = some (.ref lk)
  e4 : m (Str.ofString "one") = some v2
  e5 : m (Str.ofString "least") = some (.int least tl)
  e6 : m (Str.ofString "most") = some (.int (mostI most) tm)
  e7 : m (Str.ofString "count") = some (.int count tc)
def RInv (w : World) (T : Str) (g : Heap) (L' : Addr) (s₀ : Shared) (t1 : Tok) (lk I : Addr) (v2 : Value) (e : PE) (least : Nat) (most : Option Nat) (tl tm : Tok) (ep : Nat) (Z : Led) (G : Option Nat × Nat) (k : Nat) (s' : Shared) : Prop :=
  ∃ x count p l h' tk m' tp tc t3, s' = { s₀ with heap := h', toks := tk } ∧ Fr g L' h' m' ∧ LocR T t1 lk v2 least most tl tm p tp count tc m' ∧ News g L' h' ((lk, listObj [.int (l : Nat) t3] ep) :: (I, rgO x k) :: Z) ∧ p ≤ T.cps.size ∧ manyR (readP T.cps.toList e) T.cps.size least most k count p l = G
def REnd (w : World) (T : Str) (g : Heap) (L' : Addr) (s₀ : Shared) (t1 : Tok) (lk : Addr) (v2 : Value) (least : Nat) (most : Option Nat) (tl tm : Tok) (ep : Nat) (Z : Led) (G : Option Nat × Nat) (f : Flow) (s' : Shared) : Prop :=
  f = .next ∧ ∃ count p l h' tk m' tp tc t3, s' = { s₀ with heap := h', toks := tk } ∧ Fr g L' h' m' ∧ LocR T t1 lk v2 least most tl tm p tp count tc m' ∧ News g L' h' ((lk, listObj [.int (l : Nat) t3] ep) :: Z) ∧ ((if least ≤ count then some p else none, l) : Option Nat × Nat) = G
def ManyOK (w : World) (T : Str) (n least : Nat) (most : Option Nat) (e : PE) : Prop :=
  ∀ (dp un : Nat) (gd : Option (List Code)) (cn : Str) (cs : Scope) (a : Addr) (ccd : Value) (cl : List (Str × Addr)) (outer : List Env) (A₀ : Around) (base h₀ : Heap) (L : Addr) (m : Str → Option Value) (s : Shared)
    (loose : List Str) (mean : ExcName → Option Value) (mg mb : Str → Option Value) (Q E : Value → Shared → Prop) (lk : Addr) (pv : Value) (p l : Nat) (t1 t2 t3 : Tok) (ep : Nat) (Z : Led),
    Below A₀ base outer h₀ → Fr h₀ L s.heap m → (hd.heap_39 w.params).In h₀ → Top topProg loose mean mg mb h₀ → cs.kind = .function →
    News h₀ L s.heap ((lk, listObj [.int (l : Nat) t3] ep) :: Z) → DatIn Z pv (planD (.many n least most e)) → (∀ q ∈ Z, q.1 ≠ lk) → p ≤ T.cps.size → T.cps.size ≤ 1000 →
    dp + 4 * e.deep + 10 < recursionLimit → un + 60 * e.deep + 130 < cLine →
    (∀ h' tk' t3' tr, Fr h₀ L h' m → News h₀ L h' ((lk, listObj [.int ((readP T.cps.toList (.many n least most e) p l).2 : Nat) t3'] ep) :: Z) → Q (.int (endI (readP T.cps.toList (.many n least most e) p l).1) tr) { s with heap := h', toks := tk' }) →
    wpAny (model PR w) (ktrTop dp un gd cn cs L a ccd cl outer) (call (.ref 529) [pv, .str T t1, .int p t2, .ref lk]) Q E s
theorem many_ok {w : World} {T : Str} {n least : Nat} {most : Option Nat} {e : PE} (hlq : least ≤ 2) (IH : ReadOK w T e) : ManyOK w T n least most e := by
  intro dp un gd cn cs a ccd cl outer A₀ base h₀ L m s loose mean mg mb Q E lk pv p l t1 t2 t3 ep Z B F X Tp hk N hpl hoff hp hT hd hun ret
  replace hpl : DatIn Z pv (.tuple [.str (Str.ofString "many"), planD e, .int least, .int (mostI most)]) := hpl
  cases hpl with
  | tuple hm hA =>
  cases hA with
  | cons h1 hA =>
  cases hA with
  | cons h2 hA =>
  cases hA with
  | cons h3 hA =>
  cases hA with
  | cons h4 hA =>
  cases hA
  cases h1
  cases h3
  cases h4
  have hvh := h2.handed
  have hfT : ¬ (T.length : Int) ≥ 2 ^ 63 := by simp only [Str.length]; omega
  have hTl : T.cps.toList.length = T.cps.size := Array.length_toList
  refine wpAny_call ?_
  k_dflt ktr_enter
  k_steps
  unfold Held
  rename Fr _ _ _ (fun _ => _) => F1
  rename News _ _ _ _ => N1
  rename Below _ _ _ _ => B1
  rename Frag.In _ _ => X1
  rename Top _ _ _ _ _ _ => T1
  rename IsRange _ _ _ _ _ _ _ _ => R1
  have hTn : (T.length : Int) = ((T.cps.size : Nat) : Int) := rfl
  rw [hTn] at R1
  refine wpAny_pyIter_range R1 (range_small hT) ?_
  rename_i ad nn v2 tka tkb tkc g1 L1 h97 FG1 h96 h95 h94 h93 h92 h91 F0 N0 h90 tk90 q1 q2 q3 ax
  rw [range_size]
  have N2 := News.push F1 N1 (rgO 0 (T.cps.size + 4 : Nat)) rfl
  have F2 : Fr g1 L1 (h90.push (rgO 0 (T.cps.size + 4 : Nat))) _ := F1.push _
  have hIl : ∀ q ∈ (lk, listObj [.int (l : Nat) t3] ep) :: Z, q.1 < h90.objs.size := fun q hq => Heap.lt_size (N1 q hq).1
  generalize hI0 : h90.objs.size = I0 at N2 hIl
  have hIlk : lk ≠ I0 := Nat.ne_of_lt (hIl _ (.head _))
  have hIZ : ∀ q ∈ Z, q.1 ≠ I0 := fun q hq => Nat.ne_of_lt (hIl q (.tail _ hq))
  generalize hG : readP T.cps.toList (.many n least most e) p l = G at ret
  replace hG : manyR (readP T.cps.toList e) T.cps.size least most (T.cps.size + 4) 0 p l = G := by rw [← hG, readP, hTl]
  have hInit : RInv w T g1 L1 s t1 lk I0 v2 e least most tkb tkc ep Z G (T.cps.size + 4) { s with heap := h90.push (rgO 0 (T.cps.size + 4 : Nat)), toks := tk90 } := by
    refine ⟨0, 0, p, l, _, _, _, t2, _, t3, rfl, F2, ⟨by rfl, by rfl, by rfl, by rfl, by rfl, by rfl, by rfl⟩, fun q hq => N2 q ?_, hp, hG⟩
    simp only [List.mem_cons] at hq ⊢
    rcases hq with h | h | h <;> simp only [h, true_or, or_true]
  clear F0 N0 F1 N1 F2 N2 N R1 ax
  refine codeAny_mono (for_J (Q := REnd w T g1 L1 s t1 lk v2 least most tkb tkc ep Z G) (RInv w T g1 L1 s t1 lk I0 v2 e least most tkb tkc ep Z G) ?_ (T.cps.size + 4) hInit) ?_
  · rintro k s' ⟨x, count, p2, l2, h2', tk2, m2, tp, tc, t32, rfl, F2, ⟨e1, e2, e3, e4, e5, e6, e7⟩, N2, hp2, hGo⟩
    cases k with
    | zero =>
      refine range_end F2 N2 (.tail _ (.head _)) (Int.le_refl _) rfl fun h3 F3 N3 => ?_
      replace N3 : News g1 L1 h3 ((lk, listObj [.int (l2 : Nat) t32] ep) :: Z) := N3 _ fun q hq => by
        rcases List.mem_cons.mp hq with rfl | hq
        · exact ⟨.head _, hIlk⟩
        · exact ⟨.tail _ (.tail _ hq), hIZ q hq⟩
      rw [manyR] at hGo
      k_steps
      exact ⟨rfl, count, p2, l2, _, _, m2, tp, tc, t32, rfl, by assumption, ⟨e1, e2, e3, e4, e5, e6, e7⟩, by assumption, hGo⟩
    | succ k =>
      rw [manyR] at hGo
      refine range_item F2 N2 (.tail _ (.head _)) (by omega) fun h3 F3 N3 => ?_
      have ek1 : (((k + 1 : Nat) : Int) - 1) = (k : Int) := by omega
      rw [ek1] at N3
      replace N3 : News g1 L1 h3 ((lk, listObj [.int (l2 : Nat) t32] ep) :: (I0, rgO (x + 1) k) :: Z) := N3 _ fun q hq => by
        rcases List.mem_cons.mp hq with rfl | hq
        · exact .inr ⟨.head _, hIlk⟩
        · rcases List.mem_cons.mp hq with rfl | hq
          · exact .inl rfl
          · exact .inr ⟨.tail _ (.tail _ hq), hIZ q hq⟩
      clear F2 N2
      have ecp : ((p2 : Int) + 1) = ((p2 + 1 : Nat) : Int) := rfl
      have drop : ∀ {h4 : Heap} {o o2 : Obj}, News g1 L1 h4 ((lk, o) :: (I0, o2) :: Z) → News g1 L1 h4 ((lk, o) :: Z) := fun hN q hq => hN q (by
        simp only [List.mem_cons] at hq ⊢
        rcases hq with h | h <;> simp only [h, true_or, or_true])
      by_cases hstop : T.cps.size ≤ p2 ∨ most = some count
      · rw [if_pos hstop] at hGo
        by_cases hs1 : T.cps.size ≤ p2
        · have hge : (p2 : Int) ≥ (T.length : Int) := by rw [hTn]; omega
          k_steps
          rename Fr g1 L1 _ _ => kF
          rename News g1 L1 _ _ => kN
          dsimp only
          simp only [ecp, max_nat] at kN
          exact ⟨rfl, count, p2, max l2 (p2 + 1), _, _, _, tp, tc, _, rfl, kF, ⟨by exact e1, by exact e2, by exact e3, by exact e4, by exact e5, by exact e6, by exact e7⟩, drop kN, hGo⟩
        · have hge : ¬ (p2 : Int) ≥ (T.length : Int) := by rw [hTn]; omega
          have hc : ((count : Int) == mostI most) = true := by rw [hstop.resolve_left hs1]; simp [mostI]
          k_steps
          rename Fr g1 L1 _ _ => kF
          rename News g1 L1 _ _ => kN
          dsimp only
          simp only [ecp, max_nat] at kN
          exact ⟨rfl, count, p2, max l2 (p2 + 1), _, _, _, tp, tc, _, rfl, kF, ⟨by exact e1, by exact e2, by exact e3, by exact e4, by exact e5, by exact e6, by exact e7⟩, drop kN, hGo⟩
      · rw [if_neg hstop] at hGo
        have hge : ¬ (p2 : Int) ≥ (T.length : Int) := by rw [hTn]; omega
        have hc : ((count : Int) == mostI most) = false := by
          cases most with
          | none => simp [mostI]
          | some q => simp [mostI]; intro hq; exact hstop (.inr (by rw [Int.ofNat.inj hq]))
        k_steps
        unfold Held
        rename Fr _ _ _ (fun _ => _) => F4
        rename News _ _ _ _ => N4
        simp only [ecp, max_nat] at N4
        refine IH _ _ _ _ _ _ _ _ _ _ _ _ _ _ _ _ _ _ _ _ _ lk _ p2 (max l2 (p2 + 1)) _ _ _ _ ((I0, rgO (x + 1) k) :: Z) B1 F4 X1 T1 rfl N4 (DatIn.mono (fun q hq => .tail _ hq) h2) (fun q hq => ?_) hp2 hT ?_ ?_ ?_
        · rcases List.mem_cons.mp hq with rfl | hq
          · exact Ne.symm hIlk
          · exact hoff q hq
        · show dp + 1 + _ + _ < _; omega
        · show un + 3 + _ + _ < _; omega
        · intro h5 tk5 t35 tr5 F5 N5
          have hle := readP_le (T := T.cps.toList) e p2 (max l2 (p2 + 1))
          generalize readP T.cps.toList e p2 (max l2 (p2 + 1)) = O at *
          obtain ⟨O1, O2⟩ := O
          simp only [] at hGo N5 hle
          clear N4 F4
          cases O1 with
          | none =>
            simp only [endI] at *
            k_steps
            rename Fr g1 L1 _ _ => kF
            rename News g1 L1 _ _ => kN
            dsimp only
            exact ⟨rfl, count, p2, O2, _, _, _, tp, tc, _, rfl, kF, ⟨by exact e1, by exact e2, by exact e3, by exact e4, by exact e5, by exact e6, by exact e7⟩, drop kN, hGo⟩
          | some e' =>
            obtain ⟨hle1, hle2⟩ := hle e' (by omega) rfl
            simp only [endI] at *
            have hneg : ¬ ((e' : Nat) : Int) < 0 := by omega
            by_cases hq : least ≤ count + 1 ∧ e' = p2
            · rw [if_pos hq] at hGo
              have hq1 : ((count : Int) + 1) ≥ (least : Int) := by omega
              have hq2 : ((e' : Int) == (p2 : Int)) = true := by rw [hq.2]; simp
              k_steps
              rename Fr g1 L1 _ _ => kF
              rename News g1 L1 _ _ => kN
              dsimp only
              exact ⟨rfl, count + 1, p2, O2, _, _, _, tp, _, _, rfl, kF, ⟨by exact e1, by exact e2, by exact e3, by exact e4, by exact e5, by exact e6, by rfl⟩, drop kN, hGo⟩
            · rw [if_neg hq] at hGo
              by_cases hq1 : ((count : Int) + 1) ≥ (least : Int)
              · have hq2 : ((e' : Int) == (p2 : Int)) = false := by simp; omega
                k_steps
                rename Fr g1 L1 _ _ => kF
                rename News g1 L1 _ _ => kN
                dsimp only
                exact ⟨k, Nat.lt_succ_self _, x + 1, count + 1, e', O2, _, _, _, _, _, _, rfl, kF, ⟨by exact e1, by rfl, by exact e3, by exact e4, by exact e5, by exact e6, by rfl⟩, kN, by omega, hGo⟩
              · k_steps
                rename Fr g1 L1 _ _ => kF
                rename News g1 L1 _ _ => kN
                dsimp only
                exact ⟨k, Nat.lt_succ_self _, x + 1, count + 1, e', O2, _, _, _, _, _, _, rfl, kF, ⟨by exact e1, by rfl, by exact e3, by exact e4, by exact e5, by exact e6, by rfl⟩, kN, by omega, hGo⟩
  · intro r s' hr
    cases r with
    | error e => exact hr.elim
    | ok f =>
      obtain ⟨rfl, count, p2, l2, h2', tk2, m2, tp, tc, t32, rfl, F2, ⟨e1, e2, e3, e4, e5, e6, e7⟩, N2, hG2⟩ := hr
      subst hG2
      clear hInit hG
      show okR _ (.ok .next) _
      unfold okR
      dsimp only
      by_cases hc : least ≤ count
      · have hc' : ((count : Nat) : Int) ≥ ((least : Nat) : Int) := by omega
        rw [if_pos hc] at ret
        k_steps
        rename Fr h₀ L _ m => kF
        rename News h₀ L _ _ => kN
        exact ret _ _ _ _ kF kN
      · have hc' : ¬ ((count : Nat) : Int) ≥ ((least : Nat) : Int) := by omega
        rw [if_neg hc] at ret
        k_steps
        rename Fr h₀ L _ m => kF
        rename News h₀ L _ _ => kN
        exact ret _ _ _ _ kF kN
end Mine
namespace Mine
local macro_rules | `(tactic| walk_at "zz") => `(tactic| fail)
local macro_rules | `(tactic| walk_at "zz") => `(tactic| fail)
local macro_rules | `(tactic| walk_at "zz") => `(tactic| fail)
local macro_rules | `(tactic| walk_at "zz") => `(tactic| fail)
local macro_rules | `(tactic| walk_at "zz") => `(tactic| fail)
local macro_rules | `(tactic| walk_at "zz") => `(tactic| fail)
local macro_rules | `(tactic| walk_at "zz") => `(tactic| fail)
local macro_rules | `(tactic| walk_at "zz") => `(tactic| fail)
local macro_rules | `(tactic| walk_at "zz") => `(tactic| fail)
local macro_rules | `(tactic| walk_at "zz") => `(tactic| fail)
local macro_rules | `(tactic| walk_at "zz") => `(tactic| fail)
local macro_rules | `(tactic| walk_at "zz") => `(tactic| fail)
local macro_rules | `(tactic| walk_at "zz") => `(tactic| fail)
local macro_rules | `(tactic| walk_at "zz") => `(tactic| fail)
local macro_rules | `(tactic| walk_at "zz") => `(tactic| fail)
local macro_rules | `(tactic| walk_at "zz") => `(tactic| fail)
local macro_rules | `(tactic| walk_at "zz") => `(tactic| fail)
local macro_rules | `(tactic| walk_at "zz") => `(tactic| fail)
local macro_rules | `(tactic| walk_at "zz") => `(tactic| fail)
local macro_rules | `(tactic| walk_at "zz") => `(tactic| fail)
local macro_rules | `(tactic| walk_at "zz") => `(tactic| fail)
local macro_rules | `(tactic| walk_at "zz") => `(tactic| fail)
local macro_rules | `(tactic| walk_at "zz") => `(tactic| fail)
local macro_rules | `(tactic| walk_at "zz") => `(tactic| fail)
local macro_rules | `(tactic| walk_at "zz") => `(tactic| fail)
local macro_rules | `(tactic| walk_at "zz") => `(tactic| fail)
local macro_rules | `(tactic| walk_at "zz") => `(tactic| fail)
local macro_rules | `(tactic| walk_at "zz") => `(tactic| fail)
local macro_rules | `(tactic| walk_at "zz") => `(tactic| fail)
local macro_rules | `(tactic| walk_at "zz") => `(tactic| fail)
local macro_rules | `(tactic| walk_at "zz") => `(tactic| fail)
local macro_rules | `(tactic| walk_at "zz") => `(tactic| fail)
local macro_rules | `(tactic| walk_at "zz") => `(tactic| fail)
local macro_rules | `(tactic| walk_at "zz") => `(tactic| fail)
local macro_rules | `(tactic| walk_at "zz") => `(tactic| fail)
local macro_rules | `(tactic| walk_at "zz") => `(tactic| fail)
local macro_rules | `(tactic| walk_at "zz") => `(tactic| fail)
local macro_rules | `(tactic| walk_at "zz") => `(tactic| fail)
local macro_rules | `(tactic| walk_at "zz") => `(tactic| fail)
local macro_rules | `(tactic| walk_at "zz") => `(tactic| fail)
local macro_rules | `(tactic| walk_at "zz") => `(tactic| fail)
local macro_rules | `(tactic| walk_at "zz") => `(tactic| fail)
local macro_rules | `(tactic| walk_at "zz") => `(tactic| fail)
local macro_rules | `(tactic| walk_at "zz") => `(tactic| fail)
local macro_rules | `(tactic| walk_at "zz") => `(tactic| fail)
local macro_rules | `(tactic| walk_at "zz") => `(tactic| fail)
local macro_rules | `(tactic| walk_at "zz") => `(tactic| fail)
local macro_rules | `(tactic| walk_at "zz") => `(tactic| fail)
local macro_rules | `(tactic| walk_at "zz") => `(tactic| fail)
local macro_rules | `(tactic| walk_at "zz") => `(tactic| fail)
local macro_rules | `(tactic| walk_at "zz") => `(tactic| fail)
local macro_rules | `(tactic| walk_at "zz") => `(tactic| fail)
local macro_rules | `(tactic| walk_at "zz") => `(tactic| fail)
local macro_rules | `(tactic| walk_at "zz") => `(tactic| fail)
local macro_rules | `(tactic| walk_at "zz") => `(tactic| fail)
local macro_rules | `(tactic| walk_at "zz") => `(tactic| fail)
local macro_rules | `(tactic| walk_at "zz") => `(tactic| fail)
local macro_rules | `(tactic| walk_at "zz") => `(tactic| fail)
local macro_rules | `(tactic| walk_at "zz") => `(tactic| fail)
theorem rs_A_ra : True := by w_top off; trivial
local macro_rules | `(tactic| k_all) => `(tactic| assumption)
local macro_rules | `(tactic| k_ne) => `(tactic| first | assumption | exact Ne.symm (by assumption) | exact Nat.ne_of_lt (by assumption) | exact Nat.ne_of_gt (by assumption))
local macro_rules | `(tactic| k_room) => `(tactic| ktr_room)
local macro_rules | `(tactic| walk_at "call builtin:getattr") => `(tactic| (k_here; (with_reducible show wpAny _ _ (call (Value.builtin _) [_, Value.str _ _, _]) _ _ _); k_dflt (first
  | (refine' ga3_own ?k1 ?k2 ?k3 ?k4 ?k5 ?k6 ?k7 ?k8 ?k9 ?k10 ?k11 ?_; (case k1 => k_asm); (case k2 => k_asm); (case k3 => k_inst); (case k4 => k_is); (case k5 => k_is); (case k6 => k_is); (case k7 => k_is); (case k8 => k_get); (case k9 => k_handed); (case k10 => decide +kernel); (case k11 => k_is); k_whole)
  | (refine' ga3_miss ?k1 ?k2 ?k3 ?k4 ?k5 ?k6 ?k7 ?k8 ?k9 ?k10 ?k11 ?k12 ?k13 ?_; (case k1 => k_asm); (case k2 => k_asm); (case k3 => k_asm); (case k4 => k_inst); (case k5 => k_is); (case k6 => k_is); (case k7 => k_is); (case k8 => decide +kernel); (case k9 => k_get); (case k10 => decide +kernel); (case k11 => k_is); (case k12 => exact rfl); (case k13 => (first | (refine' MsgOk.of ?q1 ?q2 ?q3; (case q1 => k_is); (case q2 => decide +kernel); (case q3 => decide +kernel)) | (rename IsEx _ => h5; rcases h5 with e5 | e5 | e5 | e5 | e5 <;> subst e5 <;> (refine' MsgOk.of ?q1 ?q2 ?q3; (case q1 => k_is); (case q2 => decide +kernel); (case q3 => decide +kernel))))); k_whole; intro h' tk' F' N'; (try k_sweep)))))
local macro_rules | `(tactic| k_upd) => `(tactic| first | (refine' Off.head ?a; (case a => k_all)) | (refine' Off.tail ?a ?b; (case a => k_ne); (case b => k_upd)))
local macro_rules | `(tactic| walk_at "pyIter ref") => `(tactic| (k_here; (with_reducible show wpAny _ _ (pyIter (Value.ref _)) (fun it s₂ => codeAny _ _ (Code.forLoop _ it _ _ _) _ s₂) _ _); k_dflt (refine' tup_iter ?k1 ?k2 ?k3 ?_; (case k1 => k_asm); (case k2 => k_asm); (case k3 => exact News.isTup (by k_asm) (by k_mem)); k_whole); intro I' h' o' F' N' x' l1 l2; (try k_lt l1); (try k_lt2 l2); (try k_sweep)))
local macro_rules | `(tactic| walk_at "codeAny forLoop") => `(tactic| (k_here; (with_reducible show codeAny _ _ (Code.forLoop _ (Value.ref _) _ _ _) (okR _) _); k_dflt (first
  | (refine' tup_last ?k1 ?k2 ?k3 ?k4 ?k5 ?k6 ?k7 ?_; (case k1 => k_asm); (case k4 => assumption); (case k2 => k_asm); (case k3 => k_upd); (case k5 => exact News.isTup (by k_asm) (by k_mem)); (case k6 => exact rfl); (case k7 => exact rfl); k_whole; intro h' F' N'; (try k_sweep))
  | (refine' tup_turn ?k1 ?k2 ?k3 ?k4 ?k5 ?k6 ?k7 ?_; (case k1 => k_asm); (case k4 => assumption); (case k2 => k_asm); (case k3 => k_updF); (case k5 => exact News.isTup (by k_asm) (by k_mem)); (case k6 => first | exact get2_0 | exact get2_1 | exact rfl); (case k7 => k_ne); k_whole; intro h' o' F' N' x' T'; (try k_sweep)))))
local macro_rules | `(tactic| walk_at "call builtin:len") => `(tactic| (k_here; (with_reducible show wpAny _ _ (call (Value.builtin _) [Value.ref _]) _ _ _); k_dflt (refine' d_len (knd := intKind _ _) ?k1 ?k2 ?k3 ?k4 ?k5 ?k6 ?_; (case k1 => k_asm); (case k2 => k_mem); (case k3 => assumption); (case k4 => assumption); (case k5 => first | exact rowsK_length _ | rfl); (case k6 => (first | omega | (simp only [List.length_append, List.length_cons, List.length_nil]; omega))); k_whole; intro tk')))
local macro_rules | `(tactic| walk_at "getMethod ref") => `(tactic| (k_here; (with_reducible show wpAny _ _ (getMethod (Value.ref _) (Str.ofString "get") _) _ _ _); k_dflt (refine' d_meth (knd := intKind _ _) ?k1 ?k2 ?k3 PySem.F.slot_dict_get PySem.F.type_dict_get ?_; (case k1 => k_asm); (case k2 => k_mem); (case k3 => assumption); k_whole)))
local macro_rules | `(tactic| walk_at "call builtin:dict.get") => `(tactic| (k_here; (with_reducible show wpAny _ _ (call (Value.builtin _) [Value.ref _, Value.int _ _]) _ _ _); k_dflt (refine' d_get (knd := intKind _ _) ?k1 ?k2 ?k3 ?k4 (intKind_is _ _ _ _) ?_; (case k1 => k_asm); (case k2 => k_mem); (case k3 => assumption); (case k4 => assumption); k_whole)))
local macro_rules | `(tactic| walk_at "compareOp In int ref") => `(tactic| (k_here; k_dflt (refine' d_in (knd := intKind _ _) ?k1 ?k2 ?k3 ?k4 (intKind_is _ _ _ _) ?_; (case k1 => k_asm); (case k2 => k_mem); (case k3 => assumption); (case k4 => assumption); k_whole)))
local macro_rules | `(tactic| walk_at "subscriptTail") => `(tactic| (k_here; (with_reducible show wpAny _ _ (subscriptTail _ _ (Value.ref _) (Value.int _ _)) _ _ _); k_dflt (refine' d_item (knd := intKind _ _) ?k1 ?k2 ?k3 (intKind_is _ _ _ _) ?k5 ?_; (case k1 => k_asm); (case k2 => k_mem); (case k3 => assumption); (case k5 => assumption); k_whole)))
local macro_rules | `(tactic| walk_at "setItem ref int") => `(tactic| (k_here; k_dflt (refine' d_set (knd := intKind _ _) ?k1 ?k2 ?k3 ?k4 (intKind_is _ _ _ _) ?k6 ?_; (case k1 => k_asm); (case k2 => k_asm); (case k3 => k_updF); (case k4 => assumption); (case k6 => (rw [sizeLine_eq]; (first | omega | (simp only [rowsK_length, rowK_length, List.length_map, List.length_append, List.length_cons, List.length_nil]; omega)))); k_whole); intro h' o' F' N' hd'; (try dsimp only at N'); (try simp only [rowsK_length, stored_rows] at hd'); (try k_sweep)))
local macro_rules | `(tactic| k_all) => `(tactic| first | assumption | (refine List.forall_mem_append.mpr ⟨?_, ?_⟩ <;> k_all) | (exact tbn_neAll (by first | assumption | tbn_find)) | (exact tbn_neAll (tbn_up (by assumption) (by tbn_find))))
local macro_rules | `(tactic| k_mem) => `(tactic| ((with_reducible show List.Mem _ _); first | (show (_ : Addr × Obj) ∈ (_ : List (Addr × Obj)); ktr_member) | ((with_reducible show List.Mem _ (_ ++ _)); first | (refine' List.mem_append_left _ ?q; (case q => k_mem)) | (refine' List.mem_append_right _ ?q; (case q => k_mem)))))
local macro_rules | `(tactic| k_put) => `(tactic| first | exact putL_nil _ _ _ _ _ | exact putL_one _ _ _ _ _ _ _ _)
local macro_rules | `(tactic| walk_at "eval Name") => `(tactic| (k_here; k_dflt (refine' nameX_L ?F ?v ?_ ?a ?b; (case F => k_asm); (case a => rfl); (case b => rfl); (case v => assumption); k_whole)))
local macro_rules | `(tactic| k_put) => `(tactic| first | exact putL_nil _ _ _ _ _ | exact putL_one _ _ _ _ _ _ _ _ | exact putL_err_pos | exact putL_err_expr)
local macro_rules | `(tactic| walk_at "getAttr ref") => `(tactic| (k_here; k_dflt (refine' exc_getD ?k1 ?k2 ?k3 ?k4 ?k5 ?k6 ?k7 ?k8 ?k9 ?k10 ?k11 ?_; (case k1 => k_asm); (case k2 => k_asm); (case k3 => (refine' InstAt.of_newsF ?N ?h1 ?h2; (case N => k_asm); (case h1 => k_mem); (case h2 => k_mem))); (case k4 => k_is); (case k5 => k_is); (case k6 => k_is); (case k7 => k_is); (case k8 => k_is); (case k9 => k_is); (case k10 => k_get); (case k11 => k_handed); k_whole)))
local macro_rules | `(tactic| walk_at "setAttr ref") => `(tactic| (k_here; k_dflt (refine' exc_set ?k1 ?k2 ?k3 ?k4 ?k5 ?k6 ?k7 ?k8 ?k9 ?k10 ?k11 ?k12 ?k13 ?_; (case k1 => k_asm); (case k2 => k_asm); (case k3 => k_asm); (case k4 => (refine' InstAt.of_newsF ?N ?h1 ?h2; (case N => k_asm); (case h1 => k_mem); (case h2 => k_mem))); (case k5 => exact rfl); (case k6 => k_is); (case k7 => kernel_rfl); (case k8 => k_is); (case k9 => k_is); (case k10 => k_get); (case k11 => k_put); (case k12 => k_upd); (case k13 => exact Nat.le_of_ble_eq_true rfl); k_whole; intro h' F' N'; (try k_sweep))))
local macro_rules | `(tactic| k_slotget) => `(tactic| first | assumption | rfl)
local macro_rules | `(tactic| walk_at "getAttr ref") => `(tactic| (k_here; k_dflt (refine' get_slotW ?k1 ?k2 ?k3 ?k4 ?k5 ?k6 ?k7 ?k8 ?k9 ?k10 ?k11 ?_; (case k1 => k_asm); (case k2 => k_asm); (case k3 => k_asm); (case k4 => k_mem); (case k5 => k_is); (case k6 => k_is); (case k7 => k_is); (case k8 => k_is); (case k9 => k_is); (case k10 => k_slotget); (case k11 => k_handed); k_whole)))
local macro_rules | `(tactic| walk_at "call builtin:len") => `(tactic| (k_here; (with_reducible show wpAny _ _ (call (Value.builtin _) [Value.str _ _]) _ _ _); k_dflt (refine' SC.len_str ?k1 ?_; (case k1 => assumption); k_whole)))
local macro_rules | `(tactic| walk_at "getMethod ref") => `(tactic| (k_here; (with_reducible show wpAny _ _ (getMethod (Value.ref _) (Str.ofString "match_core") _) _ _ _); k_dflt (refine' meth_core ?k1 ?k2 ?k3 ?k4 ?k5 ?_; (case k1 => k_asm); (case k2 => k_asm); (case k4 => k_inst); (case k3 => assumption); (case k5 => assumption); k_whole)))
local macro_rules | `(tactic| walk_at "call ref") => `(tactic| (k_here; (with_reducible show wpAny _ _ (call (Value.ref 266) _) _ _ _); refine Held.out ?_))
local macro_rules | `(tactic| walk_at "exec For Name Attribute cons nil") => `(tactic| (k_here; refine for_F ?_))
local macro_rules | `(tactic| walk_at "truthy ref") => `(tactic| (k_here; k_dflt (refine' truthyL ?k1 ?k2 ?k3 ?k4 ?_; (case k1 => k_asm); (case k2 => k_mem); (case k3 => first | assumption | (simp only [List.size_toArray, List.length_cons, List.length_nil]; decide) | (simp only [Array.size_push, List.size_toArray, List.length_cons, List.length_nil]; omega)); (case k4 => first | assumption | exact ne1 | exact ne0 | exact neP); k_whole); intro tk'))
local macro_rules | `(tactic| walk_at "call ref") => `(tactic| (k_here; (with_reducible show wpAny _ _ (call (Value.ref 522) _) _ _ _); refine Held.out ?_))
local macro_rules | `(tactic| walk_at "call ref") => `(tactic| (k_here; (with_reducible show wpAny _ _ (call (Value.ref 529) _) _ _ _); refine Held.out ?_))
theorem read_many {w : World} {T : Str} {n least : Nat} {most : Option Nat} {e : PE} (hlq : least ≤ 2) (IH : ReadOK w T e) : ReadOK w T (.many n least most e) := by
  intro dp un gd cn cs a ccd cl outer A₀ base h₀ L m s loose mean mg mb Q E lk pv p l t1 t2 t3 ep Z B F X Tp hk N hpl hoff hp hT hd hun ret
  have hpl0 := hpl
  replace hpl : DatIn Z pv (.tuple [.str (Str.ofString "many"), planD e, .int least, .int (mostI most)]) := hpl
  cases hpl with
  | tuple hm hA =>
  cases hA with
  | cons h1 hA =>
  cases hA with
  | cons h2 hA =>
  cases hA with
  | cons h3 hA =>
  cases hA with
  | cons h4 hA =>
  cases hA
  cases h1
  cases h3
  cases h4
  simp only [PE.deep] at hd hun
  have hvh := h2.handed
  refine wpAny_call ?_
  k_dflt ktr_enter
  k_steps
  unfold Held
  rename Fr _ _ _ (fun _ => _) => F1
  rename News _ _ _ _ => N1
  rename Below _ _ _ _ => B1
  rename Frag.In _ _ => X1
  rename Top _ _ _ _ _ _ => T1
  refine many_ok hlq IH _ _ _ _ _ _ _ _ _ _ _ _ _ _ _ _ _ _ _ _ _ lk _ p l _ _ _ _ Z B1 F1 X1 T1 rfl N1 hpl0 hoff hp hT ?_ ?_ ?_
  · show dp + 1 + _ + _ < _; omega
  · show un + 3 + _ + _ < _; omega
  · intro h5 tk5 t35 tr5 F5 N5
    clear N1 F1 N
    k_steps
    rename Fr h₀ L _ m => kF
    rename News h₀ L _ _ => kN
    exact ret _ _ _ _ kF kN
theorem read_all {w : World} {T : Str} : ∀ e : PE, e.ok → ReadOK w T e
  | .word _ _, h => read_word h
  | .look _ _ e, h => read_look (read_all e h)
  | .many _ _ _ e, h => read_many h.1 (read_all e h.2)
  | .choice _ a b, h => read_choice (read_all a h.1) (read_all b h.2)
  | .chain _ a b, h => read_chain (read_all a h.1) (read_all b h.2)
end Mine
namespace Mine
local macro_rules | `(tactic| walk_at "zz") => `(tactic| fail)
local macro_rules | `(tactic| walk_at "zz") => `(tactic| fail)
local macro_rules | `(tactic| walk_at "zz") => `(tactic| fail)
local macro_rules | `(tactic| walk_at "zz") => `(tactic| fail)
local macro_rules | `(tactic| walk_at "zz") => `(tactic| fail)
local macro_rules | `(tactic| walk_at "zz") => `(tactic| fail)
local macro_rules | `(tactic| walk_at "zz") => `(tactic| fail)
local macro_rules | `(tactic| walk_at "zz") => `(tactic| fail)
local macro_rules | `(tactic| walk_at "zz") => `(tactic| fail)
local macro_rules | `(tactic| walk_at "zz") => `(tactic| fail)
local macro_rules | `(tactic| walk_at "zz") => `(tactic| fail)
local macro_rules | `(tactic| walk_at "zz") => `(tactic| fail)
local macro_rules | `(tactic| walk_at "zz") => `(tactic| fail)
local macro_rules | `(tactic| walk_at "zz") => `(tactic| fail)
local macro_rules | `(tactic| walk_at "zz") => `(tactic| fail)
local macro_rules | `(tactic| walk_at "zz") => `(tactic| fail)
local macro_rules | `(tactic| walk_at "zz") => `(tactic| fail)
local macro_rules | `(tactic| walk_at "zz") => `(tactic| fail)
local macro_rules | `(tactic| walk_at "zz") => `(tactic| fail)
local macro_rules | `(tactic| walk_at "zz") => `(tactic| fail)
local macro_rules | `(tactic| walk_at "zz") => `(tactic| fail)
local macro_rules | `(tactic| walk_at "zz") => `(tactic| fail)
local macro_rules | `(tactic| walk_at "zz") => `(tactic| fail)
local macro_rules | `(tactic| walk_at "zz") => `(tactic| fail)
local macro_rules | `(tactic| walk_at "zz") => `(tactic| fail)
local macro_rules | `(tactic| walk_at "zz") => `(tactic| fail)
local macro_rules | `(tactic| walk_at "zz") => `(tactic| fail)
local macro_rules | `(tactic| walk_at "zz") => `(tactic| fail)
local macro_rules | `(tactic| walk_at "zz") => `(tactic| fail)
local macro_rules | `(tactic| walk_at "zz") => `(tactic| fail)
local macro_rules | `(tactic| walk_at "zz") => `(tactic| fail)
local macro_rules | `(tactic| walk_at "zz") => `(tactic| fail)
local macro_rules | `(tactic| walk_at "zz") => `(tactic| fail)
local macro_rules | `(tactic| walk_at "zz") => `(tactic| fail)
local macro_rules | `(tactic| walk_at "zz") => `(tactic| fail)
local macro_rules | `(tactic| walk_at "zz") => `(tactic| fail)
local macro_rules | `(tactic| walk_at "zz") => `(tactic| fail)
local macro_rules | `(tactic| walk_at "zz") => `(tactic| fail)
local macro_rules | `(tactic| walk_at "zz") => `(tactic| fail)
local macro_rules | `(tactic| walk_at "zz") => `(tactic| fail)
local macro_rules | `(tactic| walk_at "zz") => `(tactic| fail)
local macro_rules | `(tactic| walk_at "zz") => `(tactic| fail)
local macro_rules | `(tactic| walk_at "zz") => `(tactic| fail)
local macro_rules | `(tactic| walk_at "zz") => `(tactic| fail)
local macro_rules | `(tactic| walk_at "zz") => `(tactic| fail)
local macro_rules | `(tactic| walk_at "zz") => `(tactic| fail)
local macro_rules | `(tactic| walk_at "zz") => `(tactic| fail)
local macro_rules | `(tactic| walk_at "zz") => `(tactic| fail)
local macro_rules | `(tactic| walk_at "zz") => `(tactic| fail)
local macro_rules | `(tactic| walk_at "zz") => `(tactic| fail)
local macro_rules | `(tactic| walk_at "zz") => `(tactic| fail)
local macro_rules | `(tactic| walk_at "zz") => `(tactic| fail)
local macro_rules | `(tactic| walk_at "zz") => `(tactic| fail)
local macro_rules | `(tactic| walk_at "zz") => `(tactic| fail)
local macro_rules | `(tactic| walk_at "zz") => `(tactic| fail)
local macro_rules | `(tactic| walk_at "zz") => `(tactic| fail)
local macro_rules | `(tactic| walk_at "zz") => `(tactic| fail)
local macro_rules | `(tactic| walk_at "zz") => `(tactic| fail)
local macro_rules | `(tactic| walk_at "zz") => `(tactic| fail)
local macro_rules | `(tactic| walk_at "zz") => `(tactic| fail)
local macro_rules | `(tactic| walk_at "zz") => `(tactic| fail)
local macro_rules | `(tactic| walk_at "zz") => `(tactic| fail)
theorem rs_A_sh : True := by w_top off; trivial
local macro_rules | `(tactic| k_all) => `(tactic| assumption)
local macro_rules | `(tactic| k_ne) => `(tactic| first | assumption | exact Ne.symm (by assumption) | exact Nat.ne_of_lt (by assumption) | exact Nat.ne_of_gt (by assumption))
local macro_rules | `(tactic| k_room) => `(tactic| ktr_room)
local macro_rules | `(tactic| walk_at "call builtin:getattr") => `(tactic| (k_here; (with_reducible show wpAny _ _ (call (Value.builtin _) [_, Value.str _ _, _]) _ _ _); k_dflt (first
  | (refine' ga3_own ?k1 ?k2 ?k3 ?k4 ?k5 ?k6 ?k7 ?k8 ?k9 ?k10 ?k11 ?_; (case k1 => k_asm); (case k2 => k_asm); (case k3 => k_inst); (case k4 => k_is); (case k5 => k_is); (case k6 => k_is); (case k7 => k_is); (case k8 => k_get); (case k9 => k_handed); (case k10 => decide +kernel); (case k11 => k_is); k_whole)
  | (refine' ga3_miss ?k1 ?k2 ?k3 ?k4 ?k5 ?k6 ?k7 ?k8 ?k9 ?k10 ?k11 ?k12 ?k13 ?_; (case k1 => k_asm); (case k2 => k_asm); (case k3 => k_asm); (case k4 => k_inst); (case k5 => k_is); (case k6 => k_is); (case k7 => k_is); (case k8 => decide +kernel); (case k9 => k_get); (case k10 => decide +kernel); (case k11 => k_is); (case k12 => exact rfl); (case k13 => (first | (refine' MsgOk.of ?q1 ?q2 ?q3; (case q1 => k_is); (case q2 => decide +kernel); (case q3 => decide +kernel)) | (rename IsEx _ => h5; rcases h5 with e5 | e5 | e5 | e5 | e5 <;> subst e5 <;> (refine' MsgOk.of ?q1 ?q2 ?q3; (case q1 => k_is); (case q2 => decide +kernel); (case q3 => decide +kernel))))); k_whole; intro h' tk' F' N'; (try k_sweep)))))
local macro_rules | `(tactic| k_upd) => `(tactic| first | (refine' Off.head ?a; (case a => k_all)) | (refine' Off.tail ?a ?b; (case a => k_ne); (case b => k_upd)))
local macro_rules | `(tactic| walk_at "pyIter ref") => `(tactic| (k_here; (with_reducible show wpAny _ _ (pyIter (Value.ref _)) (fun it s₂ => codeAny _ _ (Code.forLoop _ it _ _ _) _ s₂) _ _); k_dflt (refine' tup_iter ?k1 ?k2 ?k3 ?_; (case k1 => k_asm); (case k2 => k_asm); (case k3 => exact News.isTup (by k_asm) (by k_mem)); k_whole); intro I' h' o' F' N' x' l1 l2; (try k_lt l1); (try k_lt2 l2); (try k_sweep)))
local macro_rules | `(tactic| walk_at "codeAny forLoop") => `(tactic| (k_here; (with_reducible show codeAny _ _ (Code.forLoop _ (Value.ref _) _ _ _) (okR _) _); k_dflt (first
  | (refine' tup_last ?k1 ?k2 ?k3 ?k4 ?k5 ?k6 ?k7 ?_; (case k1 => k_asm); (case k4 => assumption); (case k2 => k_asm); (case k3 => k_upd); (case k5 => exact News.isTup (by k_asm) (by k_mem)); (case k6 => exact rfl); (case k7 => exact rfl); k_whole; intro h' F' N'; (try k_sweep))
  | (refine' tup_turn ?k1 ?k2 ?k3 ?k4 ?k5 ?k6 ?k7 ?_; (case k1 => k_asm); (case k4 => assumption); (case k2 => k_asm); (case k3 => k_updF); (case k5 => exact News.isTup (by k_asm) (by k_mem)); (case k6 => first | exact get2_0 | exact get2_1 | exact rfl); (case k7 => k_ne); k_whole; intro h' o' F' N' x' T'; (try k_sweep)))))
local macro_rules | `(tactic| walk_at "call builtin:len") => `(tactic| (k_here; (with_reducible show wpAny _ _ (call (Value.builtin _) [Value.ref _]) _ _ _); k_dflt (refine' d_len (knd := intKind _ _) ?k1 ?k2 ?k3 ?k4 ?k5 ?k6 ?_; (case k1 => k_asm); (case k2 => k_mem); (case k3 => assumption); (case k4 => assumption); (case k5 => first | exact rowsK_length _ | rfl); (case k6 => (first | omega | (simp only [List.length_append, List.length_cons, List.length_nil]; omega))); k_whole; intro tk')))
local macro_rules | `(tactic| walk_at "getMethod ref") => `(tactic| (k_here; (with_reducible show wpAny _ _ (getMethod (Value.ref _) (Str.ofString "get") _) _ _ _); k_dflt (refine' d_meth (knd := intKind _ _) ?k1 ?k2 ?k3 PySem.F.slot_dict_get PySem.F.type_dict_get ?_; (case k1 => k_asm); (case k2 => k_mem); (case k3 => assumption); k_whole)))
local macro_rules | `(tactic| walk_at "call builtin:dict.get") => `(tactic| (k_here; (with_reducible show wpAny _ _ (call (Value.builtin _) [Value.ref _, Value.int _ _]) _ _ _); k_dflt (refine' d_get (knd := intKind _ _) ?k1 ?k2 ?k3 ?k4 (intKind_is _ _ _ _) ?_; (case k1 => k_asm); (case k2 => k_mem); (case k3 => assumption); (case k4 => assumption); k_whole)))
local macro_rules | `(tactic| walk_at "compareOp In int ref") => `(tactic| (k_here; k_dflt (refine' d_in (knd := intKind _ _) ?k1 ?k2 ?k3 ?k4 (intKind_is _ _ _ _) ?_; (case k1 => k_asm); (case k2 => k_mem); (case k3 => assumption); (case k4 => assumption); k_whole)))
local macro_rules | `(tactic| walk_at "subscriptTail") => `(tactic| (k_here; (with_reducible show wpAny _ _ (subscriptTail _ _ (Value.ref _) (Value.int _ _)) _ _ _); k_dflt (refine' d_item (knd := intKind _ _) ?k1 ?k2 ?k3 (intKind_is _ _ _ _) ?k5 ?_; (case k1 => k_asm); (case k2 => k_mem); (case k3 => assumption); (case k5 => assumption); k_whole)))
local macro_rules | `(tactic| walk_at "setItem ref int") => `(tactic| (k_here; k_dflt (refine' d_set (knd := intKind _ _) ?k1 ?k2 ?k3 ?k4 (intKind_is _ _ _ _) ?k6 ?_; (case k1 => k_asm); (case k2 => k_asm); (case k3 => k_updF); (case k4 => assumption); (case k6 => (rw [sizeLine_eq]; (first | omega | (simp only [rowsK_length, rowK_length, List.length_map, List.length_append, List.length_cons, List.length_nil]; omega)))); k_whole); intro h' o' F' N' hd'; (try dsimp only at N'); (try simp only [rowsK_length, stored_rows] at hd'); (try k_sweep)))
local macro_rules | `(tactic| k_all) => `(tactic| first | assumption | (refine List.forall_mem_append.mpr ⟨?_, ?_⟩ <;> k_all) | (exact tbn_neAll (by first | assumption | tbn_find)) | (exact tbn_neAll (tbn_up (by assumption) (by tbn_find))))
local macro_rules | `(tactic| k_mem) => `(tactic| ((with_reducible show List.Mem _ _); first | (show (_ : Addr × Obj) ∈ (_ : List (Addr × Obj)); ktr_member) | ((with_reducible show List.Mem _ (_ ++ _)); first | (refine' List.mem_append_left _ ?q; (case q => k_mem)) | (refine' List.mem_append_right _ ?q; (case q => k_mem)))))
local macro_rules | `(tactic| k_put) => `(tactic| first | exact putL_nil _ _ _ _ _ | exact putL_one _ _ _ _ _ _ _ _)
local macro_rules | `(tactic| walk_at "eval Name") => `(tactic| (k_here; k_dflt (refine' nameX_L ?F ?v ?_ ?a ?b; (case F => k_asm); (case a => rfl); (case b => rfl); (case v => assumption); k_whole)))
local macro_rules | `(tactic| k_put) => `(tactic| first | exact putL_nil _ _ _ _ _ | exact putL_one _ _ _ _ _ _ _ _ | exact putL_err_pos | exact putL_err_expr)
local macro_rules | `(tactic| walk_at "getAttr ref") => `(tactic| (k_here; k_dflt (refine' exc_getD ?k1 ?k2 ?k3 ?k4 ?k5 ?k6 ?k7 ?k8 ?k9 ?k10 ?k11 ?_; (case k1 => k_asm); (case k2 => k_asm); (case k3 => (refine' InstAt.of_newsF ?N ?h1 ?h2; (case N => k_asm); (case h1 => k_mem); (case h2 => k_mem))); (case k4 => k_is); (case k5 => k_is); (case k6 => k_is); (case k7 => k_is); (case k8 => k_is); (case k9 => k_is); (case k10 => k_get); (case k11 => k_handed); k_whole)))
local macro_rules | `(tactic| walk_at "setAttr ref") => `(tactic| (k_here; k_dflt (refine' exc_set ?k1 ?k2 ?k3 ?k4 ?k5 ?k6 ?k7 ?k8 ?k9 ?k10 ?k11 ?k12 ?k13 ?_; (case k1 => k_asm); (case k2 => k_asm); (case k3 => k_asm); (case k4 => (refine' InstAt.of_newsF ?N ?h1 ?h2; (case N => k_asm); (case h1 => k_mem); (case h2 => k_mem))); (case k5 => exact rfl); (case k6 => k_is); (case k7 => kernel_rfl); (case k8 => k_is); (case k9 => k_is); (case k10 => k_get); (case k11 => k_put); (case k12 => k_upd); (case k13 => exact Nat.le_of_ble_eq_true rfl); k_whole; intro h' F' N'; (try k_sweep))))
local macro_rules | `(tactic| k_slotget) => `(tactic| first | assumption | rfl)
local macro_rules | `(tactic| walk_at "getAttr ref") => `(tactic| (k_here; k_dflt (refine' get_slotW ?k1 ?k2 ?k3 ?k4 ?k5 ?k6 ?k7 ?k8 ?k9 ?k10 ?k11 ?_; (case k1 => k_asm); (case k2 => k_asm); (case k3 => k_asm); (case k4 => k_mem); (case k5 => k_is); (case k6 => k_is); (case k7 => k_is); (case k8 => k_is); (case k9 => k_is); (case k10 => k_slotget); (case k11 => k_handed); k_whole)))
local macro_rules | `(tactic| walk_at "call builtin:len") => `(tactic| (k_here; (with_reducible show wpAny _ _ (call (Value.builtin _) [Value.str _ _]) _ _ _); k_dflt (refine' SC.len_str ?k1 ?_; (case k1 => assumption); k_whole)))
local macro_rules | `(tactic| walk_at "getMethod ref") => `(tactic| (k_here; (with_reducible show wpAny _ _ (getMethod (Value.ref _) (Str.ofString "match_core") _) _ _ _); k_dflt (refine' meth_core ?k1 ?k2 ?k3 ?k4 ?k5 ?_; (case k1 => k_asm); (case k2 => k_asm); (case k4 => k_inst); (case k3 => assumption); (case k5 => assumption); k_whole)))
local macro_rules | `(tactic| walk_at "call ref") => `(tactic| (k_here; (with_reducible show wpAny _ _ (call (Value.ref 266) _) _ _ _); refine Held.out ?_))
local macro_rules | `(tactic| walk_at "exec For Name Attribute cons nil") => `(tactic| (k_here; refine for_F ?_))
local macro_rules | `(tactic| walk_at "truthy ref") => `(tactic| (k_here; k_dflt (refine' truthyL ?k1 ?k2 ?k3 ?k4 ?_; (case k1 => k_asm); (case k2 => k_mem); (case k3 => first | assumption | (simp only [List.size_toArray, List.length_cons, List.length_nil]; decide) | (simp only [Array.size_push, List.size_toArray, List.length_cons, List.length_nil]; omega)); (case k4 => first | assumption | exact ne1 | exact ne0 | exact neP); k_whole); intro tk'))
theorem comp_ind {prog : Program} {w : World} {A : Around} {h₀ : Heap} {L : Addr} {m : Str → Option Value} {env : Env} {elt : Expr} {x : Str} {scope : Scope} {cl : List (Str × Addr)} {s : Shared} {S : Led → Prop} {P : Nat → Value → Prop} {Fin : List Value → Led → Prop}
    (Cond : Nat → Nat → List Value → Led → Prop) (zero : ∀ i ys news, Cond 0 i ys news → Fin ys news)
    (succ : ∀ k i ys news, Cond (k + 1) i ys news → ∀ v I oI C oC D m₂ h tk (E' : Value → Shared → Prop), P i v → LCg.NsObj oC m₂ → m₂ x = some v → Fr h₀ L h m → News h₀ L h ((I, oI) :: (C, oC) :: (D, LCg.lst ys) :: news) → LCg.Off3 I C D news → ((@Ne Nat I C) ∧ (@Ne Nat I D) ∧ (@Ne Nat C D)) →
      wpAny (model prog w) A (eval elt (compEnvC scope cl C env)) (LCg.CompEnd h₀ L m { s with heap := h, toks := tk } I oI C oC D (LCg.lst ys) S (fun y news' => Cond k (i + 1) (ys ++ [y]) news')) E' { s with heap := h, toks := tk }) :
    ∀ k i ys news, Cond k i ys news → LCg.CompRest prog w A h₀ L m env elt x scope cl s S P Fin k i ys news
  | 0, i, ys, news, h => LCg.CompRest.zero (zero i ys news h)
  | k + 1, i, ys, news, h => by
    intro v I oI C oC D m₂ hh tk E' hp hn hx F N o1 o2
    refine wpAny_mono (succ k i ys news h v I oI C oC D m₂ hh tk E' hp hn hx F N o1 o2) (fun y s' hy => ?_) fun _ _ q => q
    obtain ⟨h', tk', news', e, F', N', o', hS, hr⟩ := hy
    exact ⟨h', tk', news', e, F', N', o', hS, comp_ind Cond zero succ k (i + 1) (ys ++ [y]) news' hr⟩
theorem ex_nameW {w : World} {A : Around} {E : Value → Shared → Prop} {s : Shared} {x C L dx : Addr} {h₀ : Heap} {m : Str → Option Value} {news : Led} {sl : Array (Option Value)} {v : Value} {b : Bool} {Q : Value → Shared → Prop}
    (F : Fr h₀ L s.heap m) (X : (hd.heap_39 w.params).In h₀) (N : News h₀ L s.heap news) (hm : (x, (⟨.ref C, some dx, .plain, sl⟩ : Obj)) ∈ news) (hC : IsEx C) (hsl : (sl[nmIx C]?).join = some v) (hv : handedIn v = true) (h : Q v { s with toks := s.toks + 1 }) :
    wpAny (model PR w) A (getAttr (.ref x) (Str.ofString "name") b) Q E s := by
  rcases hC with rfl | rfl | rfl | rfl | rfl <;> (refine' get_slotW (i := nmIx _) F X N hm ?a ?b ?c ?d ?e hsl hv h; (case a => k_is); (case b => k_is); (case c => k_is); (case d => k_is); (case e => k_is))
local macro_rules | `(tactic| kc_enter) => `(tactic| (refine' code_def ?k1 ?k2 ?k3 ?k4 ?k5 ?kA ?kF ?kK ?k6 ?k7 ?k8 ?k9 ?kB ?_ ?c2 ?c3 ?c4 ?c5; (case kA => exact rfl); (case kF => exact rfl); (case kK => first | exact rfl | assumption); (case k1 => k_asm); (case k2 => k_asm); (case k3 => k_asm); (case k4 => k_asm); (case k5 => k_asm); (case k6 => k_is); (case k7 => k_is); (case k8 => ktr_room); (case k9 => exact BindsTo.of_eq rfl); (case c5 => decide); (case kB => exact locs rfl); (case c2 => exact rfl); (case c3 => exact rfl); (case c4 => exact rfl); k_whole; intro g' L' h' FG' F' N' B' X' T'; (try dsimp only); (try k_fold)))
local macro_rules | `(tactic| walk_at "getAttr ref") => `(tactic| (k_here; (with_reducible show wpAny _ _ (getAttr (Value.ref _) (Str.ofString "expr_name") _) _ _ _); k_dflt (refine' get_propW ?k1 ?k2 ?k3 ?k4 ?k5 ?k6 ?k7 ?k8 ?k9 ?_; (case k1 => k_asm); (case k2 => k_asm); (case k3 => k_asm); (case k4 => k_mem); (case k5 => k_is); (case k6 => k_is); (case k7 => k_is); (case k8 => k_is); (case k9 => k_is); k_whole; kc_enter)))
local macro_rules | `(tactic| walk_at "getAttr ref") => `(tactic| (k_here; (with_reducible show wpAny _ _ (getAttr (Value.ref _) (Str.ofString "name") _) _ _ _); k_dflt (refine' ex_nameW ?k1 ?k2 ?k3 ?k4 ?k5 ?k6 ?k7 ?_; (case k1 => k_asm); (case k2 => k_asm); (case k3 => k_asm); (case k4 => k_mem); (case k5 => assumption); (case k6 => assumption); (case k7 => rfl); k_whole)))
local macro_rules | `(tactic| walk_at "eval ListComp") => `(tactic| (k_here; refine Held.out ?_))
mutual
/-- what _law_shape tells -/
def shapeD (shift : Nat) : Tree → Dat
  | .nd n s e cs => .tuple [.str (nmS n), .int ((s : Int) - shift), .int ((e : Int) - shift), .list (shapeDs shift cs)]
def shapeDs (shift : Nat) : List Tree → List Dat
  | [] => []
  | t :: ts => shapeD shift t :: shapeDs shift ts
end
def ShapeOK (w : World) (T : Str) (shift : Nat) (t : Tree) : Prop :=
  ∀ (dp un : Nat) (gd : Option (List Code)) (cn : Str) (cs : Scope) (a : Addr) (ccd : Value) (cl : List (Str × Addr)) (outer : List Env) (A₀ : Around) (base h₀ : Heap) (L : Addr) (m : Str → Option Value) (s : Shared)
    (loose : List Str) (mean : ExcName → Option Value) (mg mb : Str → Option Value) (Q E : Value → Shared → Prop) (v : Value) (t1 : Tok) (I Z : Led),
    Below A₀ base outer h₀ → Fr h₀ L s.heap m → (hd.heap_39 w.params).In h₀ → Top topProg loose mean mg mb h₀ → cs.kind = .function →
    News h₀ L s.heap Z → (∀ q ∈ I, q ∈ Z) → NodeIn I T v t → t.fit →
    dp + 4 * t.deep + 8 < recursionLimit → un + 60 * t.deep + 100 < cLine →
    (∀ v' h' tk' tl, Fr h₀ L h' m → News h₀ L h' (tl ++ Z) → Fresh tl Z → DatIn tl v' (shapeD shift t) → Q v' { s with heap := h', toks := tk' }) →
    wpAny (model PR w) (ktrTop dp un gd cn cs L a ccd cl outer) (call (.ref 534) [v, .int shift t1]) Q E s
theorem News.cellout {h₀ h : Heap} {L : Addr} {a b c : Addr × Obj} {tl Z : Led} (N : News h₀ L h (a :: b :: (tl ++ (c :: Z)))) : News h₀ L h ((a :: b :: tl) ++ Z) := fun q hq => N q (by
  simp only [List.mem_cons, List.mem_append] at hq ⊢
  rcases hq with (h | h | h) | h <;> simp only [h, true_or, or_true])
theorem off1_mem {D : Addr} : ∀ {l : Led}, LCg.Off1 D l → ∀ p ∈ l, p.1 ≠ D
  | [], _, p, h => nomatch h
  | _ :: _, x, p, h => by
    rcases List.mem_cons.mp h with rfl | h
    · exact x.1
    · exact off1_mem x.2 p h
theorem shapeDs_take {shift : Nat} : ∀ {ts : List Tree} {i : Nat} {t : Tree}, ts[i]? = some t → shapeDs shift (ts.take (i + 1)) = shapeDs shift (ts.take i) ++ [shapeD shift t]
  | [], _, _, h => by simp at h
  | a :: ts, 0, t, h => by
    simp only [List.getElem?_cons_zero, Option.some.injEq] at h
    subst h
    simp [shapeDs]
  | a :: ts, i + 1, t, h => by
    rw [List.getElem?_cons_succ] at h
    rw [List.take_succ_cons, shapeDs, shapeDs_take h, List.take_succ_cons, shapeDs]; rfl
local macro_rules | `(tactic| walk_at "call ref") => `(tactic| (k_here; (with_reducible show wpAny _ _ (call (Value.ref 534) _) _ _ _); refine Held.out ?_))
theorem shape_one {w : World} {T : Str} {shift : Nat} {n s0 e0 : Nat} {ts : List Tree} (IH : ∀ t ∈ ts, ShapeOK w T shift t) : ShapeOK w T shift (.nd n s0 e0 ts) := by
  intro dp un gd cn cs a ccd cl outer A₀ base h₀ L m s loose mean mg mb Q E v t1 I Z B F X Tp hk N hIZ hN hfit hd hun ret
  rw [Tree.fit] at hfit
  rw [Tree.deep] at hd hun
  obtain ⟨na, nd, ncl, nx, nep, nts, nte, ntT, nvs, rfl, n1, ⟨C, dx, sl, hC, n2, tn, hsl⟩, n3, n4⟩ := NodeIn.inv hN
  have m1 := hIZ _ n1
  have m2 := hIZ _ n2
  have m3 := hIZ _ n3
  have hEx : IsEx C := hC
  refine wpAny_call ?_
  k_dflt ((refine' code_defC ?k1 ?k2 ?k3 ?k4 ?k5 ?kA ?kF ?kK ?k6 ?k7 ?k8 ?k9 ?kB ?kD ?_ ?c2 ?c3 ?c4; (case kA => exact rfl); (case kF => exact rfl); (case kK => assumption); (case k1 => k_asm); (case k2 => k_asm); (case k3 => k_asm); (case k4 => k_asm); (case k5 => k_asm); (case k6 => k_is); (case k7 => k_is); (case k8 => ktr_room); (case k9 => exact BindsTo.of_eq rfl); (case kB => exact rfl); (case kD => decide +kernel); (case c2 => exact rfl); (case c3 => exact rfl); (case c4 => exact rfl); k_whole; intro g' L' h' tk' cells' FG' F' N' Y' B' X' T' l1; (replace l1 := allLt_of l1); (try simp only [AllLt, and_true] at l1); k_cells Y'; (try simp only [List.cons_append, List.nil_append] at N'); (try dsimp only); (try k_lift B'); (try k_fold)))
  k_steps
  unfold Held
  rename Fr _ _ _ (fun _ => _) => F1
  rename News _ _ _ _ => N1
  refine LCg.ListComp_U F1 (cl := _) rfl (by decide) rfl (by decide) rfl ?_
  k_steps
  rename Fr _ _ _ (fun _ => _) => F2
  rename News _ _ _ _ => N2
  have hlen : nvs.length = ts.length := NodesIn.len n4
  refine LCg.CompSrc.ledger rfl (by k_asm) N2 (by k_mem) ?_ fun g9 => ?_
  · rw [List.size_toArray, sizeLine_eq]; omega
  rename Obj => oC9
  refine comp_ind (Cond := fun k i ys news => i + k = ts.length ∧ ∃ tl : Led, news = tl ++ ((L' + 1, oC9) :: Z) ∧ Fresh tl ((L' + 1, oC9) :: Z) ∧ DatAll tl ys (shapeDs shift (ts.take i))) ?_ ?_ _ _ _ _ ⟨by rw [List.size_toArray]; omega, [], rfl, Fresh.nil, .nil⟩
  · rintro i ys news ⟨hik, tl, rfl, hFr, hDA⟩
    intro D9 h9 tk9 F9 N9 off9
    k_steps
    rename Fr h₀ L _ m => kF
    rename News h₀ L _ _ => kN
    rename _ ∧ AllLt _ (_ ++ _) => h6
    have hi : i = ts.length := by omega
    subst hi
    rw [List.take_length] at hDA
    refine ret (.ref _) _ _ _ kF (News.cellout kN) ?_ (DatIn.tuple (.head _) (.cons (.str _ _) (.cons (.int _ _) (.cons (.int _ _) (.cons (DatIn.list (.tail _ (.head _)) (DatAll.mono (fun q hq => .tail _ (.tail _ hq)) hDA)) .nil)))))
    · intro p hp q hq
      simp only [List.mem_cons] at hp
      rcases hp with rfl | rfl | hp
      · exact Nat.ne_of_lt (tb_ltOf h6.2 q (List.mem_append_right _ (.tail _ hq)))
      · exact off1_mem off9 q (List.mem_append_right _ (.tail _ hq))
      · exact hFr p hp q (.tail _ hq)
  · rintro k i ys news ⟨hik, tl, rfl, hFr, hDA⟩ v I9 oI9 C9 oC8 D9 m9 h9 tk9 E9 hPv hNs hm9 F9 N9 off1 off2
    rw [List.getElem?_toArray] at hPv
    obtain ⟨t, ht1, ht2⟩ := NodesIn.get n4 hPv
    have hmem : t ∈ ts := List.mem_of_getElem? ht1
    have hsz := deep_mem hmem
    have hsub : ∀ q ∈ Z, q ∈ (I9, oI9) :: (C9, oC8) :: (D9, LCg.lst ys) :: (tl ++ ((L' + 1, oC9) :: Z)) := fun q hq => .tail _ (.tail _ (.tail _ (List.mem_append_right _ (.tail _ hq))))
    k_steps
    unfold Held
    refine IH t hmem _ _ _ _ _ _ _ _ _ _ _ _ _ _ _ _ _ _ _ _ _ _ _ I _ B' F9 X' T' rfl N9 (fun q hq => hsub q (hIZ q hq)) ht2 (fit_mem hfit.2 hmem) ?_ ?_ ?_
    · show dp + 1 + _ + _ < _; omega
    · show un + 3 + _ + _ < _; omega
    · intro v' h' tk' tl' F' N' hFr' hD'
      k_unfold
      dsimp only
      refine LCg.CompEnd.intro F' N' (tl' ++ (tl ++ ((L' + 1, oC9) :: Z))) ?_ ?_ ?_ ⟨by omega, tl' ++ tl, (List.append_assoc _ _ _).symm, ?_, ?_⟩
      · intro q hq
        simp only [List.mem_cons, List.mem_append] at hq ⊢
        rcases hq with h | h | h | h | h | h | h <;> simp only [h, true_or, or_true]
      · refine LCg.Off3.of fun q hq => ?_
        rcases List.mem_append.mp hq with hq | hq
        · exact ⟨Ne.symm (hFr' q hq _ (.head _)), Ne.symm (hFr' q hq _ (.tail _ (.head _))), Ne.symm (hFr' q hq _ (.tail _ (.tail _ (.head _))))⟩
        · exact LCg.Off3.mem off1 q hq
      · exact .inr ⟨_, List.mem_append_right _ (List.mem_append_right _ (.tail _ m3)), rfl, _, rfl⟩
      · intro p hp q hq
        rcases List.mem_append.mp hp with hp | hp
        · exact hFr' p hp q (.tail _ (.tail _ (.tail _ (List.mem_append_right _ hq))))
        · exact hFr p hp q hq
      · rw [shapeDs_take ht1]
        exact DatAll.append (DatAll.mono (fun q hq => List.mem_append_right _ hq) hDA) (DatAll.one (DatIn.mono (fun q hq => List.mem_append_left _ hq) hD'))
theorem shape_all {w : World} {T : Str} {shift : Nat} : ∀ t : Tree, ShapeOK w T shift t
  | .nd _ _ _ ts => shape_one fun t _ => shape_all t
end Mine
namespace Mine
local macro_rules | `(tactic| walk_at "zz") => `(tactic| fail)
local macro_rules | `(tactic| walk_at "zz") => `(tactic| fail)
local macro_rules | `(tactic| walk_at "zz") => `(tactic| fail)
local macro_rules | `(tactic| walk_at "zz") => `(tactic| fail)
local macro_rules | `(tactic| walk_at "zz") => `(tactic| fail)
local macro_rules | `(tactic| walk_at "zz") => `(tactic| fail)
local macro_rules | `(tactic| walk_at "zz") => `(tactic| fail)
local macro_rules | `(tactic| walk_at "zz") => `(tactic| fail)
local macro_rules | `(tactic| walk_at "zz") => `(tactic| fail)
local macro_rules | `(tactic| walk_at "zz") => `(tactic| fail)
local macro_rules | `(tactic| walk_at "zz") => `(tactic| fail)
local macro_rules | `(tactic| walk_at "zz") => `(tactic| fail)
local macro_rules | `(tactic| walk_at "zz") => `(tactic| fail)
local macro_rules | `(tactic| walk_at "zz") => `(tactic| fail)
local macro_rules | `(tactic| walk_at "zz") => `(tactic| fail)
local macro_rules | `(tactic| walk_at "zz") => `(tactic| fail)
local macro_rules | `(tactic| walk_at "zz") => `(tactic| fail)
local macro_rules | `(tactic| walk_at "zz") => `(tactic| fail)
local macro_rules | `(tactic| walk_at "zz") => `(tactic| fail)
local macro_rules | `(tactic| walk_at "zz") => `(tactic| fail)
local macro_rules | `(tactic| walk_at "zz") => `(tactic| fail)
local macro_rules | `(tactic| walk_at "zz") => `(tactic| fail)
local macro_rules | `(tactic| walk_at "zz") => `(tactic| fail)
local macro_rules | `(tactic| walk_at "zz") => `(tactic| fail)
local macro_rules | `(tactic| walk_at "zz") => `(tactic| fail)
local macro_rules | `(tactic| walk_at "zz") => `(tactic| fail)
local macro_rules | `(tactic| walk_at "zz") => `(tactic| fail)
local macro_rules | `(tactic| walk_at "zz") => `(tactic| fail)
local macro_rules | `(tactic| walk_at "zz") => `(tactic| fail)
local macro_rules | `(tactic| walk_at "zz") => `(tactic| fail)
local macro_rules | `(tactic| walk_at "zz") => `(tactic| fail)
local macro_rules | `(tactic| walk_at "zz") => `(tactic| fail)
local macro_rules | `(tactic| walk_at "zz") => `(tactic| fail)
local macro_rules | `(tactic| walk_at "zz") => `(tactic| fail)
local macro_rules | `(tactic| walk_at "zz") => `(tactic| fail)
local macro_rules | `(tactic| walk_at "zz") => `(tactic| fail)
local macro_rules | `(tactic| walk_at "zz") => `(tactic| fail)
local macro_rules | `(tactic| walk_at "zz") => `(tactic| fail)
local macro_rules | `(tactic| walk_at "zz") => `(tactic| fail)
local macro_rules | `(tactic| walk_at "zz") => `(tactic| fail)
local macro_rules | `(tactic| walk_at "zz") => `(tactic| fail)
local macro_rules | `(tactic| walk_at "zz") => `(tactic| fail)
local macro_rules | `(tactic| walk_at "zz") => `(tactic| fail)
local macro_rules | `(tactic| walk_at "zz") => `(tactic| fail)
local macro_rules | `(tactic| walk_at "zz") => `(tactic| fail)
local macro_rules | `(tactic| walk_at "zz") => `(tactic| fail)
local macro_rules | `(tactic| walk_at "zz") => `(tactic| fail)
local macro_rules | `(tactic| walk_at "zz") => `(tactic| fail)
local macro_rules | `(tactic| walk_at "zz") => `(tactic| fail)
local macro_rules | `(tactic| walk_at "zz") => `(tactic| fail)
local macro_rules | `(tactic| walk_at "zz") => `(tactic| fail)
local macro_rules | `(tactic| walk_at "zz") => `(tactic| fail)
local macro_rules | `(tactic| walk_at "zz") => `(tactic| fail)
local macro_rules | `(tactic| walk_at "zz") => `(tactic| fail)
local macro_rules | `(tactic| walk_at "zz") => `(tactic| fail)
local macro_rules | `(tactic| walk_at "zz") => `(tactic| fail)
local macro_rules | `(tactic| walk_at "zz") => `(tactic| fail)
local macro_rules | `(tactic| walk_at "zz") => `(tactic| fail)
local macro_rules | `(tactic| walk_at "zz") => `(tactic| fail)
local macro_rules | `(tactic| walk_at "zz") => `(tactic| fail)
local macro_rules | `(tactic| walk_at "zz") => `(tactic| fail)
local macro_rules | `(tactic| walk_at "zz") => `(tactic| fail)
local macro_rules | `(tactic| walk_at "zz") => `(tactic| fail)
local macro_rules | `(tactic| walk_at "zz") => `(tactic| fail)
local macro_rules | `(tactic| walk_at "zz") => `(tactic| fail)
local macro_rules | `(tactic| walk_at "zz") => `(tactic| fail)
local macro_rules | `(tactic| walk_at "zz") => `(tactic| fail)
local macro_rules | `(tactic| walk_at "zz") => `(tactic| fail)
theorem rs_A_er : True := by w_top off; trivial
local macro_rules | `(tactic| k_all) => `(tactic| assumption)
local macro_rules | `(tactic| k_ne) => `(tactic| first | assumption | exact Ne.symm (by assumption) | exact Nat.ne_of_lt (by assumption) | exact Nat.ne_of_gt (by assumption))
local macro_rules | `(tactic| k_room) => `(tactic| ktr_room)
local macro_rules | `(tactic| walk_at "call builtin:getattr") => `(tactic| (k_here; (with_reducible show wpAny _ _ (call (Value.builtin _) [_, Value.str _ _, _]) _ _ _); k_dflt (first
  | (refine' ga3_own ?k1 ?k2 ?k3 ?k4 ?k5 ?k6 ?k7 ?k8 ?k9 ?k10 ?k11 ?_; (case k1 => k_asm); (case k2 => k_asm); (case k3 => k_inst); (case k4 => k_is); (case k5 => k_is); (case k6 => k_is); (case k7 => k_is); (case k8 => k_get); (case k9 => k_handed); (case k10 => decide +kernel); (case k11 => k_is); k_whole)
  | (refine' ga3_miss ?k1 ?k2 ?k3 ?k4 ?k5 ?k6 ?k7 ?k8 ?k9 ?k10 ?k11 ?k12 ?k13 ?_; (case k1 => k_asm); (case k2 => k_asm); (case k3 => k_asm); (case k4 => k_inst); (case k5 => k_is); (case k6 => k_is); (case k7 => k_is); (case k8 => decide +kernel); (case k9 => k_get); (case k10 => decide +kernel); (case k11 => k_is); (case k12 => exact rfl); (case k13 => (first | (refine' MsgOk.of ?q1 ?q2 ?q3; (case q1 => k_is); (case q2 => decide +kernel); (case q3 => decide +kernel)) | (rename IsEx _ => h5; rcases h5 with e5 | e5 | e5 | e5 | e5 <;> subst e5 <;> (refine' MsgOk.of ?q1 ?q2 ?q3; (case q1 => k_is); (case q2 => decide +kernel); (case q3 => decide +kernel))))); k_whole; intro h' tk' F' N'; (try k_sweep)))))
local macro_rules | `(tactic| k_upd) => `(tactic| first | (refine' Off.head ?a; (case a => k_all)) | (refine' Off.tail ?a ?b; (case a => k_ne); (case b => k_upd)))
local macro_rules | `(tactic| walk_at "pyIter ref") => `(tactic| (k_here; (with_reducible show wpAny _ _ (pyIter (Value.ref _)) (fun it s₂ => codeAny _ _ (Code.forLoop _ it _ _ _) _ s₂) _ _); k_dflt (refine' tup_iter ?k1 ?k2 ?k3 ?_; (case k1 => k_asm); (case k2 => k_asm); (case k3 => exact News.isTup (by k_asm) (by k_mem)); k_whole); intro I' h' o' F' N' x' l1 l2; (try k_lt l1); (try k_lt2 l2); (try k_sweep)))
local macro_rules | `(tactic| walk_at "codeAny forLoop") => `(tactic| (k_here; (with_reducible show codeAny _ _ (Code.forLoop _ (Value.ref _) _ _ _) (okR _) _); k_dflt (first
  | (refine' tup_last ?k1 ?k2 ?k3 ?k4 ?k5 ?k6 ?k7 ?_; (case k1 => k_asm); (case k4 => assumption); (case k2 => k_asm); (case k3 => k_upd); (case k5 => exact News.isTup (by k_asm) (by k_mem)); (case k6 => exact rfl); (case k7 => exact rfl); k_whole; intro h' F' N'; (try k_sweep))
  | (refine' tup_turn ?k1 ?k2 ?k3 ?k4 ?k5 ?k6 ?k7 ?_; (case k1 => k_asm); (case k4 => assumption); (case k2 => k_asm); (case k3 => k_updF); (case k5 => exact News.isTup (by k_asm) (by k_mem)); (case k6 => first | exact get2_0 | exact get2_1 | exact rfl); (case k7 => k_ne); k_whole; intro h' o' F' N' x' T'; (try k_sweep)))))
local macro_rules | `(tactic| walk_at "call builtin:len") => `(tactic| (k_here; (with_reducible show wpAny _ _ (call (Value.builtin _) [Value.ref _]) _ _ _); k_dflt (refine' d_len (knd := intKind _ _) ?k1 ?k2 ?k3 ?k4 ?k5 ?k6 ?_; (case k1 => k_asm); (case k2 => k_mem); (case k3 => assumption); (case k4 => assumption); (case k5 => first | exact rowsK_length _ | rfl); (case k6 => (first | omega | (simp only [List.length_append, List.length_cons, List.length_nil]; omega))); k_whole; intro tk')))
local macro_rules | `(tactic| walk_at "getMethod ref") => `(tactic| (k_here; (with_reducible show wpAny _ _ (getMethod (Value.ref _) (Str.ofString "get") _) _ _ _); k_dflt (refine' d_meth (knd := intKind _ _) ?k1 ?k2 ?k3 PySem.F.slot_dict_get PySem.F.type_dict_get ?_; (case k1 => k_asm); (case k2 => k_mem); (case k3 => assumption); k_whole)))
local macro_rules | `(tactic| walk_at "call builtin:dict.get") => `(tactic| (k_here; (with_reducible show wpAny _ _ (call (Value.builtin _) [Value.ref _, Value.int _ _]) _ _ _); k_dflt (refine' d_get (knd := intKind _ _) ?k1 ?k2 ?k3 ?k4 (intKind_is _ _ _ _) ?_; (case k1 => k_asm); (case k2 => k_mem); (case k3 => assumption); (case k4 => assumption); k_whole)))
local macro_rules | `(tactic| walk_at "compareOp In int ref") => `(tactic| (k_here; k_dflt (refine' d_in (knd := intKind _ _) ?k1 ?k2 ?k3 ?k4 (intKind_is _ _ _ _) ?_; (case k1 => k_asm); (case k2 => k_mem); (case k3 => assumption); (case k4 => assumption); k_whole)))
local macro_rules | `(tactic| walk_at "subscriptTail") => `(tactic| (k_here; (with_reducible show wpAny _ _ (subscriptTail _ _ (Value.ref _) (Value.int _ _)) _ _ _); k_dflt (refine' d_item (knd := intKind _ _) ?k1 ?k2 ?k3 (intKind_is _ _ _ _) ?k5 ?_; (case k1 => k_asm); (case k2 => k_mem); (case k3 => assumption); (case k5 => assumption); k_whole)))
local macro_rules | `(tactic| walk_at "setItem ref int") => `(tactic| (k_here; k_dflt (refine' d_set (knd := intKind _ _) ?k1 ?k2 ?k3 ?k4 (intKind_is _ _ _ _) ?k6 ?_; (case k1 => k_asm); (case k2 => k_asm); (case k3 => k_updF); (case k4 => assumption); (case k6 => (rw [sizeLine_eq]; (first | omega | (simp only [rowsK_length, rowK_length, List.length_map, List.length_append, List.length_cons, List.length_nil]; omega)))); k_whole); intro h' o' F' N' hd'; (try dsimp only at N'); (try simp only [rowsK_length, stored_rows] at hd'); (try k_sweep)))
local macro_rules | `(tactic| k_all) => `(tactic| first | assumption | (refine List.forall_mem_append.mpr ⟨?_, ?_⟩ <;> k_all) | (exact tbn_neAll (by first | assumption | tbn_find)) | (exact tbn_neAll (tbn_up (by assumption) (by tbn_find))))
local macro_rules | `(tactic| k_mem) => `(tactic| ((with_reducible show List.Mem _ _); first | (show (_ : Addr × Obj) ∈ (_ : List (Addr × Obj)); ktr_member) | ((with_reducible show List.Mem _ (_ ++ _)); first | (refine' List.mem_append_left _ ?q; (case q => k_mem)) | (refine' List.mem_append_right _ ?q; (case q => k_mem)))))
local macro_rules | `(tactic| k_put) => `(tactic| first | exact putL_nil _ _ _ _ _ | exact putL_one _ _ _ _ _ _ _ _)
local macro_rules | `(tactic| walk_at "eval Name") => `(tactic| (k_here; k_dflt (refine' nameX_L ?F ?v ?_ ?a ?b; (case F => k_asm); (case a => rfl); (case b => rfl); (case v => assumption); k_whole)))
local macro_rules | `(tactic| k_put) => `(tactic| first | exact putL_nil _ _ _ _ _ | exact putL_one _ _ _ _ _ _ _ _ | exact putL_err_pos | exact putL_err_expr)
local macro_rules | `(tactic| walk_at "getAttr ref") => `(tactic| (k_here; k_dflt (refine' exc_getD ?k1 ?k2 ?k3 ?k4 ?k5 ?k6 ?k7 ?k8 ?k9 ?k10 ?k11 ?_; (case k1 => k_asm); (case k2 => k_asm); (case k3 => (refine' InstAt.of_newsF ?N ?h1 ?h2; (case N => k_asm); (case h1 => k_mem); (case h2 => k_mem))); (case k4 => k_is); (case k5 => k_is); (case k6 => k_is); (case k7 => k_is); (case k8 => k_is); (case k9 => k_is); (case k10 => k_get); (case k11 => k_handed); k_whole)))
local macro_rules | `(tactic| walk_at "setAttr ref") => `(tactic| (k_here; k_dflt (refine' exc_set ?k1 ?k2 ?k3 ?k4 ?k5 ?k6 ?k7 ?k8 ?k9 ?k10 ?k11 ?k12 ?k13 ?_; (case k1 => k_asm); (case k2 => k_asm); (case k3 => k_asm); (case k4 => (refine' InstAt.of_newsF ?N ?h1 ?h2; (case N => k_asm); (case h1 => k_mem); (case h2 => k_mem))); (case k5 => exact rfl); (case k6 => k_is); (case k7 => kernel_rfl); (case k8 => k_is); (case k9 => k_is); (case k10 => k_get); (case k11 => k_put); (case k12 => k_upd); (case k13 => exact Nat.le_of_ble_eq_true rfl); k_whole; intro h' F' N'; (try k_sweep))))
local macro_rules | `(tactic| k_slotget) => `(tactic| first | assumption | rfl)
local macro_rules | `(tactic| walk_at "getAttr ref") => `(tactic| (k_here; k_dflt (refine' get_slotW ?k1 ?k2 ?k3 ?k4 ?k5 ?k6 ?k7 ?k8 ?k9 ?k10 ?k11 ?_; (case k1 => k_asm); (case k2 => k_asm); (case k3 => k_asm); (case k4 => k_mem); (case k5 => k_is); (case k6 => k_is); (case k7 => k_is); (case k8 => k_is); (case k9 => k_is); (case k10 => k_slotget); (case k11 => k_handed); k_whole)))
local macro_rules | `(tactic| walk_at "call builtin:len") => `(tactic| (k_here; (with_reducible show wpAny _ _ (call (Value.builtin _) [Value.str _ _]) _ _ _); k_dflt (refine' SC.len_str ?k1 ?_; (case k1 => assumption); k_whole)))
local macro_rules | `(tactic| walk_at "getMethod ref") => `(tactic| (k_here; (with_reducible show wpAny _ _ (getMethod (Value.ref _) (Str.ofString "match_core") _) _ _ _); k_dflt (refine' meth_core ?k1 ?k2 ?k3 ?k4 ?k5 ?_; (case k1 => k_asm); (case k2 => k_asm); (case k4 => k_inst); (case k3 => assumption); (case k5 => assumption); k_whole)))
local macro_rules | `(tactic| walk_at "call ref") => `(tactic| (k_here; (with_reducible show wpAny _ _ (call (Value.ref 266) _) _ _ _); refine Held.out ?_))
local macro_rules | `(tactic| walk_at "exec For Name Attribute cons nil") => `(tactic| (k_here; refine for_F ?_))
local macro_rules | `(tactic| walk_at "truthy ref") => `(tactic| (k_here; k_dflt (refine' truthyL ?k1 ?k2 ?k3 ?k4 ?_; (case k1 => k_asm); (case k2 => k_mem); (case k3 => first | assumption | (simp only [List.size_toArray, List.length_cons, List.length_nil]; decide) | (simp only [Array.size_push, List.size_toArray, List.length_cons, List.length_nil]; omega)); (case k4 => first | assumption | exact ne1 | exact ne0 | exact neP); k_whole); intro tk'))
theorem strKeys_of {es : Array DictEntry} (h : es.toList.all (fun e => match e.key with | .str .. => true | _ => false) = true) : StrKeys es := by
  intro e he
  have := List.all_eq_true.mp h e (Array.mem_toList_iff.mpr he)
  cases hk : e.key <;> rw [hk] at this <;> first | exact ⟨_, _, rfl⟩ | (simp at this)
theorem ownTail_K {K : Frag} {h : Heap} {bmB tl : List Value} {a N : Addr} {c0 nc : Value} {dd nd : Option Addr} {cd : ClassData} {sl nsl : Array (Option Value)} {es : Array DictEntry} {ep : Nat} (X : K.In h) (h1 : K.lookup a = some { cls := c0, dict := dd, data := .cls cd, slots := sl }) (h2 : cd.ns = N) (h3 : K.lookup N = some { cls := nc, dict := nd, data := .dict es ep, slots := nsl })
    (h4 : es.toList.all (fun e => match e.key with | .str .. => true | _ => false) = true) (h5 : nsFind es "__init__" = none) (T : OwnTail h bmB tl) : OwnTail h bmB (.ref a :: tl) := by
  subst h2
  exact .own (X _ _ h1) (mA := nsFind es) ⟨_, es, ep, X _ _ h3, rfl, strKeys_of h4, fun _ => rfl⟩ h5 T
theorem err_K {K : Frag} {w : World} {A : Around} {R : Result → Shared → Prop} {s : Shared} {h₀ : Heap} {L C fI N : Addr} {m : Str → Option Value} {news : Led} {rest : List Value} {nm q : Str} {bs bm : List Value} {hdct : Bool} {sn : List Str} {sub : List Value} {ab : Bool} {col : Option Bool} {dd : Option Addr} {k0 k1 k2 k3 k5 : Option Value}
    (F : Fr h₀ L s.heap m) (Nw : News h₀ L s.heap news) (X₀ : K.In h₀) (hC : K.lookup C = some (excClassObj nm q C N bs bm hdct sn sub ab col dd k0 k1 k2 k3 k5 "Exception.__new__")) (T : ∀ h, K.In h → OwnTail h [.type "Exception", .type "BaseException", .type "object"] bm)
    (h1 : specialIn K (.ref C) "__call__" = some (some (.builtin "type.__call__"))) (h2 : instIn K (.ref C) (.type "type") = some true) (h3 : mroIn K C (.ref C) = some true) (hi : findIn K (.ref C) "__init__" = some (some (.ref fI))) (hf : typeIn K (.ref fI) = some (.type "function")) (hrest : rest.length ≤ sizeLine)
    (h : ∀ x a h', Fr h₀ L h' m → News h₀ L h' ((x, excO C a) :: (a, tupObj rest) :: news) → (∀ p ∈ news, p.1 < a) → a < x → codeAny (model PR w) (A.under (.builtin "type.__call__" ⟨.ref C :: rest, []⟩)) (.call (.ref fI) ⟨.ref x :: rest, []⟩) (InitBack x R) { s with heap := h' }) :
    codeAny (model PR w) A (.call (.ref C) ⟨rest, []⟩) R s := by
  have X := X₀.keeps F.keep
  have F1 := F.push (tupObj rest)
  have N1 := News.push F Nw (tupObj rest) rfl
  have F2 := F1.push (excO C s.heap.objs.size)
  have N2 := News.push F1 N1 (excO C s.heap.objs.size) rfl
  obtain ⟨hh, g, d, t, os⟩ := s
  refine err_core PySem.F.excBase_Exception (T _ X) (X _ _ hC) (looks_specialIn X h1) (looks_instIn X h2) (looks_mroIn X h3) (looks_findIn X hi) (fun self => bind_fn X self hf) hrest ?_
  have e1 : (hh.push (tupObj rest)).objs.size = hh.objs.size + 1 := Heap.size_push ..
  rw [← e1]
  exact h _ _ _ F2 N2 (fun p hp => Heap.lt_size (Nw p hp).1) (by rw [e1]; exact Nat.lt_succ_self _)
theorem err_tail (P : Params) : ∀ h, (hd.heap_39 P).In h → OwnTail h [.type "Exception", .type "BaseException", .type "object"] [.ref 38, .ref 52, .type "Exception", .type "BaseException", .type "object"] :=
  fun h X => ownTail_K X (by k_is) rfl (by k_is) (by kernel_rfl) (by kernel_rfl) (ownTail_K X (by k_is) rfl (by k_is) (by kernel_rfl) (by kernel_rfl) .base)
end Mine
namespace Mine
local macro_rules | `(tactic| walk_at "zz") => `(tactic| fail)
local macro_rules | `(tactic| walk_at "zz") => `(tactic| fail)
local macro_rules | `(tactic| walk_at "zz") => `(tactic| fail)
local macro_rules | `(tactic| walk_at "zz") => `(tactic| fail)
local macro_rules | `(tactic| walk_at "zz") => `(tactic| fail)
local macro_rules | `(tactic| walk_at "zz") => `(tactic| fail)
local macro_rules | `(tactic| walk_at "zz") => `(tactic| fail)
local macro_rules | `(tactic| walk_at "zz") => `(tactic| fail)
local macro_rules | `(tactic| walk_at "zz") => `(tactic| fail)
local macro_rules | `(tactic| walk_at "zz") => `(tactic| fail)
local macro_rules | `(tactic| walk_at "zz") => `(tactic| fail)
local macro_rules | `(tactic| walk_at "zz") => `(tactic| fail)
local macro_rules | `(tactic| walk_at "zz") => `(tactic| fail)
local macro_rules | `(tactic| walk_at "zz") => `(tactic| fail)
local macro_rules | `(tactic| walk_at "zz") => `(tactic| fail)
local macro_rules | `(tactic| walk_at "zz") => `(tactic| fail)
local macro_rules | `(tactic| walk_at "zz") => `(tactic| fail)
local macro_rules | `(tactic| walk_at "zz") => `(tactic| fail)
local macro_rules | `(tactic| walk_at "zz") => `(tactic| fail)
local macro_rules | `(tactic| walk_at "zz") => `(tactic| fail)
local macro_rules | `(tactic| walk_at "zz") => `(tactic| fail)
local macro_rules | `(tactic| walk_at "zz") => `(tactic| fail)
local macro_rules | `(tactic| walk_at "zz") => `(tactic| fail)
local macro_rules | `(tactic| walk_at "zz") => `(tactic| fail)
local macro_rules | `(tactic| walk_at "zz") => `(tactic| fail)
local macro_rules | `(tactic| walk_at "zz") => `(tactic| fail)
local macro_rules | `(tactic| walk_at "zz") => `(tactic| fail)
local macro_rules | `(tactic| walk_at "zz") => `(tactic| fail)
local macro_rules | `(tactic| walk_at "zz") => `(tactic| fail)
local macro_rules | `(tactic| walk_at "zz") => `(tactic| fail)
local macro_rules | `(tactic| walk_at "zz") => `(tactic| fail)
local macro_rules | `(tactic| walk_at "zz") => `(tactic| fail)
local macro_rules | `(tactic| walk_at "zz") => `(tactic| fail)
local macro_rules | `(tactic| walk_at "zz") => `(tactic| fail)
local macro_rules | `(tactic| walk_at "zz") => `(tactic| fail)
local macro_rules | `(tactic| walk_at "zz") => `(tactic| fail)
local macro_rules | `(tactic| walk_at "zz") => `(tactic| fail)
local macro_rules | `(tactic| walk_at "zz") => `(tactic| fail)
local macro_rules | `(tactic| walk_at "zz") => `(tactic| fail)
local macro_rules | `(tactic| walk_at "zz") => `(tactic| fail)
local macro_rules | `(tactic| walk_at "zz") => `(tactic| fail)
local macro_rules | `(tactic| walk_at "zz") => `(tactic| fail)
local macro_rules | `(tactic| walk_at "zz") => `(tactic| fail)
local macro_rules | `(tactic| walk_at "zz") => `(tactic| fail)
local macro_rules | `(tactic| walk_at "zz") => `(tactic| fail)
local macro_rules | `(tactic| walk_at "zz") => `(tactic| fail)
local macro_rules | `(tactic| walk_at "zz") => `(tactic| fail)
local macro_rules | `(tactic| walk_at "zz") => `(tactic| fail)
local macro_rules | `(tactic| walk_at "zz") => `(tactic| fail)
local macro_rules | `(tactic| walk_at "zz") => `(tactic| fail)
local macro_rules | `(tactic| walk_at "zz") => `(tactic| fail)
local macro_rules | `(tactic| walk_at "zz") => `(tactic| fail)
local macro_rules | `(tactic| walk_at "zz") => `(tactic| fail)
local macro_rules | `(tactic| walk_at "zz") => `(tactic| fail)
local macro_rules | `(tactic| walk_at "zz") => `(tactic| fail)
local macro_rules | `(tactic| walk_at "zz") => `(tactic| fail)
local macro_rules | `(tactic| walk_at "zz") => `(tactic| fail)
local macro_rules | `(tactic| walk_at "zz") => `(tactic| fail)
local macro_rules | `(tactic| walk_at "zz") => `(tactic| fail)
local macro_rules | `(tactic| walk_at "zz") => `(tactic| fail)
local macro_rules | `(tactic| walk_at "zz") => `(tactic| fail)
local macro_rules | `(tactic| walk_at "zz") => `(tactic| fail)
local macro_rules | `(tactic| walk_at "zz") => `(tactic| fail)
local macro_rules | `(tactic| walk_at "zz") => `(tactic| fail)
local macro_rules | `(tactic| walk_at "zz") => `(tactic| fail)
local macro_rules | `(tactic| walk_at "zz") => `(tactic| fail)
local macro_rules | `(tactic| walk_at "zz") => `(tactic| fail)
local macro_rules | `(tactic| walk_at "zz") => `(tactic| fail)
local macro_rules | `(tactic| walk_at "zz") => `(tactic| fail)
theorem rs_A_es : True := by w_top off; trivial
local macro_rules | `(tactic| k_all) => `(tactic| assumption)
local macro_rules | `(tactic| k_ne) => `(tactic| first | assumption | exact Ne.symm (by assumption) | exact Nat.ne_of_lt (by assumption) | exact Nat.ne_of_gt (by assumption))
local macro_rules | `(tactic| k_room) => `(tactic| ktr_room)
local macro_rules | `(tactic| walk_at "call builtin:getattr") => `(tactic| (k_here; (with_reducible show wpAny _ _ (call (Value.builtin _) [_, Value.str _ _, _]) _ _ _); k_dflt (first
  | (refine' ga3_own ?k1 ?k2 ?k3 ?k4 ?k5 ?k6 ?k7 ?k8 ?k9 ?k10 ?k11 ?_; (case k1 => k_asm); (case k2 => k_asm); (case k3 => k_inst); (case k4 => k_is); (case k5 => k_is); (case k6 => k_is); (case k7 => k_is); (case k8 => k_get); (case k9 => k_handed); (case k10 => decide +kernel); (case k11 => k_is); k_whole)
  | (refine' ga3_miss ?k1 ?k2 ?k3 ?k4 ?k5 ?k6 ?k7 ?k8 ?k9 ?k10 ?k11 ?k12 ?k13 ?_; (case k1 => k_asm); (case k2 => k_asm); (case k3 => k_asm); (case k4 => k_inst); (case k5 => k_is); (case k6 => k_is); (case k7 => k_is); (case k8 => decide +kernel); (case k9 => k_get); (case k10 => decide +kernel); (case k11 => k_is); (case k12 => exact rfl); (case k13 => (first | (refine' MsgOk.of ?q1 ?q2 ?q3; (case q1 => k_is); (case q2 => decide +kernel); (case q3 => decide +kernel)) | (rename IsEx _ => h5; rcases h5 with e5 | e5 | e5 | e5 | e5 <;> subst e5 <;> (refine' MsgOk.of ?q1 ?q2 ?q3; (case q1 => k_is); (case q2 => decide +kernel); (case q3 => decide +kernel))))); k_whole; intro h' tk' F' N'; (try k_sweep)))))
local macro_rules | `(tactic| k_upd) => `(tactic| first | (refine' Off.head ?a; (case a => k_all)) | (refine' Off.tail ?a ?b; (case a => k_ne); (case b => k_upd)))
local macro_rules | `(tactic| walk_at "pyIter ref") => `(tactic| (k_here; (with_reducible show wpAny _ _ (pyIter (Value.ref _)) (fun it s₂ => codeAny _ _ (Code.forLoop _ it _ _ _) _ s₂) _ _); k_dflt (refine' tup_iter ?k1 ?k2 ?k3 ?_; (case k1 => k_asm); (case k2 => k_asm); (case k3 => exact News.isTup (by k_asm) (by k_mem)); k_whole); intro I' h' o' F' N' x' l1 l2; (try k_lt l1); (try k_lt2 l2); (try k_sweep)))
local macro_rules | `(tactic| walk_at "codeAny forLoop") => `(tactic| (k_here; (with_reducible show codeAny _ _ (Code.forLoop _ (Value.ref _) _ _ _) (okR _) _); k_dflt (first
  | (refine' tup_last ?k1 ?k2 ?k3 ?k4 ?k5 ?k6 ?k7 ?_; (case k1 => k_asm); (case k4 => assumption); (case k2 => k_asm); (case k3 => k_upd); (case k5 => exact News.isTup (by k_asm) (by k_mem)); (case k6 => exact rfl); (case k7 => exact rfl); k_whole; intro h' F' N'; (try k_sweep))
  | (refine' tup_turn ?k1 ?k2 ?k3 ?k4 ?k5 ?k6 ?k7 ?_; (case k1 => k_asm); (case k4 => assumption); (case k2 => k_asm); (case k3 => k_updF); (case k5 => exact News.isTup (by k_asm) (by k_mem)); (case k6 => first | exact get2_0 | exact get2_1 | exact rfl); (case k7 => k_ne); k_whole; intro h' o' F' N' x' T'; (try k_sweep)))))
local macro_rules | `(tactic| walk_at "call builtin:len") => `(tactic| (k_here; (with_reducible show wpAny _ _ (call (Value.builtin _) [Value.ref _]) _ _ _); k_dflt (refine' d_len (knd := intKind _ _) ?k1 ?k2 ?k3 ?k4 ?k5 ?k6 ?_; (case k1 => k_asm); (case k2 => k_mem); (case k3 => assumption); (case k4 => assumption); (case k5 => first | exact rowsK_length _ | rfl); (case k6 => (first | omega | (simp only [List.length_append, List.length_cons, List.length_nil]; omega))); k_whole; intro tk')))
local macro_rules | `(tactic| walk_at "getMethod ref") => `(tactic| (k_here; (with_reducible show wpAny _ _ (getMethod (Value.ref _) (Str.ofString "get") _) _ _ _); k_dflt (refine' d_meth (knd := intKind _ _) ?k1 ?k2 ?k3 PySem.F.slot_dict_get PySem.F.type_dict_get ?_; (case k1 => k_asm); (case k2 => k_mem); (case k3 => assumption); k_whole)))
local macro_rules | `(tactic| walk_at "call builtin:dict.get") => `(tactic| (k_here; (with_reducible show wpAny _ _ (call (Value.builtin _) [Value.ref _, Value.int _ _]) _ _ _); k_dflt (refine' d_get (knd := intKind _ _) ?k1 ?k2 ?k3 ?k4 (intKind_is _ _ _ _) ?_; (case k1 => k_asm); (case k2 => k_mem); (case k3 => assumption); (case k4 => assumption); k_whole)))
local macro_rules | `(tactic| walk_at "compareOp In int ref") => `(tactic| (k_here; k_dflt (refine' d_in (knd := intKind _ _) ?k1 ?k2 ?k3 ?k4 (intKind_is _ _ _ _) ?_; (case k1 => k_asm); (case k2 => k_mem); (case k3 => assumption); (case k4 => assumption); k_whole)))
local macro_rules | `(tactic| walk_at "subscriptTail") => `(tactic| (k_here; (with_reducible show wpAny _ _ (subscriptTail _ _ (Value.ref _) (Value.int _ _)) _ _ _); k_dflt (refine' d_item (knd := intKind _ _) ?k1 ?k2 ?k3 (intKind_is _ _ _ _) ?k5 ?_; (case k1 => k_asm); (case k2 => k_mem); (case k3 => assumption); (case k5 => assumption); k_whole)))
local macro_rules | `(tactic| walk_at "setItem ref int") => `(tactic| (k_here; k_dflt (refine' d_set (knd := intKind _ _) ?k1 ?k2 ?k3 ?k4 (intKind_is _ _ _ _) ?k6 ?_; (case k1 => k_asm); (case k2 => k_asm); (case k3 => k_updF); (case k4 => assumption); (case k6 => (rw [sizeLine_eq]; (first | omega | (simp only [rowsK_length, rowK_length, List.length_map, List.length_append, List.length_cons, List.length_nil]; omega)))); k_whole); intro h' o' F' N' hd'; (try dsimp only at N'); (try simp only [rowsK_length, stored_rows] at hd'); (try k_sweep)))
local macro_rules | `(tactic| k_all) => `(tactic| first | assumption | (refine List.forall_mem_append.mpr ⟨?_, ?_⟩ <;> k_all) | (exact tbn_neAll (by first | assumption | tbn_find)) | (exact tbn_neAll (tbn_up (by assumption) (by tbn_find))))
local macro_rules | `(tactic| k_mem) => `(tactic| ((with_reducible show List.Mem _ _); first | (show (_ : Addr × Obj) ∈ (_ : List (Addr × Obj)); ktr_member) | ((with_reducible show List.Mem _ (_ ++ _)); first | (refine' List.mem_append_left _ ?q; (case q => k_mem)) | (refine' List.mem_append_right _ ?q; (case q => k_mem)))))
local macro_rules | `(tactic| k_put) => `(tactic| first | exact putL_nil _ _ _ _ _ | exact putL_one _ _ _ _ _ _ _ _)
local macro_rules | `(tactic| walk_at "eval Name") => `(tactic| (k_here; k_dflt (refine' nameX_L ?F ?v ?_ ?a ?b; (case F => k_asm); (case a => rfl); (case b => rfl); (case v => assumption); k_whole)))
local macro_rules | `(tactic| k_put) => `(tactic| first | exact putL_nil _ _ _ _ _ | exact putL_one _ _ _ _ _ _ _ _ | exact putL_err_pos | exact putL_err_expr)
local macro_rules | `(tactic| walk_at "getAttr ref") => `(tactic| (k_here; k_dflt (refine' exc_getD ?k1 ?k2 ?k3 ?k4 ?k5 ?k6 ?k7 ?k8 ?k9 ?k10 ?k11 ?_; (case k1 => k_asm); (case k2 => k_asm); (case k3 => (refine' InstAt.of_newsF ?N ?h1 ?h2; (case N => k_asm); (case h1 => k_mem); (case h2 => k_mem))); (case k4 => k_is); (case k5 => k_is); (case k6 => k_is); (case k7 => k_is); (case k8 => k_is); (case k9 => k_is); (case k10 => k_get); (case k11 => k_handed); k_whole)))
local macro_rules | `(tactic| walk_at "setAttr ref") => `(tactic| (k_here; k_dflt (refine' exc_set ?k1 ?k2 ?k3 ?k4 ?k5 ?k6 ?k7 ?k8 ?k9 ?k10 ?k11 ?k12 ?k13 ?_; (case k1 => k_asm); (case k2 => k_asm); (case k3 => k_asm); (case k4 => (refine' InstAt.of_newsF ?N ?h1 ?h2; (case N => k_asm); (case h1 => k_mem); (case h2 => k_mem))); (case k5 => exact rfl); (case k6 => k_is); (case k7 => kernel_rfl); (case k8 => k_is); (case k9 => k_is); (case k10 => k_get); (case k11 => k_put); (case k12 => k_upd); (case k13 => exact Nat.le_of_ble_eq_true rfl); k_whole; intro h' F' N'; (try k_sweep))))
local macro_rules | `(tactic| k_slotget) => `(tactic| first | assumption | rfl)
local macro_rules | `(tactic| walk_at "getAttr ref") => `(tactic| (k_here; k_dflt (refine' get_slotW ?k1 ?k2 ?k3 ?k4 ?k5 ?k6 ?k7 ?k8 ?k9 ?k10 ?k11 ?_; (case k1 => k_asm); (case k2 => k_asm); (case k3 => k_asm); (case k4 => k_mem); (case k5 => k_is); (case k6 => k_is); (case k7 => k_is); (case k8 => k_is); (case k9 => k_is); (case k10 => k_slotget); (case k11 => k_handed); k_whole)))
local macro_rules | `(tactic| walk_at "call builtin:len") => `(tactic| (k_here; (with_reducible show wpAny _ _ (call (Value.builtin _) [Value.str _ _]) _ _ _); k_dflt (refine' SC.len_str ?k1 ?_; (case k1 => assumption); k_whole)))
local macro_rules | `(tactic| walk_at "getMethod ref") => `(tactic| (k_here; (with_reducible show wpAny _ _ (getMethod (Value.ref _) (Str.ofString "match_core") _) _ _ _); k_dflt (refine' meth_core ?k1 ?k2 ?k3 ?k4 ?k5 ?_; (case k1 => k_asm); (case k2 => k_asm); (case k4 => k_inst); (case k3 => assumption); (case k5 => assumption); k_whole)))
local macro_rules | `(tactic| walk_at "call ref") => `(tactic| (k_here; (with_reducible show wpAny _ _ (call (Value.ref 266) _) _ _ _); refine Held.out ?_))
local macro_rules | `(tactic| walk_at "exec For Name Attribute cons nil") => `(tactic| (k_here; refine for_F ?_))
local macro_rules | `(tactic| walk_at "truthy ref") => `(tactic| (k_here; k_dflt (refine' truthyL ?k1 ?k2 ?k3 ?k4 ?_; (case k1 => k_asm); (case k2 => k_mem); (case k3 => first | assumption | (simp only [List.size_toArray, List.length_cons, List.length_nil]; decide) | (simp only [Array.size_push, List.size_toArray, List.length_cons, List.length_nil]; omega)); (case k4 => first | assumption | exact ne1 | exact ne0 | exact neP); k_whole); intro tk'))
local macro_rules | `(tactic| k_put) => `(tactic| exact rfl)
local macro_rules | `(tactic| walk_at "setAttr ref") => `(tactic| (k_here; k_dflt (refine' exc_set0 ?k1 ?k2 ?k3 ?k4 ?k5 ?k6 ?k7 ?k8 ?_; (case k1 => k_asm); (case k2 => k_asm); (case k3 => k_asm); (case k4 => k_updF); (case k5 => k_is); (case k6 => kernel_rfl); (case k7 => k_is); (case k8 => k_is); k_whole); intro D' h' F' N' l1; (try dsimp only at N' l1); (replace l1 := allLt_of l1); (try simp only [AllLt, and_true] at l1); (try k_sweep)))
theorem make_err {w : World} {dp un : Nat} {gd : Option (List Code)} {cn : Str} {cs : Scope} {a : Addr} {ccd : Value} {cl : List (Str × Addr)} {outer : List Env} {A₀ : Around} {base h₀ : Heap} {L : Addr} {m : Str → Option Value} {s : Shared}
    {loose : List Str} {mean : ExcName → Option Value} {mg mb : Str → Option Value} {Q E : Value → Shared → Prop} {T : Str} {t1 : Tok} {Z : Led}
    (B : Below A₀ base outer h₀) (F : Fr h₀ L s.heap m) (X : (hd.heap_39 w.params).In h₀) (Tp : Top topProg loose mean mg mb h₀) (hk : cs.kind = .function) (N : News h₀ L s.heap Z)
    (hd : dp + 6 < recursionLimit) (hun : un + 40 < cLine) (ret : ∀ x d b h' tk' oe fs, Fr h₀ L h' m → News h₀ L h' ((d, oe) :: (x, errO d fs) :: (b, tupObj [.str T t1]) :: Z) → ErrObj [] T oe none → AllLt b Z → @LT.lt Nat _ b x → AllLt d ((x, errO d fs) :: (b, tupObj [.str T t1]) :: Z) → Q (.ref x) { s with heap := h', toks := tk' }) :
    wpAny (model PR w) (ktrTop dp un gd cn cs L a ccd cl outer) (call (.ref 94) [.str T t1]) Q E s := by
  refine wpAny_call ?_
  refine' err_K F N X ?c (err_tail w.params) ?h1 ?h2 ?h3 ?hi ?hf (by rw [sizeLine_eq]; exact Nat.le_of_ble_eq_true rfl) ?_
  case c => k_is
  case h1 => k_is
  case h2 => k_is
  case h3 => k_is
  case hi => k_is
  case hf => k_is
  intro x' a' h' F' N' l1 l2
  replace l1 := allLt_of l1
  replace l2 : @LT.lt Nat _ a' x' := l2
  k_dflt (refine' code_def ?k1 ?k2 ?k3 ?k4 ?k5 ?kA ?kF ?kK ?k6 ?k7 ?k8 ?k9 ?kB ?_ ?c2 ?c3 ?c4 ?c5; (case kA => exact rfl); (case kF => exact rfl); (case kK => first | exact rfl | assumption); (case k1 => k_asm); (case k2 => k_asm); (case k3 => k_asm); (case k4 => k_asm); (case k5 => k_asm); (case k6 => k_is); (case k7 => k_is); (case k8 => ktr_room); (case k9 => first | exact BindsTo.of_eq rfl | exact binds_K (by k_in) rfl (by k_is) rfl rfl rfl); (case c5 => decide); (case kB => exact locs rfl); (case c2 => exact rfl); (case c3 => exact rfl); (case c4 => exact rfl); k_whole; intro g' L' h' FG' F' N' B' X' T'; (try dsimp only); (try k_fold))
  k_steps
  rename Fr h₀ L _ m => kF
  rename News h₀ L _ _ => kN
  refine ret _ _ _ _ _ _ _ kF kN ⟨_, _, _, _, _, _, _, t1, _, -1, .none, rfl, rfl, rfl⟩ l1 l2 ?_
  assumption
end Mine
namespace Mine
/-! behind a run: the cells for the next one -/
theorem cells_renew {w : World} {I : Led} {T : Str} {ol rs : List Addr} : ∀ {e : Ex} {tt : TT} {l : Led}, Cells w I T ol rs e tt l → ∃ lk lr, l.Perm (lk ++ lr) ∧ lr.length ≤ una e .nil ∧
    ∀ (T' : Str) (ol' : List Addr), (∀ a ∈ ol, a ∈ ol') → (∀ q ∈ lr, q.1 ∈ ol') → ol.length + lr.length ≤ ol'.length → ol'.length ≤ 8000 → Cells w I T' ol' [] e .nil lk := by
  have hN : ∀ {dx : Addr} {tab : Option Tab} {l : Led}, NodeCells w I T ol rs dx tab l → ∃ lk lr, l.Perm (lk ++ lr) ∧ lr.length ≤ 1 ∧
      ∀ (T' : Str) (ol' : List Addr), (∀ a ∈ ol, a ∈ ol') → (∀ q ∈ lr, q.1 ∈ ol') → ol.length + lr.length ≤ ol'.length → ol'.length ≤ 8000 → NodeCells w I T' ol' [] dx none lk := by
    intro dx tab l h
    cases tab with
    | none =>
      obtain ⟨od, old, h1, h2, h3, h4, h5⟩ := h
      exact ⟨l, [], by simp, by simp, fun T' ol' a b c d => ⟨od, old, h1, h2, fun q hq => a _ (h3 q hq), by omega, d⟩⟩
    | some tab =>
      obtain ⟨od, k, r, ro, old, h1, h2, h3, h4, h5, h6, h7, h8⟩ := h
      subst h1
      refine ⟨[(dx, od)], [(r, ro)], List.Perm.refl _, by simp, fun T' ol' a b c d => ⟨od, (k, r) :: old, rfl, h2, ?_, ?_, d⟩⟩
      · intro q hq
        rcases List.mem_cons.mp hq with rfl | hq
        · exact b _ (.head _)
        · exact a _ (h8 q hq)
      · simp only [List.length_cons, List.length_nil] at c ⊢; omega
  have mid : ∀ {a b c d : Led}, ((a ++ b) ++ (c ++ d)).Perm ((a ++ c) ++ (b ++ d)) := by
    intro a b c d
    rw [List.append_assoc, List.append_assoc]
    refine List.Perm.append_left a ?_
    rw [← List.append_assoc, ← List.append_assoc]
    exact List.Perm.append_right d List.perm_append_comm
  intro e
  have two : ∀ {dx : Addr} {tt : TT} {l1 l2 : Led} {e : Ex}, NodeCells w I T ol rs dx tt.tab l1 → (∃ lk lr, l2.Perm (lk ++ lr) ∧ lr.length ≤ una e .nil ∧ ∀ (T' : Str) (ol' : List Addr), (∀ a ∈ ol, a ∈ ol') → (∀ q ∈ lr, q.1 ∈ ol') → ol.length + lr.length ≤ ol'.length → ol'.length ≤ 8000 → Cells w I T' ol' [] e .nil lk) →
      ∃ lk lr, (l1 ++ l2).Perm (lk ++ lr) ∧ lr.length ≤ 1 + una e .nil ∧ ∀ (T' : Str) (ol' : List Addr), (∀ a ∈ ol, a ∈ ol') → (∀ q ∈ lr, q.1 ∈ ol') → ol.length + lr.length ≤ ol'.length → ol'.length ≤ 8000 → ∃ l1 l2, lk = l1 ++ l2 ∧ NodeCells w I T' ol' [] dx none l1 ∧ Cells w I T' ol' [] e .nil l2 := by
    intro dx tt l1 l2 e h1 ⟨lk2, lr2, p2, n2, c2⟩
    obtain ⟨lk1, lr1, p1, n1, c1⟩ := hN h1
    refine ⟨lk1 ++ lk2, lr1 ++ lr2, (p1.append p2).trans mid, by rw [List.length_append]; omega, fun T' ol' a b c d => ⟨lk1, lk2, rfl, c1 T' ol' a (fun q hq => b q (List.mem_append_left _ hq)) ?_ d, c2 T' ol' a (fun q hq => b q (List.mem_append_right _ hq)) ?_ d⟩⟩
    · rw [List.length_append] at c; omega
    · rw [List.length_append] at c; omega
  have three : ∀ {dx : Addr} {tt : TT} {l1 l2 l3 : Led} {e e' : Ex}, NodeCells w I T ol rs dx tt.tab l1 → (∃ lk lr, l2.Perm (lk ++ lr) ∧ lr.length ≤ una e .nil ∧ ∀ (T' : Str) (ol' : List Addr), (∀ a ∈ ol, a ∈ ol') → (∀ q ∈ lr, q.1 ∈ ol') → ol.length + lr.length ≤ ol'.length → ol'.length ≤ 8000 → Cells w I T' ol' [] e .nil lk) →
      (∃ lk lr, l3.Perm (lk ++ lr) ∧ lr.length ≤ una e' .nil ∧ ∀ (T' : Str) (ol' : List Addr), (∀ a ∈ ol, a ∈ ol') → (∀ q ∈ lr, q.1 ∈ ol') → ol.length + lr.length ≤ ol'.length → ol'.length ≤ 8000 → Cells w I T' ol' [] e' .nil lk) →
      ∃ lk lr, (l1 ++ (l2 ++ l3)).Perm (lk ++ lr) ∧ lr.length ≤ 1 + (una e .nil + una e' .nil) ∧ ∀ (T' : Str) (ol' : List Addr), (∀ a ∈ ol, a ∈ ol') → (∀ q ∈ lr, q.1 ∈ ol') → ol.length + lr.length ≤ ol'.length → ol'.length ≤ 8000 → ∃ l1 l2 l3, lk = l1 ++ (l2 ++ l3) ∧ NodeCells w I T' ol' [] dx none l1 ∧ Cells w I T' ol' [] e .nil l2 ∧ Cells w I T' ol' [] e' .nil l3 := by
    intro dx tt l1 l2 l3 e e' h1 ⟨lk2, lr2, p2, n2, c2⟩ ⟨lk3, lr3, p3, n3, c3⟩
    obtain ⟨lk1, lr1, p1, n1, c1⟩ := hN h1
    refine ⟨lk1 ++ (lk2 ++ lk3), lr1 ++ (lr2 ++ lr3), (p1.append ((p2.append p3).trans mid)).trans mid, by rw [List.length_append, List.length_append]; omega, fun T' ol' a b c d => ⟨lk1, lk2, lk3, rfl, c1 T' ol' a (fun q hq => b q (List.mem_append_left _ hq)) ?_ d, c2 T' ol' a (fun q hq => b q (List.mem_append_right _ (List.mem_append_left _ hq))) ?_ d, c3 T' ol' a (fun q hq => b q (List.mem_append_right _ (List.mem_append_right _ hq))) ?_ d⟩⟩
    all_goals (rw [List.length_append, List.length_append] at c; omega)
  induction e with
  | word x dx n wd =>
    intro tt l h
    exact hN h
  | look x dx mem n neg e ih =>
    rintro tt l ⟨l1, l2, rfl, h1, h2⟩
    exact two h1 (ih h2)
  | many x dx mem n least most e ih =>
    rintro tt l ⟨l1, l2, rfl, h1, h2⟩
    exact two h1 (ih h2)
  | choice x dx mem n a b iha ihb =>
    rintro tt l ⟨l1, l2, l3, rfl, h1, h2, h3⟩
    exact three h1 (iha h2) (ihb h3)
  | chain x dx mem n a b iha ihb =>
    rintro tt l ⟨l1, l2, l3, rfl, h1, h2, h3⟩
    exact three h1 (iha h2) (ihb h3)
/-- what a run tells: the tree, the kept place -/
def keptD (shift : Nat) : Err → List Dat
  | none => []
  | some (n, q) => [.str (nmS n), .int ((q : Int) - shift)]
def treeD (shift : Nat) : Option Tree → List Dat
  | none => []
  | some t => [shapeD shift t]
def toldD (shift : Nat) (o : Out) : Dat := .tuple [.list (treeD shift o.1), .list (keptD shift o.2.2)]
mutual
theorem shape_sh (a k : Nat) : ∀ t : Tree, shapeD (k + a) (t.sh a) = shapeD k t
  | .nd n s e cs => by
    rw [Tree.sh, shapeD, shapeD, shapes_sh a k cs]
    have h1 : (((s + a : Nat) : Int) - ((k + a : Nat) : Int)) = (s : Int) - (k : Int) := by omega
    have h2 : (((e + a : Nat) : Int) - ((k + a : Nat) : Int)) = (e : Int) - (k : Int) := by omega
    rw [h1, h2]
theorem shapes_sh (a k : Nat) : ∀ ts : List Tree, shapeDs (k + a) (shs a ts) = shapeDs k ts
  | [] => rfl
  | t :: ts => by rw [shs, shapeDs, shapeDs, shape_sh a k t, shapes_sh a k ts]
end
theorem told_sh (a k : Nat) (o : Out) : toldD (k + a) (outSh a o) = toldD k o := by
  obtain ⟨r, tt, err⟩ := o
  unfold toldD outSh
  have h1 : treeD (k + a) (resSh a r) = treeD k r := by
    cases r with
    | none => rfl
    | some t => show [_] = [_]; rw [shape_sh]
  have h2 : keptD (k + a) (errSh a err) = keptD k err := by
    cases err with
    | none => rfl
    | some x =>
      obtain ⟨n, q⟩ := x
      show [_, _] = [_, _]
      congr 3
      omega
  simp only [h1, h2]
abbrev ToldRet (Q : Value → Shared → Prop) (h₀ : Heap) (L : Addr) (m : Str → Option Value) (s : Shared) (w : World) (e : Ex) (ol : List Addr) (I Z : Led) (dat : Dat) : Prop :=
  ∀ v h' tk' lc' tl ol', Fr h₀ L h' m → News h₀ L h' (lc' ++ (tl ++ Z)) → Sep lc' (tl ++ Z) → (∀ T' : Str, Cells w (tl ++ I) T' ol' [] e .nil lc') → (∀ a ∈ ol', ∃ o, (a, o) ∈ tl ++ Z) → ol'.length ≤ ol.length + una e .nil → Fresh tl Z → DatIn tl v dat → Q v { s with heap := h', toks := tk' }
theorem told_end {Q : Value → Shared → Prop} {h₀ h' : Heap} {L : Addr} {m : Str → Option Value} {s : Shared} {w : World} {T : Str} {e : Ex} {ol rs : List Addr} {I I5 Z Y lc5 : Led} {tt : TT} {dat : Dat} {v : Value} {tk : Nat}
    (ret : ToldRet Q h₀ L m s w e ol I Z dat) (F : Fr h₀ L h' m) (N : News h₀ L h' Y) (hCl : Cells w I5 T ol rs e tt lc5) (hnd : (lc5.map (·.1)).Nodup) (hlc : ∀ q ∈ lc5, q ∈ Y) (hZ : ∀ q ∈ Z, q ∈ Y) (hap : ∀ p ∈ Z, ∀ q ∈ lc5, p.1 ≠ q.1)
    (hOl : ∀ a ∈ ol, ∃ o, (a, o) ∈ Z) (hol : ol.length + una e .nil ≤ 8000) (hI5 : ∀ q ∈ I5, q ∈ I ∨ (q ∈ Y ∧ ∀ p ∈ lc5 ++ Z, p.1 ≠ q.1)) (hv : ∀ tl : Led, (∀ q ∈ Y, (∀ p ∈ lc5 ++ Z, p.1 ≠ q.1) → q ∈ tl) → DatIn tl v dat) : Q v { s with heap := h', toks := tk } := by
  classical
  obtain ⟨lk, lr, hp, hlr, hc⟩ := cells_renew hCl
  have hnd' : ((lk ++ lr).map (·.1)).Nodup := (hp.map _).nodup_iff.mp hnd
  have hmem : ∀ q, q ∈ lc5 ↔ q ∈ lk ∨ q ∈ lr := fun q => by rw [hp.mem_iff, List.mem_append]
  rw [List.map_append, List.nodup_append] at hnd'
  obtain ⟨n1, n2, n3⟩ := hnd'
  let tl := Y.filter fun q => decide (∀ p ∈ lk ++ Z, p.1 ≠ q.1)
  have mtl : ∀ {q}, q ∈ Y → (∀ p ∈ lc5 ++ Z, p.1 ≠ q.1) → q ∈ tl := fun {q} hq ha => List.mem_filter.mpr ⟨hq, decide_eq_true fun p hp => ha p (by
    rcases List.mem_append.mp hp with h | h
    · exact List.mem_append_left _ ((hmem p).mpr (.inl h))
    · exact List.mem_append_right _ h)⟩
  have mlr : ∀ {q}, q ∈ lr → q ∈ tl := fun {q} hq => List.mem_filter.mpr ⟨hlc q ((hmem q).mpr (.inr hq)), decide_eq_true fun p hp => by
    rcases List.mem_append.mp hp with h | h
    · exact fun e => n3 _ (List.mem_map_of_mem h) _ (List.mem_map_of_mem hq) e
    · exact hap p h q ((hmem q).mpr (.inr hq))⟩
  refine ret v h' tk lk tl (ol ++ lr.map (·.1)) F (fun q hq => N q ?_) ⟨n1, ?_⟩ (fun T' => Cells.mono (I := I5) (fun q hq _ => ?_) (hc T' _ (fun a ha => List.mem_append_left _ ha) (fun q hq => List.mem_append_right _ (List.mem_map_of_mem hq)) ?_ ?_)) ?_ ?_ ?_ (hv tl fun q h1 h2 => mtl h1 h2)
  · rcases List.mem_append.mp hq with h | h
    · exact hlc q ((hmem q).mpr (.inl h))
    rcases List.mem_append.mp h with h | h
    · exact (List.mem_filter.mp h).1
    · exact hZ q h
  · intro p hp q hq
    rcases List.mem_append.mp hp with h | h
    · exact Ne.symm (of_decide_eq_true (List.mem_filter.mp h).2 q (List.mem_append_left _ hq))
    · exact hap p h q ((hmem q).mpr (.inl hq))
  · rcases hI5 q hq with h | ⟨h1, h2⟩
    · exact List.mem_append_right _ h
    · exact List.mem_append_left _ (mtl h1 h2)
  · rw [List.length_append, List.length_map]; exact Nat.le_refl _
  · rw [List.length_append, List.length_map]; omega
  · intro a ha
    rcases List.mem_append.mp ha with h | h
    · obtain ⟨o, ho⟩ := hOl a h; exact ⟨o, List.mem_append_right _ ho⟩
    · obtain ⟨q, hq, rfl⟩ := List.mem_map.mp h; exact ⟨q.2, List.mem_append_left _ (mlr hq)⟩
  · rw [List.length_append, List.length_map]; omega
  · intro p hp q hq
    exact of_decide_eq_true (List.mem_filter.mp hp).2 q (List.mem_append_right _ hq)
end Mine
namespace Mine
local macro_rules | `(tactic| walk_at "zz") => `(tactic| fail)
local macro_rules | `(tactic| walk_at "zz") => `(tactic| fail)
local macro_rules | `(tactic| walk_at "zz") => `(tactic| fail)
local macro_rules | `(tactic| walk_at "zz") => `(tactic| fail)
local macro_rules | `(tactic| walk_at "zz") => `(tactic| fail)
local macro_rules | `(tactic| walk_at "zz") => `(tactic| fail)
local macro_rules | `(tactic| walk_at "zz") => `(tactic| fail)
local macro_rules | `(tactic| walk_at "zz") => `(tactic| fail)
local macro_rules | `(tactic| walk_at "zz") => `(tactic| fail)
local macro_rules | `(tactic| walk_at "zz") => `(tactic| fail)
local macro_rules | `(tactic| walk_at "zz") => `(tactic| fail)
local macro_rules | `(tactic| walk_at "zz") => `(tactic| fail)
local macro_rules | `(tactic| walk_at "zz") => `(tactic| fail)
local macro_rules | `(tactic| walk_at "zz") => `(tactic| fail)
local macro_rules | `(tactic| walk_at "zz") => `(tactic| fail)
local macro_rules | `(tactic| walk_at "zz") => `(tactic| fail)
local macro_rules | `(tactic| walk_at "zz") => `(tactic| fail)
local macro_rules | `(tactic| walk_at "zz") => `(tactic| fail)
local macro_rules | `(tactic| walk_at "zz") => `(tactic| fail)
local macro_rules | `(tactic| walk_at "zz") => `(tactic| fail)
local macro_rules | `(tactic| walk_at "zz") => `(tactic| fail)
local macro_rules | `(tactic| walk_at "zz") => `(tactic| fail)
local macro_rules | `(tactic| walk_at "zz") => `(tactic| fail)
local macro_rules | `(tactic| walk_at "zz") => `(tactic| fail)
local macro_rules | `(tactic| walk_at "zz") => `(tactic| fail)
local macro_rules | `(tactic| walk_at "zz") => `(tactic| fail)
local macro_rules | `(tactic| walk_at "zz") => `(tactic| fail)
local macro_rules | `(tactic| walk_at "zz") => `(tactic| fail)
local macro_rules | `(tactic| walk_at "zz") => `(tactic| fail)
local macro_rules | `(tactic| walk_at "zz") => `(tactic| fail)
local macro_rules | `(tactic| walk_at "zz") => `(tactic| fail)
local macro_rules | `(tactic| walk_at "zz") => `(tactic| fail)
local macro_rules | `(tactic| walk_at "zz") => `(tactic| fail)
local macro_rules | `(tactic| walk_at "zz") => `(tactic| fail)
local macro_rules | `(tactic| walk_at "zz") => `(tactic| fail)
local macro_rules | `(tactic| walk_at "zz") => `(tactic| fail)
local macro_rules | `(tactic| walk_at "zz") => `(tactic| fail)
local macro_rules | `(tactic| walk_at "zz") => `(tactic| fail)
local macro_rules | `(tactic| walk_at "zz") => `(tactic| fail)
local macro_rules | `(tactic| walk_at "zz") => `(tactic| fail)
local macro_rules | `(tactic| walk_at "zz") => `(tactic| fail)
local macro_rules | `(tactic| walk_at "zz") => `(tactic| fail)
local macro_rules | `(tactic| walk_at "zz") => `(tactic| fail)
local macro_rules | `(tactic| walk_at "zz") => `(tactic| fail)
local macro_rules | `(tactic| walk_at "zz") => `(tactic| fail)
local macro_rules | `(tactic| walk_at "zz") => `(tactic| fail)
local macro_rules | `(tactic| walk_at "zz") => `(tactic| fail)
local macro_rules | `(tactic| walk_at "zz") => `(tactic| fail)
local macro_rules | `(tactic| walk_at "zz") => `(tactic| fail)
local macro_rules | `(tactic| walk_at "zz") => `(tactic| fail)
local macro_rules | `(tactic| walk_at "zz") => `(tactic| fail)
local macro_rules | `(tactic| walk_at "zz") => `(tactic| fail)
local macro_rules | `(tactic| walk_at "zz") => `(tactic| fail)
local macro_rules | `(tactic| walk_at "zz") => `(tactic| fail)
local macro_rules | `(tactic| walk_at "zz") => `(tactic| fail)
local macro_rules | `(tactic| walk_at "zz") => `(tactic| fail)
local macro_rules | `(tactic| walk_at "zz") => `(tactic| fail)
local macro_rules | `(tactic| walk_at "zz") => `(tactic| fail)
local macro_rules | `(tactic| walk_at "zz") => `(tactic| fail)
local macro_rules | `(tactic| walk_at "zz") => `(tactic| fail)
local macro_rules | `(tactic| walk_at "zz") => `(tactic| fail)
local macro_rules | `(tactic| walk_at "zz") => `(tactic| fail)
local macro_rules | `(tactic| walk_at "zz") => `(tactic| fail)
local macro_rules | `(tactic| walk_at "zz") => `(tactic| fail)
local macro_rules | `(tactic| walk_at "zz") => `(tactic| fail)
local macro_rules | `(tactic| walk_at "zz") => `(tactic| fail)
local macro_rules | `(tactic| walk_at "zz") => `(tactic| fail)
local macro_rules | `(tactic| walk_at "zz") => `(tactic| fail)
local macro_rules | `(tactic| walk_at "zz") => `(tactic| fail)
local macro_rules | `(tactic| walk_at "zz") => `(tactic| fail)
local macro_rules | `(tactic| walk_at "zz") => `(tactic| fail)
local macro_rules | `(tactic| walk_at "zz") => `(tactic| fail)
theorem rs_A_td : True := by w_top off; trivial
local macro_rules | `(tactic| k_all) => `(tactic| assumption)
local macro_rules | `(tactic| k_ne) => `(tactic| first | assumption | exact Ne.symm (by assumption) | exact Nat.ne_of_lt (by assumption) | exact Nat.ne_of_gt (by assumption))
local macro_rules | `(tactic| k_room) => `(tactic| ktr_room)
local macro_rules | `(tactic| walk_at "call builtin:getattr") => `(tactic| (k_here; (with_reducible show wpAny _ _ (call (Value.builtin _) [_, Value.str _ _, _]) _ _ _); k_dflt (first
  | (refine' ga3_own ?k1 ?k2 ?k3 ?k4 ?k5 ?k6 ?k7 ?k8 ?k9 ?k10 ?k11 ?_; (case k1 => k_asm); (case k2 => k_asm); (case k3 => k_inst); (case k4 => k_is); (case k5 => k_is); (case k6 => k_is); (case k7 => k_is); (case k8 => k_get); (case k9 => k_handed); (case k10 => decide +kernel); (case k11 => k_is); k_whole)
  | (refine' ga3_miss ?k1 ?k2 ?k3 ?k4 ?k5 ?k6 ?k7 ?k8 ?k9 ?k10 ?k11 ?k12 ?k13 ?_; (case k1 => k_asm); (case k2 => k_asm); (case k3 => k_asm); (case k4 => k_inst); (case k5 => k_is); (case k6 => k_is); (case k7 => k_is); (case k8 => decide +kernel); (case k9 => k_get); (case k10 => decide +kernel); (case k11 => k_is); (case k12 => exact rfl); (case k13 => (first | (refine' MsgOk.of ?q1 ?q2 ?q3; (case q1 => k_is); (case q2 => decide +kernel); (case q3 => decide +kernel)) | (rename IsEx _ => h5; rcases h5 with e5 | e5 | e5 | e5 | e5 <;> subst e5 <;> (refine' MsgOk.of ?q1 ?q2 ?q3; (case q1 => k_is); (case q2 => decide +kernel); (case q3 => decide +kernel))))); k_whole; intro h' tk' F' N'; (try k_sweep)))))
local macro_rules | `(tactic| k_upd) => `(tactic| first | (refine' Off.head ?a; (case a => k_all)) | (refine' Off.tail ?a ?b; (case a => k_ne); (case b => k_upd)))
local macro_rules | `(tactic| walk_at "pyIter ref") => `(tactic| (k_here; (with_reducible show wpAny _ _ (pyIter (Value.ref _)) (fun it s₂ => codeAny _ _ (Code.forLoop _ it _ _ _) _ s₂) _ _); k_dflt (refine' tup_iter ?k1 ?k2 ?k3 ?_; (case k1 => k_asm); (case k2 => k_asm); (case k3 => exact News.isTup (by k_asm) (by k_mem)); k_whole); intro I' h' o' F' N' x' l1 l2; (try k_lt l1); (try k_lt2 l2); (try k_sweep)))
local macro_rules | `(tactic| walk_at "codeAny forLoop") => `(tactic| (k_here; (with_reducible show codeAny _ _ (Code.forLoop _ (Value.ref _) _ _ _) (okR _) _); k_dflt (first
  | (refine' tup_last ?k1 ?k2 ?k3 ?k4 ?k5 ?k6 ?k7 ?_; (case k1 => k_asm); (case k4 => assumption); (case k2 => k_asm); (case k3 => k_upd); (case k5 => exact News.isTup (by k_asm) (by k_mem)); (case k6 => exact rfl); (case k7 => exact rfl); k_whole; intro h' F' N'; (try k_sweep))
  | (refine' tup_turn ?k1 ?k2 ?k3 ?k4 ?k5 ?k6 ?k7 ?_; (case k1 => k_asm); (case k4 => assumption); (case k2 => k_asm); (case k3 => k_updF); (case k5 => exact News.isTup (by k_asm) (by k_mem)); (case k6 => first | exact get2_0 | exact get2_1 | exact rfl); (case k7 => k_ne); k_whole; intro h' o' F' N' x' T'; (try k_sweep)))))
local macro_rules | `(tactic| walk_at "call builtin:len") => `(tactic| (k_here; (with_reducible show wpAny _ _ (call (Value.builtin _) [Value.ref _]) _ _ _); k_dflt (refine' d_len (knd := intKind _ _) ?k1 ?k2 ?k3 ?k4 ?k5 ?k6 ?_; (case k1 => k_asm); (case k2 => k_mem); (case k3 => assumption); (case k4 => assumption); (case k5 => first | exact rowsK_length _ | rfl); (case k6 => (first | omega | (simp only [List.length_append, List.length_cons, List.length_nil]; omega))); k_whole; intro tk')))
local macro_rules | `(tactic| walk_at "getMethod ref") => `(tactic| (k_here; (with_reducible show wpAny _ _ (getMethod (Value.ref _) (Str.ofString "get") _) _ _ _); k_dflt (refine' d_meth (knd := intKind _ _) ?k1 ?k2 ?k3 PySem.F.slot_dict_get PySem.F.type_dict_get ?_; (case k1 => k_asm); (case k2 => k_mem); (case k3 => assumption); k_whole)))
local macro_rules | `(tactic| walk_at "call builtin:dict.get") => `(tactic| (k_here; (with_reducible show wpAny _ _ (call (Value.builtin _) [Value.ref _, Value.int _ _]) _ _ _); k_dflt (refine' d_get (knd := intKind _ _) ?k1 ?k2 ?k3 ?k4 (intKind_is _ _ _ _) ?_; (case k1 => k_asm); (case k2 => k_mem); (case k3 => assumption); (case k4 => assumption); k_whole)))
local macro_rules | `(tactic| walk_at "compareOp In int ref") => `(tactic| (k_here; k_dflt (refine' d_in (knd := intKind _ _) ?k1 ?k2 ?k3 ?k4 (intKind_is _ _ _ _) ?_; (case k1 => k_asm); (case k2 => k_mem); (case k3 => assumption); (case k4 => assumption); k_whole)))
local macro_rules | `(tactic| walk_at "subscriptTail") => `(tactic| (k_here; (with_reducible show wpAny _ _ (subscriptTail _ _ (Value.ref _) (Value.int _ _)) _ _ _); k_dflt (refine' d_item (knd := intKind _ _) ?k1 ?k2 ?k3 (intKind_is _ _ _ _) ?k5 ?_; (case k1 => k_asm); (case k2 => k_mem); (case k3 => assumption); (case k5 => assumption); k_whole)))
local macro_rules | `(tactic| walk_at "setItem ref int") => `(tactic| (k_here; k_dflt (refine' d_set (knd := intKind _ _) ?k1 ?k2 ?k3 ?k4 (intKind_is _ _ _ _) ?k6 ?_; (case k1 => k_asm); (case k2 => k_asm); (case k3 => k_updF); (case k4 => assumption); (case k6 => (rw [sizeLine_eq]; (first | omega | (simp only [rowsK_length, rowK_length, List.length_map, List.length_append, List.length_cons, List.length_nil]; omega)))); k_whole); intro h' o' F' N' hd'; (try dsimp only at N'); (try simp only [rowsK_length, stored_rows] at hd'); (try k_sweep)))
local macro_rules | `(tactic| k_all) => `(tactic| first | assumption | (refine List.forall_mem_append.mpr ⟨?_, ?_⟩ <;> k_all) | (exact tbn_neAll (by first | assumption | tbn_find)) | (exact tbn_neAll (tbn_up (by assumption) (by tbn_find))))
local macro_rules | `(tactic| k_mem) => `(tactic| ((with_reducible show List.Mem _ _); first | (show (_ : Addr × Obj) ∈ (_ : List (Addr × Obj)); ktr_member) | ((with_reducible show List.Mem _ (_ ++ _)); first | (refine' List.mem_append_left _ ?q; (case q => k_mem)) | (refine' List.mem_append_right _ ?q; (case q => k_mem)))))
local macro_rules | `(tactic| k_put) => `(tactic| first | exact putL_nil _ _ _ _ _ | exact putL_one _ _ _ _ _ _ _ _)
local macro_rules | `(tactic| walk_at "eval Name") => `(tactic| (k_here; k_dflt (refine' nameX_L ?F ?v ?_ ?a ?b; (case F => k_asm); (case a => rfl); (case b => rfl); (case v => assumption); k_whole)))
local macro_rules | `(tactic| k_put) => `(tactic| first | exact putL_nil _ _ _ _ _ | exact putL_one _ _ _ _ _ _ _ _ | exact putL_err_pos | exact putL_err_expr)
local macro_rules | `(tactic| walk_at "getAttr ref") => `(tactic| (k_here; k_dflt (refine' exc_getD ?k1 ?k2 ?k3 ?k4 ?k5 ?k6 ?k7 ?k8 ?k9 ?k10 ?k11 ?_; (case k1 => k_asm); (case k2 => k_asm); (case k3 => (refine' InstAt.of_newsF ?N ?h1 ?h2; (case N => k_asm); (case h1 => k_mem); (case h2 => k_mem))); (case k4 => k_is); (case k5 => k_is); (case k6 => k_is); (case k7 => k_is); (case k8 => k_is); (case k9 => k_is); (case k10 => k_get); (case k11 => k_handed); k_whole)))
local macro_rules | `(tactic| walk_at "setAttr ref") => `(tactic| (k_here; k_dflt (refine' exc_set ?k1 ?k2 ?k3 ?k4 ?k5 ?k6 ?k7 ?k8 ?k9 ?k10 ?k11 ?k12 ?k13 ?_; (case k1 => k_asm); (case k2 => k_asm); (case k3 => k_asm); (case k4 => (refine' InstAt.of_newsF ?N ?h1 ?h2; (case N => k_asm); (case h1 => k_mem); (case h2 => k_mem))); (case k5 => exact rfl); (case k6 => k_is); (case k7 => kernel_rfl); (case k8 => k_is); (case k9 => k_is); (case k10 => k_get); (case k11 => k_put); (case k12 => k_upd); (case k13 => exact Nat.le_of_ble_eq_true rfl); k_whole; intro h' F' N'; (try k_sweep))))
local macro_rules | `(tactic| k_slotget) => `(tactic| first | assumption | rfl)
local macro_rules | `(tactic| walk_at "getAttr ref") => `(tactic| (k_here; k_dflt (refine' get_slotW ?k1 ?k2 ?k3 ?k4 ?k5 ?k6 ?k7 ?k8 ?k9 ?k10 ?k11 ?_; (case k1 => k_asm); (case k2 => k_asm); (case k3 => k_asm); (case k4 => k_mem); (case k5 => k_is); (case k6 => k_is); (case k7 => k_is); (case k8 => k_is); (case k9 => k_is); (case k10 => k_slotget); (case k11 => k_handed); k_whole)))
local macro_rules | `(tactic| walk_at "call builtin:len") => `(tactic| (k_here; (with_reducible show wpAny _ _ (call (Value.builtin _) [Value.str _ _]) _ _ _); k_dflt (refine' SC.len_str ?k1 ?_; (case k1 => assumption); k_whole)))
local macro_rules | `(tactic| walk_at "getMethod ref") => `(tactic| (k_here; (with_reducible show wpAny _ _ (getMethod (Value.ref _) (Str.ofString "match_core") _) _ _ _); k_dflt (refine' meth_core ?k1 ?k2 ?k3 ?k4 ?k5 ?_; (case k1 => k_asm); (case k2 => k_asm); (case k4 => k_inst); (case k3 => assumption); (case k5 => assumption); k_whole)))
local macro_rules | `(tactic| walk_at "call ref") => `(tactic| (k_here; (with_reducible show wpAny _ _ (call (Value.ref 266) _) _ _ _); refine Held.out ?_))
local macro_rules | `(tactic| walk_at "exec For Name Attribute cons nil") => `(tactic| (k_here; refine for_F ?_))
local macro_rules | `(tactic| walk_at "truthy ref") => `(tactic| (k_here; k_dflt (refine' truthyL ?k1 ?k2 ?k3 ?k4 ?_; (case k1 => k_asm); (case k2 => k_mem); (case k3 => first | assumption | (simp only [List.size_toArray, List.length_cons, List.length_nil]; decide) | (simp only [Array.size_push, List.size_toArray, List.length_cons, List.length_nil]; omega)); (case k4 => first | assumption | exact ne1 | exact ne0 | exact neP); k_whole); intro tk'))
local macro_rules | `(tactic| walk_at "call ref") => `(tactic| (k_here; (with_reducible show wpAny _ _ (call (Value.ref 534) _) _ _ _); refine Held.out ?_))
local macro_rules | `(tactic| walk_at "call ref") => `(tactic| (k_here; (with_reducible show wpAny _ _ (call (Value.ref 94) _) _ _ _); refine Held.out ?_))
local macro_rules | `(tactic| walk_at "getAttr ref") => `(tactic| (k_here; (with_reducible show wpAny _ _ (getAttr (Value.ref _) (Str.ofString "name") _) _ _ _); k_dflt (refine' ex_nameW ?k1 ?k2 ?k3 ?k4 ?k5 ?k6 ?k7 ?_; (case k1 => k_asm); (case k2 => k_asm); (case k3 => k_asm); (case k4 => k_mem); (case k5 => assumption); (case k6 => assumption); (case k7 => rfl); k_whole)))
theorem deep_pe : ∀ e : Ex, e.pe.deep = e.deep
  | .word .. => rfl
  | .look _ _ _ _ _ e => by rw [Ex.pe, PE.deep, Ex.deep, deep_pe e]
  | .many _ _ _ _ _ _ e => by rw [Ex.pe, PE.deep, Ex.deep, deep_pe e]
  | .choice _ _ _ _ a b => by rw [Ex.pe, PE.deep, Ex.deep, deep_pe a, deep_pe b]
  | .chain _ _ _ _ a b => by rw [Ex.pe, PE.deep, Ex.deep, deep_pe a, deep_pe b]
theorem told_ok {w : World} {T : Str} {e : Ex} {dp un : Nat} {gd : Option (List Code)} {cn : Str} {cs : Scope} {a : Addr} {ccd : Value} {cl : List (Str × Addr)} {outer : List Env} {A₀ : Around} {base h₀ : Heap} {L : Addr} {m : Str → Option Value} {s : Shared}
    {loose : List Str} {mean : ExcName → Option Value} {mg mb : Str → Option Value} {Q E : Value → Shared → Prop} {p shift : Nat} {t1 t2 t3 : Tok} {lc I Z : Led} {ol : List Addr}
    (B : Below A₀ base outer h₀) (F : Fr h₀ L s.heap m) (X : (hd.heap_39 w.params).In h₀) (Tp : Top topProg loose mean mg mb h₀) (hk : cs.kind = .function) (N : News h₀ L s.heap (lc ++ Z)) (hIZ : ∀ q ∈ I, q ∈ Z)
    (hC : CoreOK w T e) (hSep : Sep lc Z) (hOl : ∀ a ∈ ol, ∃ o, (a, o) ∈ Z) (hp : p ≤ T.cps.size) (hT : T.cps.size ≤ 1000) (hun1 : una e .nil ≤ 1000) (hdeep : e.deep ≤ 5) (hEx : ExIn I e) (hCl : Cells w I T ol [] e .nil lc)
    (hok : e.pe.ok) (hd : dp + 100 < recursionLimit) (hun : un + 1000 < cLine) (hol : ol.length + una e .nil ≤ 8000)
    (ret : ToldRet Q h₀ L m s w e ol I Z (toldD shift (core T.cps.toList e.pe .nil p none))) :
    wpAny (model PR w) (ktrTop dp un gd cn cs L a ccd cl outer) (call (.ref 541) [.ref e.x, .str T t1, .int p t2, .int shift t3]) Q E s := by
  obtain ⟨hIe, sle, tne, hxe, hsle⟩ := hEx.own
  obtain ⟨es, ks, hde, hge⟩ := Cells.dict hCl
  have hxeZ := hIZ _ hxe
  generalize hxx : e.x = xe at hxeZ
  generalize hdd : e.dx = de at hxeZ hde
  generalize hcc : e.cls = Ce at hxeZ hIe
  refine wpAny_call ?_
  k_dflt ktr_enter
  k_steps
  unfold Held
  rename Fr _ _ _ (fun _ => _) => F1
  rename News _ _ _ _ => N1
  rename Below _ _ _ _ => B1
  rename Frag.In _ _ => X1
  rename Top _ _ _ _ _ _ => T1
  refine make_err B1 F1 X1 T1 rfl N1 ?_ ?_ ?_
  · show dp + 1 + _ < _; omega
  · show un + 3 + _ < _; omega
  · intro er ed ta h3 tk3 oe fs F3 N3 hE3 l1 l2 l3
    clear N1 F1
    k_steps
    unfold Held
    rename Fr _ _ _ (fun _ => _) => F4
    rename News _ _ _ _ => N4
    rename Below _ _ _ _ => B4
    rename Frag.In _ _ => X4
    rename Top _ _ _ _ _ _ => T4
    rename _ ∧ _ ∧ _ ∧ AllLt _ (_ ++ _) => h4
    rename (_ == sysModules) = _ => lo4
    rename Obj.IsDictOf (intKind PR w) _ _ => hi4
    rename_i ca hx4 oc4 hs4 fs4 fi4
    subst hxx
    refine hC _ _ _ _ _ _ _ _ _ _ _ _ _ _ _ loose mean mg mb _ _ _ er ed _ oe fs ol [] lc ((er, errO ed fs) :: I) ((er, errO ed fs) :: (ta, tupObj [.str T t1]) :: Z) .nil p none _ _ 1000 B4 F4 X4 T4 rfl ?_ (fun q hq => N4 q ?_) ?_ ⟨hi4, ErrObj.mono (fun _ h _ => by cases h) hE3, ExIn.mono Sub.cons hEx, .head _, lo4, fun _ h => by cases h⟩ (Cells.mono Sub.cons hCl) ?_ hp ?_ (Nat.le_refl _) hT ?_ ?_ ?_
    · intro q hq
      rcases List.mem_cons.mp hq with rfl | hq
      · exact .head _
      · exact .tail _ (.tail _ (hIZ q hq))
    · simp only [List.mem_cons, List.mem_append] at hq ⊢
      rcases hq with h | h | h | h | h | h <;> simp only [h, true_or, or_true]
    · have h3 := tb_ltOf l3
      have h4' := h4.2.2.2
      have n1 : ∀ q ∈ lc ++ Z, q.1 ≠ ed := fun q hq => Nat.ne_of_lt (h3 q (.tail _ (.tail _ hq)))
      have n2 : ∀ q ∈ lc ++ Z, q.1 ≠ er := fun q hq => Nat.ne_of_lt (Nat.lt_trans (tb_ltOf l1 q hq) l2)
      have n3 : ∀ q ∈ lc ++ Z, q.1 ≠ ta := fun q hq => Nat.ne_of_lt (tb_ltOf l1 q hq)
      have n4 : ∀ q ∈ lc ++ Z, q.1 ≠ _ := fun q hq => Nat.ne_of_lt (tb_ltOf h4' q hq)
      have m1 := h3 (er, errO ed fs) (.head _)
      have m2 := h3 (ta, tupObj [.str T t1]) (.tail _ (.head _))
      refine ⟨?_, ?_⟩
      · simp only [List.map_cons, List.nodup_cons, List.mem_cons, List.mem_map, not_or, not_exists, not_and]
        exact ⟨⟨Nat.ne_of_gt h4.1, fun q hq => n4 q (List.mem_append_left _ hq)⟩, fun q hq => n1 q (List.mem_append_left _ hq), hSep.1⟩
      · intro q hq c hc
        simp only [List.mem_cons] at hq hc
        rcases hq with rfl | rfl | hq <;> rcases hc with rfl | rfl | hc
        · exact Nat.ne_of_lt h4.2.1
        · exact Nat.ne_of_lt m1
        · exact Ne.symm (n2 c (List.mem_append_left _ hc))
        · exact Nat.ne_of_lt h4.2.2.1
        · exact Nat.ne_of_lt m2
        · exact Ne.symm (n3 c (List.mem_append_left _ hc))
        · exact n4 q (List.mem_append_right _ hq)
        · exact n1 q (List.mem_append_right _ hq)
        · exact hSep.2 q hq c hc
    · exact fun b hb => ⟨by simp, let ⟨o, ho⟩ := hOl b hb; ⟨o, .tail _ (.tail _ ho)⟩⟩
    · simpa using hun1
    · show dp + 1 + _ + _ < _; omega
    · show un + 3 + _ + _ < _; omega
    · intro r5 h5 tk5 oc5 oe5 rs5 lc5 tl5 F5 N5 S5 St5 C5 R5 Fr5 B5' V5
      obtain ⟨hCo5, hEo5, _, _, _, hRows5⟩ := St5
      clear N4 F4
      have hP5 := core_inv (T := T.cps.toList) (by simpa using hT) e.pe hok .nil p none (by simpa using hp) (allT_nil _)
      have hK5 := core_kept (T := T.cps.toList) (e := e.pe) (tt := .nil) (p := p) (err := none)
      generalize core T.cps.toList e.pe .nil p none = U at *
      obtain ⟨U1, U2, U3⟩ := U
      simp only [] at hEo5 C5 V5 B5' hP5 hK5
      obtain ⟨kE, g1, g2, g3, y1, y2, y3, yT, yq, qe, ev, rfl, hev⟩ := id hEo5
      have S5I : ∀ q ∈ tl5 ++ ((er, errO ed fs) :: I), q ∈ tl5 ++ ((er, errO ed fs) :: (ta, tupObj [.str T t1]) :: Z) := by
        intro q hq
        simp only [List.mem_cons, List.mem_append] at hq ⊢
        rcases hq with h | h | h
        · simp only [h, true_or, or_true]
        · simp only [h, true_or, or_true]
        · simp only [hIZ q h, true_or, or_true]
      have hlast : ∀ q ∈ tl5 ++ ((er, errO ed fs) :: I), q ∈ I ∨ (q ∈ tl5 ++ ((er, errO ed fs) :: (ta, tupObj [.str T t1]) :: Z) ∧ ∀ p ∈ lc5 ++ Z, p.1 ≠ q.1) := by
        intro q hq
        rcases List.mem_append.mp hq with h | h
        · refine .inr ⟨S5I q hq, fun p hp => ?_⟩
          rcases List.mem_append.mp hp with hp | hp
          · exact Ne.symm (S5.2 q (List.mem_append_left _ h) p (.tail _ (.tail _ hp)))
          · exact Fr5 q h p (.tail _ (.tail _ hp))
        rcases List.mem_cons.mp h with rfl | h
        · refine .inr ⟨S5I _ hq, fun p hp => ?_⟩
          rcases List.mem_append.mp hp with hp | hp
          · exact Ne.symm (S5.2 _ (List.mem_append_right _ (.head _)) p (.tail _ (.tail _ hp)))
          · exact Nat.ne_of_lt (Nat.lt_trans (tb_ltOf l1 p (List.mem_append_right _ hp)) l2)
        · exact .inl h
      have hnd5 : (lc5.map (·.1)).Nodup := (List.nodup_cons.mp (List.nodup_cons.mp S5.1).2).2
      have hap5 : ∀ p ∈ Z, ∀ q ∈ lc5, p.1 ≠ q.1 := fun p hp q hq => S5.2 p (List.mem_append_right _ (.tail _ (.tail _ hp))) q (.tail _ (.tail _ hq))
      have ap5 : ∀ d : Addr, AllLt d (lc5 ++ (tl5 ++ ((er, errO ed fs) :: (ta, tupObj [.str T t1]) :: Z))) → ∀ p ∈ lc5 ++ Z, p.1 ≠ d := fun d h p hp => tbn_neAll h p (by
        simp only [List.mem_append, List.mem_cons] at hp ⊢
        rcases hp with h | h <;> simp only [h, true_or, or_true])
      have in5 : ∀ p ∈ lc5 ++ Z, p ∈ lc5 ++ (tl5 ++ ((er, errO ed fs) :: (ta, tupObj [.str T t1]) :: Z)) := fun p hp => by
        simp only [List.mem_append, List.mem_cons] at hp ⊢
        rcases hp with h | h <;> simp only [h, true_or, or_true]
      cases U3 with
      | none =>
        obtain ⟨rfl, rfl⟩ := hev
        cases U1 with
        | none => exact absurd rfl (hK5 rfl)
        | some tr =>
          obtain ⟨n6, s6, e6, cs6⟩ := tr
          have hres5 := V5
          obtain ⟨hfit, hdeep6⟩ := hP5.1.2.2 _ rfl
          rw [deep_pe] at hdeep6
          obtain ⟨na, nd, ncl, nx, nep, nts, nte, ntT, nvs, rfl, n1, n2, n3, n4⟩ := NodeIn.inv V5
          have n1Z := S5I _ n1
          k_steps
          unfold Held
          rename Fr _ _ _ (fun _ => _) => F6
          rename News _ _ _ _ => N6
          refine shape_all (.nd n6 s6 e6 cs6) _ _ _ _ _ _ _ _ _ _ _ _ _ _ _ _ _ _ _ _ _ _ _ (tl5 ++ ((er, errO ed fs) :: I)) _ B4 F6 X4 T4 rfl N6 ?_ hres5 hfit ?_ ?_ ?_
          · intro q hq
            have := S5I q hq
            simp only [List.mem_cons, List.mem_append] at this ⊢
            simp only [this, or_true]
          · show dp + 1 + _ + _ < _; omega
          · show un + 3 + _ + _ < _; omega
          · intro v7 h7 tk7 tl7 F7 N7 Fr7 D7
            have ap7 := ap5 _ (by tbn_find)
            clear N6 F6
            k_steps
            rename_i N3 l3x hx Fa Na hk3 nm3 kF kN Tc3 X3
            have hin : ∀ q ∈ lc5 ++ (tl5 ++ ((er, errO ed fs) :: (ta, tupObj [.str T t1]) :: Z)), ∀ (b c d : Addr × Obj), q ∈ tl7 ++ (b :: c :: d :: (lc5 ++ (tl5 ++ ((er, errO ed fs) :: (ta, tupObj [.str T t1]) :: Z)))) := by
              intro q hq b c d
              rw [List.mem_append, List.mem_cons, List.mem_cons, List.mem_cons]
              simp only [hq, or_true]
            refine told_end ret kF kN C5 hnd5 ?_ ?_ hap5 hOl hol ?_ ?_
            · exact fun q hq => .tail _ (.tail _ (hin q (List.mem_append_left _ hq) _ _ _))
            · exact fun q hq => .tail _ (.tail _ (hin q (in5 q (List.mem_append_right _ hq)) _ _ _))
            · intro q hq
              rcases hlast q hq with h | ⟨h1, h2⟩
              · exact .inl h
              · exact .inr ⟨.tail _ (.tail _ (hin q (List.mem_append_right _ h1) _ _ _)), h2⟩
            · intro tl htl
              refine DatIn.tuple (htl _ (.head _) fun p hp => Nat.ne_of_lt (Heap.lt_size (N3 p (.tail _ (hin p (in5 p hp) _ _ _))).1)) (.cons (DatIn.list (htl _ (.tail _ (.head _)) fun p hp => ?_) (.cons (DatIn.mono (fun q hq => htl q (.tail _ (.tail _ (List.mem_append_left _ hq))) fun p hp => ?_) D7) .nil)) (.cons (DatIn.list (htl _ (.tail _ (.tail _ (List.mem_append_right _ (.head _)))) ap7) .nil) .nil))
              · skip
                exact Nat.ne_of_lt (l3x p (hin p (in5 p hp) _ _ _))
              · refine Fr7 q hq p ?_
                have := in5 p hp
                simp only [List.mem_cons, List.mem_append] at this ⊢
                simp only [this, or_true]
      | some pr =>
        obtain ⟨kn, kp⟩ := pr
        obtain ⟨rfl, xk, rfl, Ck, dk, slk, hCk, hxk, tnk, hslk⟩ := hev
        replace hCk : IsEx Ck := hCk
        have hxL := S5I _ hxk
        cases U1 with
        | none =>
          cases V5
          k_steps
          rename_i N3 l3x hx Fa Na hk3 nm3 kF kN Tc3 X3
          refine told_end ret kF kN C5 hnd5 ?_ ?_ hap5 hOl hol ?_ ?_
          · intro q hq; simp only [List.mem_cons, List.mem_append]; simp only [hq, true_or, or_true]
          · intro q hq; simp only [List.mem_cons, List.mem_append]; simp only [hq, true_or, or_true]
          · intro q hq
            rcases hlast q hq with h | ⟨h1, h2⟩
            · exact .inl h
            · refine .inr ⟨?_, h2⟩
              rw [List.mem_append] at h1
              simp only [List.mem_cons, List.mem_append]
              simp only [List.mem_cons] at h1
              rcases h1 with h | h | h | h <;> simp only [h, true_or, or_true]
          · intro tl htl
            refine DatIn.tuple (htl _ (.head _) fun p hp => Nat.ne_of_lt (Heap.lt_size (N3 p ?_).1)) (.cons (DatIn.list (htl _ (.tail _ (.head _)) (ap5 _ (by tbn_find))) .nil) (.cons (DatIn.list (htl _ (.tail _ (.tail _ (.head _))) (ap5 _ (by tbn_find))) (.cons (.str _ _) (.cons (.int _ _) .nil))) .nil))
            have := in5 p hp
            simp only [List.mem_cons, List.mem_append] at this ⊢
            simp only [this, or_true]
        | some tr =>
          obtain ⟨n6, s6, e6, cs6⟩ := tr
          have hres5 := V5
          obtain ⟨hfit, hdeep6⟩ := hP5.1.2.2 _ rfl
          rw [deep_pe] at hdeep6
          obtain ⟨na, nd, ncl, nx, nep, nts, nte, ntT, nvs, rfl, n1, n2, n3, n4⟩ := NodeIn.inv V5
          have n1Z := S5I _ n1
          k_steps
          unfold Held
          rename Fr _ _ _ (fun _ => _) => F6
          rename News _ _ _ _ => N6
          refine shape_all (.nd n6 s6 e6 cs6) _ _ _ _ _ _ _ _ _ _ _ _ _ _ _ _ _ _ _ _ _ _ _ (tl5 ++ ((er, errO ed fs) :: I)) _ B4 F6 X4 T4 rfl N6 ?_ hres5 hfit ?_ ?_ ?_
          · intro q hq
            have := S5I q hq
            simp only [List.mem_cons, List.mem_append] at this ⊢
            simp only [this, or_true]
          · show dp + 1 + _ + _ < _; omega
          · show un + 3 + _ + _ < _; omega
          · intro v7 h7 tk7 tl7 F7 N7 Fr7 D7
            have ap7 := ap5 _ (by tbn_find)
            clear N6 F6
            k_steps
            rename_i N3 l3x hx Fa Na hk3 nm3 kF kN Tc3 X3
            have hin : ∀ q ∈ lc5 ++ (tl5 ++ ((er, errO ed fs) :: (ta, tupObj [.str T t1]) :: Z)), ∀ (b c d : Addr × Obj), q ∈ tl7 ++ (b :: c :: d :: (lc5 ++ (tl5 ++ ((er, errO ed fs) :: (ta, tupObj [.str T t1]) :: Z)))) := by
              intro q hq b c d
              rw [List.mem_append, List.mem_cons, List.mem_cons, List.mem_cons]
              simp only [hq, or_true]
            refine told_end ret kF kN C5 hnd5 ?_ ?_ hap5 hOl hol ?_ ?_
            · exact fun q hq => .tail _ (.tail _ (hin q (List.mem_append_left _ hq) _ _ _))
            · exact fun q hq => .tail _ (.tail _ (hin q (in5 q (List.mem_append_right _ hq)) _ _ _))
            · intro q hq
              rcases hlast q hq with h | ⟨h1, h2⟩
              · exact .inl h
              · exact .inr ⟨.tail _ (.tail _ (hin q (List.mem_append_right _ h1) _ _ _)), h2⟩
            · intro tl htl
              refine DatIn.tuple (htl _ (.head _) fun p hp => Nat.ne_of_lt (Heap.lt_size (N3 p (.tail _ (hin p (in5 p hp) _ _ _))).1)) (.cons (DatIn.list (htl _ (.tail _ (.head _)) fun p hp => ?_) (.cons (DatIn.mono (fun q hq => htl q (.tail _ (.tail _ (List.mem_append_left _ hq))) fun p hp => ?_) D7) .nil)) (.cons (DatIn.list (htl _ (.tail _ (.tail _ (List.mem_append_right _ (.head _)))) ap7) (.cons (.str _ _) (.cons (.int _ _) .nil))) .nil))
              · skip
                exact Nat.ne_of_lt (l3x p (hin p (in5 p hp) _ _ _))
              · refine Fr7 q hq p ?_
                have := in5 p hp
                simp only [List.mem_cons, List.mem_append] at this ⊢
                simp only [this, or_true]
end Mine
namespace Mine
/-! the law's own pieces -/
theorem grown_ok' (ns : List Int) : ∀ (d used names : Nat), (grown ns d used names).1.ok
  | 0, used, names => by
    simp only [grown, PE.ok]
    have := wordAt_len (draw ns (used + 1) 6)
    simpa [strL] using this
  | d + 1, used, names => by
    have h1 := grown_ok' ns d (used + 1) (names + 1)
    have h2 := grown_ok' ns d (grown ns d (used + 1) (names + 1)).2.1 (grown ns d (used + 1) (names + 1)).2.2
    have h3 := (draw_eq ns (grown ns d (used + 1) (names + 1)).2.1 (lim := 3) (by decide)).2
    unfold grown
    simp only []
    split
    · have := wordAt_len (draw ns (used + 1) 6)
      simpa [strL, PE.ok] using this
    · split
      · exact h1
      · split
        · exact ⟨by omega, h1⟩
        · split
          · exact ⟨h1, h2⟩
          · exact ⟨h1, h2⟩
theorem grown_deep (ns : List Int) : ∀ (d used names : Nat), (grown ns d used names).1.deep ≤ d
  | 0, used, names => Nat.le_refl _
  | d + 1, used, names => by
    have h1 := grown_deep ns d (used + 1) (names + 1)
    have h2 := grown_deep ns d (grown ns d (used + 1) (names + 1)).2.1 (grown ns d (used + 1) (names + 1)).2.2
    unfold grown
    simp only []
    split
    · exact Nat.zero_le _
    · split
      · simp only [PE.deep]; omega
      · split
        · simp only [PE.deep]; omega
        · split <;> (simp only [PE.deep]; omega)
theorem una_nil : ∀ e : Ex, una e .nil + 1 ≤ 2 ^ (e.deep + 1)
  | .word .. => by simp [una, cnt, TT.tab, Ex.deep]
  | .look _ _ _ _ _ e => by
    have := una_nil e
    have e1 : 2 ^ (e.deep + 1 + 1) = 2 * 2 ^ (e.deep + 1) := by rw [Nat.pow_succ]; omega
    simp only [una, cnt, TT.tab, TT.l, Ex.deep, e1, Option.isSome]
    simp; omega
  | .many _ _ _ _ _ _ e => by
    have := una_nil e
    have e1 : 2 ^ (e.deep + 1 + 1) = 2 * 2 ^ (e.deep + 1) := by rw [Nat.pow_succ]; omega
    simp only [una, cnt, TT.tab, TT.l, Ex.deep, e1, Option.isSome]
    simp; omega
  | .choice _ _ _ _ a b => by
    have h1 := una_nil a
    have h2 := una_nil b
    have e1 : 2 ^ (max a.deep b.deep + 1 + 1) = 2 * 2 ^ (max a.deep b.deep + 1) := by rw [Nat.pow_succ]; omega
    have e2 : 2 ^ (a.deep + 1) ≤ 2 ^ (max a.deep b.deep + 1) := Nat.pow_le_pow_right (by decide) (by omega)
    have e3 : 2 ^ (b.deep + 1) ≤ 2 ^ (max a.deep b.deep + 1) := Nat.pow_le_pow_right (by decide) (by omega)
    simp only [una, cnt, TT.tab, TT.l, TT.r, Ex.deep, e1, Option.isSome]
    simp; omega
  | .chain _ _ _ _ a b => by
    have h1 := una_nil a
    have h2 := una_nil b
    have e1 : 2 ^ (max a.deep b.deep + 1 + 1) = 2 * 2 ^ (max a.deep b.deep + 1) := by rw [Nat.pow_succ]; omega
    have e2 : 2 ^ (a.deep + 1) ≤ 2 ^ (max a.deep b.deep + 1) := Nat.pow_le_pow_right (by decide) (by omega)
    have e3 : 2 ^ (b.deep + 1) ≤ 2 ^ (max a.deep b.deep + 1) := Nat.pow_le_pow_right (by decide) (by omega)
    simp only [una, cnt, TT.tab, TT.l, TT.r, Ex.deep, e1, Option.isSome]
    simp; omega
theorem News.out1 {h₀ h : Heap} {L : Addr} {a : Addr × Obj} {Z : Led} (N : News h₀ L h (a :: Z)) : News h₀ L h Z := fun q hq => N q (.tail _ hq)
theorem three_ne {h₀ h : Heap} {L l : Addr} {a b c : Addr × Obj} (_ : News h₀ L h [a, b, c]) (h1 : a.1 ≠ l) (h2 : b.1 ≠ l) (h3 : c.1 ≠ l) : ∀ p ∈ [a, b, c], p.1 ≠ l := by
  intro p hp
  simp only [List.mem_cons, List.not_mem_nil, or_false] at hp
  rcases hp with rfl | rfl | rfl
  · exact h1
  · exact h2
  · exact h3
theorem item_ab {d : Nat} (h : d < 2) : Txt.item (Str.ofString "ab") (d : Int) = ⟨#[letter d]⟩ := by
  match d, h with
  | 0, _ => rfl
  | 1, _ => rfl
theorem lettersSum (l : List Nat) : ((l.map fun x => (⟨#[x]⟩ : Str)).map (·.length)).sum = l.length := by
  induction l with
  | nil => rfl
  | cons x l ih =>
    rw [List.map_cons, List.map_cons, List.sum_cons, ih, List.length_cons]
    show 1 + l.length = _; omega
theorem join_L {w : World} {A : Around} {E : Value → Shared → Prop} {s : Shared} {h₀ : Heap} {L : Addr} {news : Led} {D : Addr} {ys : List Value} {l : List Nat} {t : Tok} {Q : Value → Shared → Prop} (N : News h₀ L s.heap news) (hm : (D, LCg.lst ys) ∈ news) (hY : StrsAre ys (l.map fun x => (⟨#[x]⟩ : Str))) (hl : l.length ≤ 100)
    (h : ∀ t' k, Q (.str ⟨l.toArray⟩ t') { s with toks := k }) : wpAny (model PR w) A (call (.builtin "str.join") [.str (Str.ofString "") t, .ref D]) Q E s :=
  join_listC (N.isList hm) hY (by decide) (by rw [lettersSum, List.length_map]; omega) fun t' k => by rw [join_letters]; exact h t' k
theorem cells_start {w : World} {I : Led} {T : Str} : ∀ e : Ex, Cells w I T [] [] e .nil (dicts e)
  | .word .. => ⟨_, [], rfl, .inl ⟨rfl, _, rfl⟩, fun _ h => (nomatch h), Nat.le_refl _, Nat.zero_le _⟩
  | .look _ dx _ _ _ e => ⟨[(dx, dictOf [] 0)], dicts e, rfl, ⟨_, [], rfl, .inl ⟨rfl, _, rfl⟩, fun _ h => (nomatch h), Nat.le_refl _, Nat.zero_le _⟩, cells_start e⟩
  | .many _ dx _ _ _ _ e => ⟨[(dx, dictOf [] 0)], dicts e, rfl, ⟨_, [], rfl, .inl ⟨rfl, _, rfl⟩, fun _ h => (nomatch h), Nat.le_refl _, Nat.zero_le _⟩, cells_start e⟩
  | .choice _ dx _ _ a b => ⟨[(dx, dictOf [] 0)], dicts a, dicts b, rfl, ⟨_, [], rfl, .inl ⟨rfl, _, rfl⟩, fun _ h => (nomatch h), Nat.le_refl _, Nat.zero_le _⟩, cells_start a, cells_start b⟩
  | .chain _ dx _ _ a b => ⟨[(dx, dictOf [] 0)], dicts a, dicts b, rfl, ⟨_, [], rfl, .inl ⟨rfl, _, rfl⟩, fun _ h => (nomatch h), Nat.le_refl _, Nat.zero_le _⟩, cells_start a, cells_start b⟩
theorem told_inv {tl : Led} {v : Value} {k : Nat} {o : Out} (h : DatIn tl v (toldD k o)) : ∃ (a a1 a2 : Addr) (n n1 n2 : Nat) (vs1 vs2 : List Value), v = .ref a ∧ (a, ({ cls := .type "tuple", data := .seq #[.ref a1, .ref a2] n } : Obj)) ∈ tl ∧
    (a1, listObj vs1 n1) ∈ tl ∧ DatAll tl vs1 (treeD k o.1) ∧ (a2, listObj vs2 n2) ∈ tl ∧ DatAll tl vs2 (keptD k o.2.2) := by
  unfold toldD at h
  cases h with
  | tuple hm hA =>
  cases hA with
  | cons h1 hA =>
  cases hA with
  | cons h2 hA =>
  cases hA
  cases h1 with
  | list k1 k2 =>
  cases h2 with
  | list k3 k4 =>
  exact ⟨_, _, _, _, _, _, _, _, rfl, hm, k1, k2, k3, k4⟩
theorem una15 {e : Ex} (h : e.pe.deep ≤ 3) : una e .nil ≤ 15 ∧ e.deep ≤ 3 := by
  rw [deep_pe] at h
  have h1 := una_nil e
  have h2 : 2 ^ (e.deep + 1) ≤ 2 ^ 4 := Nat.pow_le_pow_right (by decide) (by omega)
  have h3 : 2 ^ 4 = 16 := rfl
  omega
theorem told1 {w : World} {T : Str} {e : Ex} {dp un : Nat} {gd : Option (List Code)} {cn : Str} {cs : Scope} {a : Addr} {ccd : Value} {cl : List (Str × Addr)} {outer : List Env} {A₀ : Around} {base h₀ : Heap} {L : Addr} {m : Str → Option Value} {s : Shared}
    {loose : List Str} {mean : ExcName → Option Value} {mg mb : Str → Option Value} {Q E : Value → Shared → Prop} {p shift : Nat} {t1 t2 t3 : Tok} {l1 d8 st8 : Addr × Obj} {tl3 Z0 : Led} {stA : Addr}
    (B : Below A₀ base outer h₀) (F : Fr h₀ L s.heap m) (X : (hd.heap_39 w.params).In h₀) (Tp : Top topProg loose mean mg mb h₀) (hk : cs.kind = .function) (N : News h₀ L s.heap (l1 :: d8 :: st8 :: (dicts e ++ (tl3 ++ Z0))))
    (hG : Grew stA Z0 (dicts e) tl3) (hl : AllLt l1.1 (dicts e ++ (tl3 ++ Z0))) (hEx : ExIn tl3 e) (hok : e.pe.ok) (hdeep : e.pe.deep ≤ 3) (hp : p ≤ T.cps.size) (hT : T.cps.size ≤ 1000) (hd : dp + 100 < recursionLimit) (hun : un + 1000 < cLine)
    (ret : ToldRet Q h₀ L m s w e [] tl3 (l1 :: (tl3 ++ Z0)) (toldD shift (core T.cps.toList e.pe .nil p none))) :
    wpAny (model PR w) (ktrTop dp un gd cn cs L a ccd cl outer) (call (.ref 541) [.ref e.x, .str T t1, .int p t2, .int shift t3]) Q E s := by
  obtain ⟨hu15, hd3⟩ := una15 hdeep
  refine told_ok (p := p) (shift := shift) (Z := l1 :: (tl3 ++ Z0)) (lc := dicts e) (I := tl3) (ol := []) B F X Tp hk (fun q hq => N q ?_) (fun q hq => .tail _ (List.mem_append_left _ hq)) (core_all e) ⟨hG.nd, ?_⟩ (fun _ h => (nomatch h)) hp hT (by omega) (by omega) hEx (cells_start e) hok hd hun (by rw [List.length_nil]; omega) ret
  · rw [List.mem_append, List.mem_cons] at hq
    rw [List.mem_cons, List.mem_cons, List.mem_cons, List.mem_append]
    rcases hq with h | h | h
    · simp only [h, true_or, or_true]
    · simp only [h, true_or]
    · simp only [h, or_true]
  · intro q hq c hc
    rw [List.mem_cons, List.mem_append] at hq
    rcases hq with rfl | hq | hq
    · exact Nat.ne_of_gt (tb_ltOf hl c (List.mem_append_left _ hc))
    · exact hG.sep q hq c hc
    · exact (hG.off c (List.mem_append_left _ hc)).2 q hq
/-- behind a statement that changes nothing that counts -/
def Behind (h₀ : Heap) (L : Addr) (m : Str → Option Value) (Y : Led) (s₀ : Shared) (f : Flow) (s' : Shared) : Prop := f = .next ∧ ∃ h' tk', s' = { s₀ with heap := h', toks := tk' } ∧ Fr h₀ L h' m ∧ News h₀ L h' Y
theorem Behind.intro {h₀ h' : Heap} {L : Addr} {m : Str → Option Value} {Y Y' : Led} {s₀ : Shared} {tk' : Nat} (F : Fr h₀ L h' m) (N : News h₀ L h' Y') (S : ∀ q ∈ Y, q ∈ Y') : Behind h₀ L m Y s₀ .next { s₀ with heap := h', toks := tk' } :=
  ⟨rfl, h', tk', rfl, F, fun q hq => N q (S q hq)⟩
theorem behind {prog : Program} {w : World} {A : Around} {E : Value → Shared → Prop} {s : Shared} {h₀ : Heap} {L : Addr} {m : Str → Option Value} {Y : Led} {t : Sem Flow} {Q : Flow → Shared → Prop} (_ : Fr h₀ L s.heap m) (_ : News h₀ L s.heap Y)
    (h1 : wpAny (model prog w) A t (Behind h₀ L m Y s) E s) (h2 : ∀ h' tk', Fr h₀ L h' m → News h₀ L h' Y → Q .next { s with heap := h', toks := tk' }) : wpAny (model prog w) A t Q E s := by
  refine wpAny_mono h1 ?_ fun _ _ q => q
  rintro f s' ⟨rfl, h', tk', rfl, F', N'⟩
  exact h2 h' tk' F' N'
theorem shape_inv {tl : Led} {v : Value} {k : Nat} {t : Tree} (h : DatIn tl v (shapeD k t)) : ∃ (a a1 : Addr) (n : Nat) (x : Str) (t1 t2 t3 : Tok), v = .ref a ∧ (a, ({ cls := .type "tuple", data := .seq #[.str x t1, .int ((t.s : Int) - k) t2, .int ((t.e : Int) - k) t3, .ref a1] n } : Obj)) ∈ tl := by
  cases t with
  | nd n s e cs =>
  rw [shapeD] at h
  cases h with
  | tuple hm hA =>
  cases hA with
  | cons h1 hA =>
  cases hA with
  | cons h2 hA =>
  cases hA with
  | cons h3 hA =>
  cases hA with
  | cons h4 hA =>
  cases hA
  cases h1
  cases h2
  cases h3
  cases h4
  exact ⟨_, _, _, _, _, _, _, rfl, hm⟩
section
variable {prog : Program} {w : World} {A : Around} {h₀ : Heap} {L : Addr} {m : Str → Option Value} {env : Env} {elt : Expr} {x : Str} {scope : Scope} {cl : List (Str × Addr)} {s : Shared} {S : Led → Prop} {P : Nat → Value → Prop} {Fin : List Value → Led → Prop} {n i : Nat} {ys : List Value} {news : Led}
theorem comp_nil (hn : n = 0) (h : Fin ys news) : LCg.CompRest prog w A h₀ L m env elt x scope cl s S P Fin n i ys news := by subst hn; exact h
theorem comp_one (hn : n = 1) (h : ∀ v I oI C oC D m₂ h tk (E' : Value → Shared → Prop), P i v → LCg.NsObj oC m₂ → m₂ x = some v → Fr h₀ L h m → News h₀ L h ((I, oI) :: (C, oC) :: (D, LCg.lst ys) :: news) → LCg.Off3 I C D news → ((@Ne Nat I C) ∧ (@Ne Nat I D) ∧ (@Ne Nat C D)) →
      wpAny (model prog w) A (eval elt (compEnvC scope cl C env)) (LCg.CompEnd h₀ L m { s with heap := h, toks := tk } I oI C oC D (LCg.lst ys) S (fun y news' => Fin (ys ++ [y]) news')) E' { s with heap := h, toks := tk }) :
    LCg.CompRest prog w A h₀ L m env elt x scope cl s S P Fin n i ys news := by
  subst hn
  exact LCg.CompRest.succ h
end
theorem mem3 {h₀ h : Heap} {L : Addr} {l1 l2 r : Led} {q : Addr × Obj} (_ : News h₀ L h (l1 ++ (l2 ++ q :: r))) : q ∈ l1 ++ (l2 ++ q :: r) := List.mem_append_right _ (List.mem_append_right _ (.head _))
theorem item_0 {w : World} {A : Around} {E : Value → Shared → Prop} {s : Shared} {h₀ : Heap} {L : Addr} {news : Led} {value slice : Expr} {l : Addr} {v : Value} {ep : Nat} {u : Tok} {Q : Value → Shared → Prop} (N : News h₀ L s.heap news) (hm : (l, listObj [v] ep) ∈ news) (h : Q v s)
    (hs : subscripted slice false (.ref l) (.int 0 u) = operate [.ref l, .int 0 u] (getItem (.ref l) (.int 0 u)) := by with_unfolding_all rfl) :
    wpAny (model PR w) A (subscriptTail value slice (.ref l) (.int 0 u)) Q E s :=
  tail_any (N.isList hm).typeIs slot_list_getitem.lookup (wpAny_getItem_list (N.isList hm) (by decide) (by decide) (by simp) h) hs
/-- the state between two runs -/
structure Ready (w : World) (e : Ex) (I Z lc tl : Led) (ol : List Addr) : Prop where
  sep : Sep lc (tl ++ Z)
  cells : ∀ T : Str, Cells w (tl ++ I) T ol [] e .nil lc
  old : ∀ a ∈ ol, ∃ o, (a, o) ∈ tl ++ Z
theorem told_ready {w : World} {T : Str} {e : Ex} {dp un : Nat} {gd : Option (List Code)} {cn : Str} {cs : Scope} {a : Addr} {ccd : Value} {cl : List (Str × Addr)} {outer : List Env} {A₀ : Around} {base h₀ : Heap} {L : Addr} {m : Str → Option Value} {s : Shared}
    {loose : List Str} {mean : ExcName → Option Value} {mg mb : Str → Option Value} {Q E : Value → Shared → Prop} {p shift : Nat} {t1 t2 t3 : Tok} {lc tl I Z Y : Led} {ol : List Addr}
    (B : Below A₀ base outer h₀) (F : Fr h₀ L s.heap m) (X : (hd.heap_39 w.params).In h₀) (Tp : Top topProg loose mean mg mb h₀) (hk : cs.kind = .function) (N : News h₀ L s.heap Y) (hY : ∀ q ∈ lc ++ (tl ++ Z), q ∈ Y) (R : Ready w e I Z lc tl ol) (hol : ol.length ≤ 100)
    (hIZ : ∀ q ∈ I, q ∈ Z) (hEx : ExIn I e) (hok : e.pe.ok) (hdeep : e.pe.deep ≤ 3) (hp : p ≤ T.cps.size) (hT : T.cps.size ≤ 1000) (hd : dp + 100 < recursionLimit) (hun : un + 1000 < cLine)
    (ret : ∀ v h' tk' lc' tl' ol', Fr h₀ L h' m → News h₀ L h' (lc' ++ ((tl' ++ tl) ++ Z)) → Ready w e I Z lc' (tl' ++ tl) ol' → ol'.length ≤ ol.length + 15 → DatIn tl' v (toldD shift (core T.cps.toList e.pe .nil p none)) → Q v { s with heap := h', toks := tk' }) :
    wpAny (model PR w) (ktrTop dp un gd cn cs L a ccd cl outer) (call (.ref 541) [.ref e.x, .str T t1, .int p t2, .int shift t3]) Q E s := by
  obtain ⟨hu15, hd3⟩ := una15 hdeep
  refine told_ok (p := p) (shift := shift) (Z := tl ++ Z) (lc := lc) (I := tl ++ I) (ol := ol) B F X Tp hk (fun q hq => N q (hY q hq)) (fun q hq => ?_) (core_all e) R.sep R.old hp hT (by omega) (by omega) (ExIn.mono Sub.app hEx) (R.cells T) hok hd hun (by omega) ?_
  · rcases List.mem_append.mp hq with h | h
    · exact List.mem_append_left _ h
    · exact List.mem_append_right _ (hIZ q h)
  · intro v h' tk' lc' tl' ol' F' N' S' C' O' len' Fr' D'
    rw [← List.append_assoc tl' tl Z] at N' S'
    exact ret v h' tk' lc' tl' ol' F' N' ⟨S', fun T' => by have := C' T'; rwa [← List.append_assoc] at this, fun a ha => by have := O' a ha; rwa [← List.append_assoc] at this⟩ (by omega) D'
def Mid (h₀ : Heap) (L : Addr) (m : Str → Option Value) (w : World) (e : Ex) (I Z : Led) (s₀ : Shared) (f : Flow) (s' : Shared) : Prop :=
  f = .next ∧ ∃ h' tk' lc tl ol, s' = { s₀ with heap := h', toks := tk' } ∧ Fr h₀ L h' m ∧ News h₀ L h' (lc ++ (tl ++ Z)) ∧ Ready w e I Z lc tl ol ∧ ol.length ≤ 50
theorem Mid.intro {h₀ h' : Heap} {L : Addr} {m : Str → Option Value} {w : World} {e : Ex} {I Z Y : Led} {s₀ : Shared} {tk' : Nat} {lc tl : Led} {ol : List Addr} (F : Fr h₀ L h' m) (N : News h₀ L h' Y) (hY : ∀ q ∈ lc ++ (tl ++ Z), q ∈ Y) (R : Ready w e I Z lc tl ol) (hol : ol.length ≤ 50) :
    Mid h₀ L m w e I Z s₀ .next { s₀ with heap := h', toks := tk' } := ⟨rfl, h', tk', lc, tl, ol, rfl, F, fun q hq => N q (hY q hq), R, hol⟩
theorem mid {prog : Program} {w w' : World} {A : Around} {E : Value → Shared → Prop} {s : Shared} {h₀ : Heap} {L : Addr} {m : Str → Option Value} {e : Ex} {I Z lc tl : Led} {ol : List Addr} {t : Sem Flow} {Q : Flow → Shared → Prop} (_ : Fr h₀ L s.heap m) (_ : Ready w' e I Z lc tl ol)
    (h1 : wpAny (model prog w) A t (Mid h₀ L m w' e I Z s) E s) (h2 : ∀ h' tk' lc tl ol, Fr h₀ L h' m → News h₀ L h' (lc ++ (tl ++ Z)) → Ready w' e I Z lc tl ol → ol.length ≤ 50 → Q .next { s with heap := h', toks := tk' }) : wpAny (model prog w) A t Q E s := by
  refine wpAny_mono h1 ?_ fun _ _ q => q
  rintro f s' ⟨rfl, h', tk', lc, tl, ol, rfl, F', N', R', hl'⟩
  exact h2 h' tk' lc tl ol F' N' R' hl'
theorem slice_take {T : Str} {k : Nat} (h : k ≤ T.cps.size) : Txt.slice T none (some (k : Int)) = ⟨(T.cps.toList.take k).toArray⟩ := by
  have := eq_of_beq (slice_closes_toL (x := T) (j := (k : Int)) (by omega) (by show (k : Int) ≤ (T.cps.size : Int); omega))
  have e1 : ((0 : Int)).toNat = 0 := rfl
  have e2 : ((k : Int) - 0).toNat = k := by omega
  rw [this, e1, e2, List.drop_zero]
theorem slice_drop {T : Str} {k : Nat} (h : k ≤ T.cps.size) : Txt.slice T (some (k : Int)) none = ⟨(T.cps.toList.drop k).toArray⟩ := by
  have := eq_of_beq (slice_closes_fromL (x := T) (i := (k : Int)) (b := (T.cps.size : Int)) (by omega) (by show (k : Int) ≤ (T.cps.size : Int); omega) rfl)
  have e1 : ((k : Int)).toNat = k := rfl
  rw [this, e1, List.take_of_length_le]
  rw [List.length_drop, Array.length_toList]; omega
theorem agree_tail {T T2 : List Nat} {k : Nat} (h : k ≤ T.length) : ∀ i, i < k → (T.take k ++ T2)[i]? = T[i]? := by
  intro i hi
  rw [List.getElem?_append_left (by rw [List.length_take]; omega), List.getElem?_take, if_pos hi]
end Mine
namespace Mine
local macro_rules | `(tactic| walk_at "zz") => `(tactic| fail)
local macro_rules | `(tactic| walk_at "zz") => `(tactic| fail)
local macro_rules | `(tactic| walk_at "zz") => `(tactic| fail)
local macro_rules | `(tactic| walk_at "zz") => `(tactic| fail)
local macro_rules | `(tactic| walk_at "zz") => `(tactic| fail)
local macro_rules | `(tactic| walk_at "zz") => `(tactic| fail)
local macro_rules | `(tactic| walk_at "zz") => `(tactic| fail)
local macro_rules | `(tactic| walk_at "zz") => `(tactic| fail)
local macro_rules | `(tactic| walk_at "zz") => `(tactic| fail)
local macro_rules | `(tactic| walk_at "zz") => `(tactic| fail)
local macro_rules | `(tactic| walk_at "zz") => `(tactic| fail)
local macro_rules | `(tactic| walk_at "zz") => `(tactic| fail)
local macro_rules | `(tactic| walk_at "zz") => `(tactic| fail)
local macro_rules | `(tactic| walk_at "zz") => `(tactic| fail)
local macro_rules | `(tactic| walk_at "zz") => `(tactic| fail)
local macro_rules | `(tactic| walk_at "zz") => `(tactic| fail)
local macro_rules | `(tactic| walk_at "zz") => `(tactic| fail)
local macro_rules | `(tactic| walk_at "zz") => `(tactic| fail)
local macro_rules | `(tactic| walk_at "zz") => `(tactic| fail)
local macro_rules | `(tactic| walk_at "zz") => `(tactic| fail)
local macro_rules | `(tactic| walk_at "zz") => `(tactic| fail)
local macro_rules | `(tactic| walk_at "zz") => `(tactic| fail)
local macro_rules | `(tactic| walk_at "zz") => `(tactic| fail)
local macro_rules | `(tactic| walk_at "zz") => `(tactic| fail)
local macro_rules | `(tactic| walk_at "zz") => `(tactic| fail)
local macro_rules | `(tactic| walk_at "zz") => `(tactic| fail)
local macro_rules | `(tactic| walk_at "zz") => `(tactic| fail)
local macro_rules | `(tactic| walk_at "zz") => `(tactic| fail)
local macro_rules | `(tactic| walk_at "zz") => `(tactic| fail)
local macro_rules | `(tactic| walk_at "zz") => `(tactic| fail)
local macro_rules | `(tactic| walk_at "zz") => `(tactic| fail)
local macro_rules | `(tactic| walk_at "zz") => `(tactic| fail)
local macro_rules | `(tactic| walk_at "zz") => `(tactic| fail)
local macro_rules | `(tactic| walk_at "zz") => `(tactic| fail)
local macro_rules | `(tactic| walk_at "zz") => `(tactic| fail)
local macro_rules | `(tactic| walk_at "zz") => `(tactic| fail)
local macro_rules | `(tactic| walk_at "zz") => `(tactic| fail)
local macro_rules | `(tactic| walk_at "zz") => `(tactic| fail)
local macro_rules | `(tactic| walk_at "zz") => `(tactic| fail)
local macro_rules | `(tactic| walk_at "zz") => `(tactic| fail)
local macro_rules | `(tactic| walk_at "zz") => `(tactic| fail)
local macro_rules | `(tactic| walk_at "zz") => `(tactic| fail)
local macro_rules | `(tactic| walk_at "zz") => `(tactic| fail)
local macro_rules | `(tactic| walk_at "zz") => `(tactic| fail)
local macro_rules | `(tactic| walk_at "zz") => `(tactic| fail)
local macro_rules | `(tactic| walk_at "zz") => `(tactic| fail)
local macro_rules | `(tactic| walk_at "zz") => `(tactic| fail)
local macro_rules | `(tactic| walk_at "zz") => `(tactic| fail)
local macro_rules | `(tactic| walk_at "zz") => `(tactic| fail)
local macro_rules | `(tactic| walk_at "zz") => `(tactic| fail)
local macro_rules | `(tactic| walk_at "zz") => `(tactic| fail)
local macro_rules | `(tactic| walk_at "zz") => `(tactic| fail)
local macro_rules | `(tactic| walk_at "zz") => `(tactic| fail)
local macro_rules | `(tactic| walk_at "zz") => `(tactic| fail)
local macro_rules | `(tactic| walk_at "zz") => `(tactic| fail)
local macro_rules | `(tactic| walk_at "zz") => `(tactic| fail)
local macro_rules | `(tactic| walk_at "zz") => `(tactic| fail)
local macro_rules | `(tactic| walk_at "zz") => `(tactic| fail)
local macro_rules | `(tactic| walk_at "zz") => `(tactic| fail)
local macro_rules | `(tactic| walk_at "zz") => `(tactic| fail)
local macro_rules | `(tactic| walk_at "zz") => `(tactic| fail)
local macro_rules | `(tactic| walk_at "zz") => `(tactic| fail)
local macro_rules | `(tactic| walk_at "zz") => `(tactic| fail)
local macro_rules | `(tactic| walk_at "zz") => `(tactic| fail)
local macro_rules | `(tactic| walk_at "zz") => `(tactic| fail)
local macro_rules | `(tactic| walk_at "zz") => `(tactic| fail)
local macro_rules | `(tactic| walk_at "zz") => `(tactic| fail)
local macro_rules | `(tactic| walk_at "zz") => `(tactic| fail)
local macro_rules | `(tactic| walk_at "zz") => `(tactic| fail)
local macro_rules | `(tactic| walk_at "zz") => `(tactic| fail)
local macro_rules | `(tactic| walk_at "zz") => `(tactic| fail)
local macro_rules | `(tactic| walk_at "zz") => `(tactic| fail)
local macro_rules | `(tactic| walk_at "zz") => `(tactic| fail)
local macro_rules | `(tactic| walk_at "zz") => `(tactic| fail)
local macro_rules | `(tactic| walk_at "zz") => `(tactic| fail)
local macro_rules | `(tactic| walk_at "zz") => `(tactic| fail)
theorem rs_A_ly : True := by w_top off; trivial
local macro_rules | `(tactic| k_all) => `(tactic| assumption)
local macro_rules | `(tactic| k_ne) => `(tactic| first | assumption | exact Ne.symm (by assumption) | exact Nat.ne_of_lt (by assumption) | exact Nat.ne_of_gt (by assumption))
local macro_rules | `(tactic| k_room) => `(tactic| ktr_room)
local macro_rules | `(tactic| walk_at "call builtin:getattr") => `(tactic| (k_here; (with_reducible show wpAny _ _ (call (Value.builtin _) [_, Value.str _ _, _]) _ _ _); k_dflt (first
  | (refine' ga3_own ?k1 ?k2 ?k3 ?k4 ?k5 ?k6 ?k7 ?k8 ?k9 ?k10 ?k11 ?_; (case k1 => k_asm); (case k2 => k_asm); (case k3 => k_inst); (case k4 => k_is); (case k5 => k_is); (case k6 => k_is); (case k7 => k_is); (case k8 => k_get); (case k9 => k_handed); (case k10 => decide +kernel); (case k11 => k_is); k_whole)
  | (refine' ga3_miss ?k1 ?k2 ?k3 ?k4 ?k5 ?k6 ?k7 ?k8 ?k9 ?k10 ?k11 ?k12 ?k13 ?_; (case k1 => k_asm); (case k2 => k_asm); (case k3 => k_asm); (case k4 => k_inst); (case k5 => k_is); (case k6 => k_is); (case k7 => k_is); (case k8 => decide +kernel); (case k9 => k_get); (case k10 => decide +kernel); (case k11 => k_is); (case k12 => exact rfl); (case k13 => (first | (refine' MsgOk.of ?q1 ?q2 ?q3; (case q1 => k_is); (case q2 => decide +kernel); (case q3 => decide +kernel)) | (rename IsEx _ => h5; rcases h5 with e5 | e5 | e5 | e5 | e5 <;> subst e5 <;> (refine' MsgOk.of ?q1 ?q2 ?q3; (case q1 => k_is); (case q2 => decide +kernel); (case q3 => decide +kernel))))); k_whole; intro h' tk' F' N'; (try k_sweep)))))
local macro_rules | `(tactic| k_upd) => `(tactic| first | (refine' Off.head ?a; (case a => k_all)) | (refine' Off.tail ?a ?b; (case a => k_ne); (case b => k_upd)))
local macro_rules | `(tactic| walk_at "pyIter ref") => `(tactic| (k_here; (with_reducible show wpAny _ _ (pyIter (Value.ref _)) (fun it s₂ => codeAny _ _ (Code.forLoop _ it _ _ _) _ s₂) _ _); k_dflt (refine' tup_iter ?k1 ?k2 ?k3 ?_; (case k1 => k_asm); (case k2 => k_asm); (case k3 => exact News.isTup (by k_asm) (by k_mem)); k_whole); intro I' h' o' F' N' x' l1 l2; (try k_lt l1); (try k_lt2 l2); (try k_sweep)))
local macro_rules | `(tactic| walk_at "codeAny forLoop") => `(tactic| (k_here; (with_reducible show codeAny _ _ (Code.forLoop _ (Value.ref _) _ _ _) (okR _) _); k_dflt (first
  | (refine' tup_last ?k1 ?k2 ?k3 ?k4 ?k5 ?k6 ?k7 ?_; (case k1 => k_asm); (case k4 => assumption); (case k2 => k_asm); (case k3 => k_upd); (case k5 => exact News.isTup (by k_asm) (by k_mem)); (case k6 => exact rfl); (case k7 => exact rfl); k_whole; intro h' F' N'; (try k_sweep))
  | (refine' tup_turn ?k1 ?k2 ?k3 ?k4 ?k5 ?k6 ?k7 ?_; (case k1 => k_asm); (case k4 => assumption); (case k2 => k_asm); (case k3 => k_updF); (case k5 => exact News.isTup (by k_asm) (by k_mem)); (case k6 => first | exact get2_0 | exact get2_1 | exact rfl); (case k7 => k_ne); k_whole; intro h' o' F' N' x' T'; (try k_sweep)))))
local macro_rules | `(tactic| walk_at "call builtin:len") => `(tactic| (k_here; (with_reducible show wpAny _ _ (call (Value.builtin _) [Value.ref _]) _ _ _); k_dflt (refine' d_len (knd := intKind _ _) ?k1 ?k2 ?k3 ?k4 ?k5 ?k6 ?_; (case k1 => k_asm); (case k2 => k_mem); (case k3 => assumption); (case k4 => assumption); (case k5 => first | exact rowsK_length _ | rfl); (case k6 => (first | omega | (simp only [List.length_append, List.length_cons, List.length_nil]; omega))); k_whole; intro tk')))
local macro_rules | `(tactic| walk_at "getMethod ref") => `(tactic| (k_here; (with_reducible show wpAny _ _ (getMethod (Value.ref _) (Str.ofString "get") _) _ _ _); k_dflt (refine' d_meth (knd := intKind _ _) ?k1 ?k2 ?k3 PySem.F.slot_dict_get PySem.F.type_dict_get ?_; (case k1 => k_asm); (case k2 => k_mem); (case k3 => assumption); k_whole)))
local macro_rules | `(tactic| walk_at "call builtin:dict.get") => `(tactic| (k_here; (with_reducible show wpAny _ _ (call (Value.builtin _) [Value.ref _, Value.int _ _]) _ _ _); k_dflt (refine' d_get (knd := intKind _ _) ?k1 ?k2 ?k3 ?k4 (intKind_is _ _ _ _) ?_; (case k1 => k_asm); (case k2 => k_mem); (case k3 => assumption); (case k4 => assumption); k_whole)))
local macro_rules | `(tactic| walk_at "compareOp In int ref") => `(tactic| (k_here; k_dflt (refine' d_in (knd := intKind _ _) ?k1 ?k2 ?k3 ?k4 (intKind_is _ _ _ _) ?_; (case k1 => k_asm); (case k2 => k_mem); (case k3 => assumption); (case k4 => assumption); k_whole)))
local macro_rules | `(tactic| walk_at "subscriptTail") => `(tactic| (k_here; (with_reducible show wpAny _ _ (subscriptTail _ _ (Value.ref _) (Value.int _ _)) _ _ _); k_dflt (refine' d_item (knd := intKind _ _) ?k1 ?k2 ?k3 (intKind_is _ _ _ _) ?k5 ?_; (case k1 => k_asm); (case k2 => k_mem); (case k3 => assumption); (case k5 => assumption); k_whole)))
local macro_rules | `(tactic| walk_at "setItem ref int") => `(tactic| (k_here; k_dflt (refine' d_set (knd := intKind _ _) ?k1 ?k2 ?k3 ?k4 (intKind_is _ _ _ _) ?k6 ?_; (case k1 => k_asm); (case k2 => k_asm); (case k3 => k_updF); (case k4 => assumption); (case k6 => (rw [sizeLine_eq]; (first | omega | (simp only [rowsK_length, rowK_length, List.length_map, List.length_append, List.length_cons, List.length_nil]; omega)))); k_whole); intro h' o' F' N' hd'; (try dsimp only at N'); (try simp only [rowsK_length, stored_rows] at hd'); (try k_sweep)))
local macro_rules | `(tactic| k_all) => `(tactic| first | assumption | (refine List.forall_mem_append.mpr ⟨?_, ?_⟩ <;> k_all) | (exact tbn_neAll (by first | assumption | tbn_find)) | (exact tbn_neAll (tbn_up (by assumption) (by tbn_find))))
local macro_rules | `(tactic| k_mem) => `(tactic| ((with_reducible show List.Mem _ _); first | (show (_ : Addr × Obj) ∈ (_ : List (Addr × Obj)); ktr_member) | ((with_reducible show List.Mem _ (_ ++ _)); first | (refine' List.mem_append_left _ ?q; (case q => k_mem)) | (refine' List.mem_append_right _ ?q; (case q => k_mem)))))
local macro_rules | `(tactic| k_put) => `(tactic| first | exact putL_nil _ _ _ _ _ | exact putL_one _ _ _ _ _ _ _ _)
local macro_rules | `(tactic| walk_at "eval Name") => `(tactic| (k_here; k_dflt (refine' nameX_L ?F ?v ?_ ?a ?b; (case F => k_asm); (case a => rfl); (case b => rfl); (case v => assumption); k_whole)))
local macro_rules | `(tactic| k_put) => `(tactic| first | exact putL_nil _ _ _ _ _ | exact putL_one _ _ _ _ _ _ _ _ | exact putL_err_pos | exact putL_err_expr)
local macro_rules | `(tactic| walk_at "getAttr ref") => `(tactic| (k_here; k_dflt (refine' exc_getD ?k1 ?k2 ?k3 ?k4 ?k5 ?k6 ?k7 ?k8 ?k9 ?k10 ?k11 ?_; (case k1 => k_asm); (case k2 => k_asm); (case k3 => (refine' InstAt.of_newsF ?N ?h1 ?h2; (case N => k_asm); (case h1 => k_mem); (case h2 => k_mem))); (case k4 => k_is); (case k5 => k_is); (case k6 => k_is); (case k7 => k_is); (case k8 => k_is); (case k9 => k_is); (case k10 => k_get); (case k11 => k_handed); k_whole)))
local macro_rules | `(tactic| walk_at "setAttr ref") => `(tactic| (k_here; k_dflt (refine' exc_set ?k1 ?k2 ?k3 ?k4 ?k5 ?k6 ?k7 ?k8 ?k9 ?k10 ?k11 ?k12 ?k13 ?_; (case k1 => k_asm); (case k2 => k_asm); (case k3 => k_asm); (case k4 => (refine' InstAt.of_newsF ?N ?h1 ?h2; (case N => k_asm); (case h1 => k_mem); (case h2 => k_mem))); (case k5 => exact rfl); (case k6 => k_is); (case k7 => kernel_rfl); (case k8 => k_is); (case k9 => k_is); (case k10 => k_get); (case k11 => k_put); (case k12 => k_upd); (case k13 => exact Nat.le_of_ble_eq_true rfl); k_whole; intro h' F' N'; (try k_sweep))))
local macro_rules | `(tactic| k_slotget) => `(tactic| first | assumption | rfl)
local macro_rules | `(tactic| walk_at "getAttr ref") => `(tactic| (k_here; k_dflt (refine' get_slotW ?k1 ?k2 ?k3 ?k4 ?k5 ?k6 ?k7 ?k8 ?k9 ?k10 ?k11 ?_; (case k1 => k_asm); (case k2 => k_asm); (case k3 => k_asm); (case k4 => k_mem); (case k5 => k_is); (case k6 => k_is); (case k7 => k_is); (case k8 => k_is); (case k9 => k_is); (case k10 => k_slotget); (case k11 => k_handed); k_whole)))
local macro_rules | `(tactic| walk_at "call builtin:len") => `(tactic| (k_here; (with_reducible show wpAny _ _ (call (Value.builtin _) [Value.str _ _]) _ _ _); k_dflt (refine' SC.len_str ?k1 ?_; (case k1 => assumption); k_whole)))
local macro_rules | `(tactic| walk_at "getMethod ref") => `(tactic| (k_here; (with_reducible show wpAny _ _ (getMethod (Value.ref _) (Str.ofString "match_core") _) _ _ _); k_dflt (refine' meth_core ?k1 ?k2 ?k3 ?k4 ?k5 ?_; (case k1 => k_asm); (case k2 => k_asm); (case k4 => k_inst); (case k3 => assumption); (case k5 => assumption); k_whole)))
local macro_rules | `(tactic| walk_at "call ref") => `(tactic| (k_here; (with_reducible show wpAny _ _ (call (Value.ref 266) _) _ _ _); refine Held.out ?_))
local macro_rules | `(tactic| walk_at "exec For Name Attribute cons nil") => `(tactic| (k_here; refine for_F ?_))
local macro_rules | `(tactic| walk_at "truthy ref") => `(tactic| (k_here; k_dflt (refine' truthyL ?k1 ?k2 ?k3 ?k4 ?_; (case k1 => k_asm); (case k2 => k_mem); (case k3 => first | assumption | (simp only [List.size_toArray, List.length_cons, List.length_nil]; decide) | (simp only [Array.size_push, List.size_toArray, List.length_cons, List.length_nil]; omega)); (case k4 => first | assumption | exact ne1 | exact ne0 | exact neP); k_whole); intro tk'))
theorem strOk_of (s : String) : PyData.strOk (Str.ofString s) = true := by
  rw [Str.ofString_eq_toList]
  unfold PyData.strOk
  rw [List.all_toArray, List.all_eq_true]
  intro c hc
  obtain ⟨ch, _, rfl⟩ := List.mem_map.mp hc
  rw [decide_eq_true_eq]
  rcases ch.valid with h | h
  · exact Nat.lt_trans h (by decide)
  · exact h.2
theorem strOk_app {a b : Str} (h1 : PyData.strOk a = true) (h2 : PyData.strOk b = true) : PyData.strOk (a ++ b) = true := by
  unfold PyData.strOk at *
  show (a.cps ++ b.cps).all _ = true
  rw [Array.all_append, h1, h2]; rfl
theorem nmS_ok (n : Nat) : PyData.strOk (nmS n) = true := strOk_app (strOk_of _) (strOk_of _)
mutual
theorem shape_ok (k : Nat) : ∀ (t : Tree) (n : Nat), 2 * t.deep ≤ n → kqdOk n (shapeD k t) = true
  | .nd m s e cs, n, h => by
    rw [Tree.deep] at h
    obtain ⟨n, rfl⟩ : ∃ j, n = j + 2 := ⟨n - 2, by omega⟩
    have := shapes_ok k cs n (by omega)
    have hs := nmS_ok m
    simp only [shapeD, kqdOk, List.all_cons, List.all_nil, Bool.and_true, Bool.and_eq_true, this, and_true]
    cases n <;> simp [kqdOk, hs]
theorem shapes_ok (k : Nat) : ∀ (ts : List Tree) (n : Nat), 2 * deeps ts ≤ n → (shapeDs k ts).all (kqdOk n) = true
  | [], _, _ => rfl
  | t :: ts, n, h => by
    rw [deeps] at h
    rw [shapeDs, List.all_cons, shape_ok k t n (by omega), shapes_ok k ts n (by omega)]; rfl
end
theorem told_okD {k d : Nat} {o : Out} (h : ∀ t, o.1 = some t → t.deep ≤ d) (hd : d ≤ 20) : kqdOk 50 (toldD k o) = true := by
  obtain ⟨r, tt, err⟩ := o
  have h1 : (treeD k r).all (kqdOk 48) = true := by
    cases r with
    | none => rfl
    | some t => rw [treeD, List.all_cons, shape_ok k t 48 (by have := h t rfl; omega)]; rfl
  have h2 : (keptD k err).all (kqdOk 48) = true := by
    cases err with
    | none => rfl
    | some x => obtain ⟨n, q⟩ := x; simp [keptD, kqdOk, nmS_ok]
  simp only [toldD, kqdOk, List.all_cons, List.all_nil, Bool.and_true, h1, h2, Bool.and_self]
section
variable {prog : Program} {w : World} {A : Around} {E : Value → Shared → Prop} {s : Shared} {h₀ : Heap} {L : Addr} {news n₁ n₂ : Led} {v v' : Value} {d : Dat} {Q : Value → Shared → Prop}
theorem shaped_dat {d : Dat} (hk : kqdOk 50 d = true) : SeqAt.shaped (kqdP d) = true := by
  have l := kqd_lay 50 d hk
  unfold SeqAt.shaped
  rw [l.1, Bool.true_and]
  exact decide_eq_true (Nat.le_trans l.2 (by decide))
theorem eq_dat (N : News h₀ L s.heap news) (h1 : DatIn n₁ v d) (s1 : ∀ p ∈ n₁, p ∈ news) (h2 : DatIn n₂ v' d) (s2 : ∀ p ∈ n₂, p ∈ news) (hk : kqdOk 50 d = true) (hu : A.units + 64 < cLine) (h : Q (.bool true) s) : wpAny (model prog w) A (compareOp .Eq v v') Q E s := by
  obtain ⟨as, ra⟩ := kqd_in N 50 (h1.mono s1) hk
  obtain ⟨bs, rb⟩ := kqd_in N 50 (h2.mono s2) hk
  have e : PyData.eqv (kqdP d) (kqdP d) = true := (kqd_eqv 50 d d 50 hk hk).mpr rfl
  exact eq_dataH ra rb (shaped_dat hk) (shaped_dat hk) hu (by rw [e]; exact h)
theorem ne_dat (N : News h₀ L s.heap news) (h1 : DatIn n₁ v d) (s1 : ∀ p ∈ n₁, p ∈ news) (h2 : DatIn n₂ v' d) (s2 : ∀ p ∈ n₂, p ∈ news) (hk : kqdOk 50 d = true) (hu : A.units + 64 < cLine) (h : Q (.bool false) s) : wpAny (model prog w) A (compareOp .NotEq v v') Q E s := by
  obtain ⟨as, ra⟩ := kqd_in N 50 (h1.mono s1) hk
  obtain ⟨bs, rb⟩ := kqd_in N 50 (h2.mono s2) hk
  have e : PyData.eqv (kqdP d) (kqdP d) = true := (kqd_eqv 50 d d 50 hk hk).mpr rfl
  exact ne_dataH ra rb (shaped_dat hk) (shaped_dat hk) hu (by rw [e]; exact h)
end
theorem ne_told {prog : Program} {w : World} {A : Around} {E : Value → Shared → Prop} {s : Shared} {h₀ : Heap} {L x a b : Addr} {news n₁ n₂ : Led} {v : Value} {da db : Dat} {k : Nat} {Q : Value → Shared → Prop}
    (h1 : DatIn n₁ v (.tuple [da, db])) (h2 : DatIn n₂ (.ref a) da) (h3 : DatIn n₂ (.ref b) db) (hk : kqdOk 50 (.tuple [da, db]) = true) (N : News h₀ L s.heap news) (hm : (x, ({ cls := .type "tuple", data := .seq #[.ref a, .ref b] k } : Obj)) ∈ news) (s1 : ∀ p ∈ n₁, p ∈ news) (s2 : ∀ p ∈ n₂, p ∈ news) (hu : A.units + 64 < cLine) (h : Q (.bool false) s) :
    wpAny (model prog w) A (compareOp .NotEq v (.ref x)) Q E s :=
  ne_dat N h1 s1 (n₂ := news) (.tuple hm (.cons (h2.mono s2) (.cons (h3.mono s2) .nil))) (fun _ h => h) hk hu h
/-- the three runs of the law tell the same -/
theorem told_tail {T T' : List Nat} {e : PE} {p K : Nat} (hok : e.ok) (hT : T.length ≤ 1000) (hA : ∀ i, i < K → T'[i]? = T[i]?) (hp : p ≤ T.length) (hK : (readP T e p p).2 ≤ K) : toldD 0 (core T' e .nil p none) = toldD 0 (core T e .nil p none) := by
  have h := core_sim (T := T') (T' := T) (a := 0) (K := K) hT (by simpa using hA) (Nat.zero_le _) e hok .nil p p none hp (allT_nil _) hK
  have := told_sh 0 0 (core T e .nil p none)
  rw [← h] at this
  exact this
theorem told_shift {T : List Nat} {e : PE} {a : Nat} (hok : e.ok) (hT : T.length ≤ 1000) (ha : a ≤ T.length) : toldD a (core T e .nil a none) = toldD 0 (core (T.drop a) e .nil 0 none) := by
  have h := core_sim (T := T) (T' := T.drop a) (a := a) (K := (readP (T.drop a) e 0 0).2) (by rw [List.length_drop]; omega) (fun i _ => by rw [List.getElem?_drop]) ha e hok .nil 0 0 none (Nat.zero_le _) (allT_nil _) (Nat.le_refl _)
  have := told_sh a 0 (core (T.drop a) e .nil 0 none)
  rw [← h] at this
  simp only [Nat.zero_add] at this
  exact this
end Mine
namespace Mine
local macro_rules | `(tactic| walk_at "zz") => `(tactic| fail)
local macro_rules | `(tactic| walk_at "zz") => `(tactic| fail)
local macro_rules | `(tactic| walk_at "zz") => `(tactic| fail)
local macro_rules | `(tactic| walk_at "zz") => `(tactic| fail)
local macro_rules | `(tactic| walk_at "zz") => `(tactic| fail)
local macro_rules | `(tactic| walk_at "zz") => `(tactic| fail)
local macro_rules | `(tactic| walk_at "zz") => `(tactic| fail)
local macro_rules | `(tactic| walk_at "zz") => `(tactic| fail)
local macro_rules | `(tactic| walk_at "zz") => `(tactic| fail)
local macro_rules | `(tactic| walk_at "zz") => `(tactic| fail)
local macro_rules | `(tactic| walk_at "zz") => `(tactic| fail)
local macro_rules | `(tactic| walk_at "zz") => `(tactic| fail)
local macro_rules | `(tactic| walk_at "zz") => `(tactic| fail)
local macro_rules | `(tactic| walk_at "zz") => `(tactic| fail)
local macro_rules | `(tactic| walk_at "zz") => `(tactic| fail)
local macro_rules | `(tactic| walk_at "zz") => `(tactic| fail)
local macro_rules | `(tactic| walk_at "zz") => `(tactic| fail)
local macro_rules | `(tactic| walk_at "zz") => `(tactic| fail)
local macro_rules | `(tactic| walk_at "zz") => `(tactic| fail)
local macro_rules | `(tactic| walk_at "zz") => `(tactic| fail)
local macro_rules | `(tactic| walk_at "zz") => `(tactic| fail)
local macro_rules | `(tactic| walk_at "zz") => `(tactic| fail)
local macro_rules | `(tactic| walk_at "zz") => `(tactic| fail)
local macro_rules | `(tactic| walk_at "zz") => `(tactic| fail)
local macro_rules | `(tactic| walk_at "zz") => `(tactic| fail)
local macro_rules | `(tactic| walk_at "zz") => `(tactic| fail)
local macro_rules | `(tactic| walk_at "zz") => `(tactic| fail)
local macro_rules | `(tactic| walk_at "zz") => `(tactic| fail)
local macro_rules | `(tactic| walk_at "zz") => `(tactic| fail)
local macro_rules | `(tactic| walk_at "zz") => `(tactic| fail)
local macro_rules | `(tactic| walk_at "zz") => `(tactic| fail)
local macro_rules | `(tactic| walk_at "zz") => `(tactic| fail)
local macro_rules | `(tactic| walk_at "zz") => `(tactic| fail)
local macro_rules | `(tactic| walk_at "zz") => `(tactic| fail)
local macro_rules | `(tactic| walk_at "zz") => `(tactic| fail)
local macro_rules | `(tactic| walk_at "zz") => `(tactic| fail)
local macro_rules | `(tactic| walk_at "zz") => `(tactic| fail)
local macro_rules | `(tactic| walk_at "zz") => `(tactic| fail)
local macro_rules | `(tactic| walk_at "zz") => `(tactic| fail)
local macro_rules | `(tactic| walk_at "zz") => `(tactic| fail)
local macro_rules | `(tactic| walk_at "zz") => `(tactic| fail)
local macro_rules | `(tactic| walk_at "zz") => `(tactic| fail)
local macro_rules | `(tactic| walk_at "zz") => `(tactic| fail)
local macro_rules | `(tactic| walk_at "zz") => `(tactic| fail)
local macro_rules | `(tactic| walk_at "zz") => `(tactic| fail)
local macro_rules | `(tactic| walk_at "zz") => `(tactic| fail)
local macro_rules | `(tactic| walk_at "zz") => `(tactic| fail)
local macro_rules | `(tactic| walk_at "zz") => `(tactic| fail)
local macro_rules | `(tactic| walk_at "zz") => `(tactic| fail)
local macro_rules | `(tactic| walk_at "zz") => `(tactic| fail)
local macro_rules | `(tactic| walk_at "zz") => `(tactic| fail)
local macro_rules | `(tactic| walk_at "zz") => `(tactic| fail)
local macro_rules | `(tactic| walk_at "zz") => `(tactic| fail)
local macro_rules | `(tactic| walk_at "zz") => `(tactic| fail)
local macro_rules | `(tactic| walk_at "zz") => `(tactic| fail)
local macro_rules | `(tactic| walk_at "zz") => `(tactic| fail)
local macro_rules | `(tactic| walk_at "zz") => `(tactic| fail)
local macro_rules | `(tactic| walk_at "zz") => `(tactic| fail)
local macro_rules | `(tactic| walk_at "zz") => `(tactic| fail)
local macro_rules | `(tactic| walk_at "zz") => `(tactic| fail)
local macro_rules | `(tactic| walk_at "zz") => `(tactic| fail)
local macro_rules | `(tactic| walk_at "zz") => `(tactic| fail)
local macro_rules | `(tactic| walk_at "zz") => `(tactic| fail)
local macro_rules | `(tactic| walk_at "zz") => `(tactic| fail)
local macro_rules | `(tactic| walk_at "zz") => `(tactic| fail)
local macro_rules | `(tactic| walk_at "zz") => `(tactic| fail)
local macro_rules | `(tactic| walk_at "zz") => `(tactic| fail)
local macro_rules | `(tactic| walk_at "zz") => `(tactic| fail)
local macro_rules | `(tactic| walk_at "zz") => `(tactic| fail)
local macro_rules | `(tactic| walk_at "zz") => `(tactic| fail)
local macro_rules | `(tactic| walk_at "zz") => `(tactic| fail)
local macro_rules | `(tactic| walk_at "zz") => `(tactic| fail)
local macro_rules | `(tactic| walk_at "zz") => `(tactic| fail)
local macro_rules | `(tactic| walk_at "zz") => `(tactic| fail)
local macro_rules | `(tactic| walk_at "zz") => `(tactic| fail)
local macro_rules | `(tactic| walk_at "zz") => `(tactic| fail)
local macro_rules | `(tactic| walk_at "zz") => `(tactic| fail)
theorem rs_A_lw : True := by w_top off; trivial
local macro_rules | `(tactic| k_all) => `(tactic| assumption)
local macro_rules | `(tactic| k_ne) => `(tactic| first | assumption | exact Ne.symm (by assumption) | exact Nat.ne_of_lt (by assumption) | exact Nat.ne_of_gt (by assumption))
local macro_rules | `(tactic| k_room) => `(tactic| ktr_room)
local macro_rules | `(tactic| walk_at "call builtin:getattr") => `(tactic| (k_here; (with_reducible show wpAny _ _ (call (Value.builtin _) [_, Value.str _ _, _]) _ _ _); k_dflt (first
  | (refine' ga3_own ?k1 ?k2 ?k3 ?k4 ?k5 ?k6 ?k7 ?k8 ?k9 ?k10 ?k11 ?_; (case k1 => k_asm); (case k2 => k_asm); (case k3 => k_inst); (case k4 => k_is); (case k5 => k_is); (case k6 => k_is); (case k7 => k_is); (case k8 => k_get); (case k9 => k_handed); (case k10 => decide +kernel); (case k11 => k_is); k_whole)
  | (refine' ga3_miss ?k1 ?k2 ?k3 ?k4 ?k5 ?k6 ?k7 ?k8 ?k9 ?k10 ?k11 ?k12 ?k13 ?_; (case k1 => k_asm); (case k2 => k_asm); (case k3 => k_asm); (case k4 => k_inst); (case k5 => k_is); (case k6 => k_is); (case k7 => k_is); (case k8 => decide +kernel); (case k9 => k_get); (case k10 => decide +kernel); (case k11 => k_is); (case k12 => exact rfl); (case k13 => (first | (refine' MsgOk.of ?q1 ?q2 ?q3; (case q1 => k_is); (case q2 => decide +kernel); (case q3 => decide +kernel)) | (rename IsEx _ => h5; rcases h5 with e5 | e5 | e5 | e5 | e5 <;> subst e5 <;> (refine' MsgOk.of ?q1 ?q2 ?q3; (case q1 => k_is); (case q2 => decide +kernel); (case q3 => decide +kernel))))); k_whole; intro h' tk' F' N'; (try k_sweep)))))
local macro_rules | `(tactic| k_upd) => `(tactic| first | (refine' Off.head ?a; (case a => k_all)) | (refine' Off.tail ?a ?b; (case a => k_ne); (case b => k_upd)))
local macro_rules | `(tactic| walk_at "pyIter ref") => `(tactic| (k_here; (with_reducible show wpAny _ _ (pyIter (Value.ref _)) (fun it s₂ => codeAny _ _ (Code.forLoop _ it _ _ _) _ s₂) _ _); k_dflt (refine' tup_iter ?k1 ?k2 ?k3 ?_; (case k1 => k_asm); (case k2 => k_asm); (case k3 => exact News.isTup (by k_asm) (by k_mem)); k_whole); intro I' h' o' F' N' x' l1 l2; (try k_lt l1); (try k_lt2 l2); (try k_sweep)))
local macro_rules | `(tactic| walk_at "codeAny forLoop") => `(tactic| (k_here; (with_reducible show codeAny _ _ (Code.forLoop _ (Value.ref _) _ _ _) (okR _) _); k_dflt (first
  | (refine' tup_last ?k1 ?k2 ?k3 ?k4 ?k5 ?k6 ?k7 ?_; (case k1 => k_asm); (case k4 => assumption); (case k2 => k_asm); (case k3 => k_upd); (case k5 => exact News.isTup (by k_asm) (by k_mem)); (case k6 => exact rfl); (case k7 => exact rfl); k_whole; intro h' F' N'; (try k_sweep))
  | (refine' tup_turn ?k1 ?k2 ?k3 ?k4 ?k5 ?k6 ?k7 ?_; (case k1 => k_asm); (case k4 => assumption); (case k2 => k_asm); (case k3 => k_updF); (case k5 => exact News.isTup (by k_asm) (by k_mem)); (case k6 => first | exact get2_0 | exact get2_1 | exact rfl); (case k7 => k_ne); k_whole; intro h' o' F' N' x' T'; (try k_sweep)))))
local macro_rules | `(tactic| walk_at "call builtin:len") => `(tactic| (k_here; (with_reducible show wpAny _ _ (call (Value.builtin _) [Value.ref _]) _ _ _); k_dflt (refine' d_len (knd := intKind _ _) ?k1 ?k2 ?k3 ?k4 ?k5 ?k6 ?_; (case k1 => k_asm); (case k2 => k_mem); (case k3 => assumption); (case k4 => assumption); (case k5 => first | exact rowsK_length _ | rfl); (case k6 => (first | omega | (simp only [List.length_append, List.length_cons, List.length_nil]; omega))); k_whole; intro tk')))
local macro_rules | `(tactic| walk_at "getMethod ref") => `(tactic| (k_here; (with_reducible show wpAny _ _ (getMethod (Value.ref _) (Str.ofString "get") _) _ _ _); k_dflt (refine' d_meth (knd := intKind _ _) ?k1 ?k2 ?k3 PySem.F.slot_dict_get PySem.F.type_dict_get ?_; (case k1 => k_asm); (case k2 => k_mem); (case k3 => assumption); k_whole)))
local macro_rules | `(tactic| walk_at "call builtin:dict.get") => `(tactic| (k_here; (with_reducible show wpAny _ _ (call (Value.builtin _) [Value.ref _, Value.int _ _]) _ _ _); k_dflt (refine' d_get (knd := intKind _ _) ?k1 ?k2 ?k3 ?k4 (intKind_is _ _ _ _) ?_; (case k1 => k_asm); (case k2 => k_mem); (case k3 => assumption); (case k4 => assumption); k_whole)))
local macro_rules | `(tactic| walk_at "compareOp In int ref") => `(tactic| (k_here; k_dflt (refine' d_in (knd := intKind _ _) ?k1 ?k2 ?k3 ?k4 (intKind_is _ _ _ _) ?_; (case k1 => k_asm); (case k2 => k_mem); (case k3 => assumption); (case k4 => assumption); k_whole)))
local macro_rules | `(tactic| walk_at "subscriptTail") => `(tactic| (k_here; (with_reducible show wpAny _ _ (subscriptTail _ _ (Value.ref _) (Value.int _ _)) _ _ _); k_dflt (refine' d_item (knd := intKind _ _) ?k1 ?k2 ?k3 (intKind_is _ _ _ _) ?k5 ?_; (case k1 => k_asm); (case k2 => k_mem); (case k3 => assumption); (case k5 => assumption); k_whole)))
local macro_rules | `(tactic| walk_at "setItem ref int") => `(tactic| (k_here; k_dflt (refine' d_set (knd := intKind _ _) ?k1 ?k2 ?k3 ?k4 (intKind_is _ _ _ _) ?k6 ?_; (case k1 => k_asm); (case k2 => k_asm); (case k3 => k_updF); (case k4 => assumption); (case k6 => (rw [sizeLine_eq]; (first | omega | (simp only [rowsK_length, rowK_length, List.length_map, List.length_append, List.length_cons, List.length_nil]; omega)))); k_whole); intro h' o' F' N' hd'; (try dsimp only at N'); (try simp only [rowsK_length, stored_rows] at hd'); (try k_sweep)))
local macro_rules | `(tactic| k_all) => `(tactic| first | assumption | (refine List.forall_mem_append.mpr ⟨?_, ?_⟩ <;> k_all) | (exact tbn_neAll (by first | assumption | tbn_find)) | (exact tbn_neAll (tbn_up (by assumption) (by tbn_find))))
local macro_rules | `(tactic| k_mem) => `(tactic| ((with_reducible show List.Mem _ _); first | (show (_ : Addr × Obj) ∈ (_ : List (Addr × Obj)); ktr_member) | ((with_reducible show List.Mem _ (_ ++ _)); first | (refine' List.mem_append_left _ ?q; (case q => k_mem)) | (refine' List.mem_append_right _ ?q; (case q => k_mem)))))
local macro_rules | `(tactic| k_put) => `(tactic| first | exact putL_nil _ _ _ _ _ | exact putL_one _ _ _ _ _ _ _ _)
local macro_rules | `(tactic| walk_at "eval Name") => `(tactic| (k_here; k_dflt (refine' nameX_L ?F ?v ?_ ?a ?b; (case F => k_asm); (case a => rfl); (case b => rfl); (case v => assumption); k_whole)))
local macro_rules | `(tactic| k_put) => `(tactic| first | exact putL_nil _ _ _ _ _ | exact putL_one _ _ _ _ _ _ _ _ | exact putL_err_pos | exact putL_err_expr)
local macro_rules | `(tactic| walk_at "getAttr ref") => `(tactic| (k_here; k_dflt (refine' exc_getD ?k1 ?k2 ?k3 ?k4 ?k5 ?k6 ?k7 ?k8 ?k9 ?k10 ?k11 ?_; (case k1 => k_asm); (case k2 => k_asm); (case k3 => (refine' InstAt.of_newsF ?N ?h1 ?h2; (case N => k_asm); (case h1 => k_mem); (case h2 => k_mem))); (case k4 => k_is); (case k5 => k_is); (case k6 => k_is); (case k7 => k_is); (case k8 => k_is); (case k9 => k_is); (case k10 => k_get); (case k11 => k_handed); k_whole)))
local macro_rules | `(tactic| walk_at "setAttr ref") => `(tactic| (k_here; k_dflt (refine' exc_set ?k1 ?k2 ?k3 ?k4 ?k5 ?k6 ?k7 ?k8 ?k9 ?k10 ?k11 ?k12 ?k13 ?_; (case k1 => k_asm); (case k2 => k_asm); (case k3 => k_asm); (case k4 => (refine' InstAt.of_newsF ?N ?h1 ?h2; (case N => k_asm); (case h1 => k_mem); (case h2 => k_mem))); (case k5 => exact rfl); (case k6 => k_is); (case k7 => kernel_rfl); (case k8 => k_is); (case k9 => k_is); (case k10 => k_get); (case k11 => k_put); (case k12 => k_upd); (case k13 => exact Nat.le_of_ble_eq_true rfl); k_whole; intro h' F' N'; (try k_sweep))))
local macro_rules | `(tactic| k_slotget) => `(tactic| first | assumption | rfl)
local macro_rules | `(tactic| walk_at "getAttr ref") => `(tactic| (k_here; k_dflt (refine' get_slotW ?k1 ?k2 ?k3 ?k4 ?k5 ?k6 ?k7 ?k8 ?k9 ?k10 ?k11 ?_; (case k1 => k_asm); (case k2 => k_asm); (case k3 => k_asm); (case k4 => k_mem); (case k5 => k_is); (case k6 => k_is); (case k7 => k_is); (case k8 => k_is); (case k9 => k_is); (case k10 => k_slotget); (case k11 => k_handed); k_whole)))
local macro_rules | `(tactic| walk_at "call builtin:len") => `(tactic| (k_here; (with_reducible show wpAny _ _ (call (Value.builtin _) [Value.str _ _]) _ _ _); k_dflt (refine' SC.len_str ?k1 ?_; (case k1 => assumption); k_whole)))
local macro_rules | `(tactic| walk_at "getMethod ref") => `(tactic| (k_here; (with_reducible show wpAny _ _ (getMethod (Value.ref _) (Str.ofString "match_core") _) _ _ _); k_dflt (refine' meth_core ?k1 ?k2 ?k3 ?k4 ?k5 ?_; (case k1 => k_asm); (case k2 => k_asm); (case k4 => k_inst); (case k3 => assumption); (case k5 => assumption); k_whole)))
local macro_rules | `(tactic| walk_at "call ref") => `(tactic| (k_here; (with_reducible show wpAny _ _ (call (Value.ref 266) _) _ _ _); refine Held.out ?_))
local macro_rules | `(tactic| walk_at "exec For Name Attribute cons nil") => `(tactic| (k_here; refine for_F ?_))
local macro_rules | `(tactic| walk_at "truthy ref") => `(tactic| (k_here; k_dflt (refine' truthyL ?k1 ?k2 ?k3 ?k4 ?_; (case k1 => k_asm); (case k2 => k_mem); (case k3 => first | assumption | (simp only [List.size_toArray, List.length_cons, List.length_nil]; decide) | (simp only [Array.size_push, List.size_toArray, List.length_cons, List.length_nil]; omega)); (case k4 => first | assumption | exact ne1 | exact ne0 | exact neP); k_whole); intro tk'))
local macro_rules | `(tactic| walk_at "call ref") => `(tactic| (k_here; (with_reducible show wpAny _ _ (call (Value.ref 508) _) _ _ _); refine Held.out ?_))
local macro_rules | `(tactic| walk_at "call ref") => `(tactic| (k_here; (with_reducible show wpAny _ _ (call (Value.ref 508) _) _ _ _); k_dflt (refine' next_okU ?B ?F ?X ?T ?hk ?N ?U ?hscr ?hne ?hI ?hlen ?hu ?hlim ?hlim2 ?hd ?hun ?_; (case B => k_asm); (case F => k_asm); (case X => k_asm); (case T => k_asm); (case hk => rfl); (case N => k_asm); (case U => k_updF); (case hscr => k_mem); (case hne => k_ne); (case hI => assumption); (case hlen => assumption); (case hu => omega); (case hlim => omega); (case hlim2 => omega); (case hd => ktr_room); (case hun => ktr_units); k_whole); intro h' tk' t1' tr F' N'; (try dsimp only at N'); (try k_sweep)))
local macro_rules | `(tactic| walk_at "call ref") => `(tactic| (k_here; (with_reducible show wpAny _ _ (call (Value.ref 515) _) _ _ _); refine Held.out ?_))
local macro_rules | `(tactic| walk_at "call ref") => `(tactic| (k_here; (with_reducible show wpAny _ _ (call (Value.ref 522) _) _ _ _); refine Held.out ?_))
local macro_rules | `(tactic| walk_at "call ref") => `(tactic| (k_here; (with_reducible show wpAny _ _ (call (Value.ref 541) _) _ _ _); refine Held.out ?_))
local macro_rules | `(tactic| walk_at "eval ListComp") => `(tactic| (k_here; refine Held.out ?_))
local macro_rules | `(tactic| walk_at "CompSrc") => `(tactic| (k_here; refine Held.out ?_))
local macro_rules | `(tactic| walk_at "call builtin:str.join") => `(tactic| (k_here; (with_reducible show wpAny _ _ (call (Value.builtin _) [Value.str _ _, Value.ref _]) _ _ _); k_dflt (refine' join_L ?k1 ?k2 ?k3 ?k4 ?_; (case k1 => k_asm); (case k2 => k_mem); (case k3 => assumption); (case k4 => (rw [letters_len]; omega)); k_whole); intro t' tk'))
local macro_rules | `(tactic| walk_at "subscriptTail") => `(tactic| (k_here; (with_reducible show wpAny _ _ (subscriptTail _ _ (Value.ref _) (Value.int 0 _)) _ _ _); k_dflt (refine' item_0 ?k1 ?k2 ?_ ?k3; (case k1 => k_asm); (case k2 => first | assumption | exact .tail _ (by assumption)); (case k3 => with_unfolding_all rfl); k_whole)))
local macro_rules | `(tactic| walk_at "binaryOp Add str str") => `(tactic| (k_here; (with_reducible show wpAny _ _ (binaryOp Operator.Add (Value.str _ _) (Value.str _ _)) _ _ _); k_dflt (refine' KXadd.add (K := 100) (L := 100) ?kxaa ?kxab ?kxac ?_; (case kxaa => assumption); (case kxab => assumption); (case kxac => exact Nat.le_of_ble_eq_true rfl)); intro _ _ _))
local macro_rules | `(tactic| walk_at "compareOp NotEq ref ref") => `(tactic| (k_here; k_dflt (refine' ne_told ?a ?b ?c ?d ?N ?m ?s1 ?s2 ?u ?_; (case a => with_reducible assumption); (case b => with_reducible assumption); (case c => with_reducible assumption); (case d => with_reducible assumption); (case N => k_asm); (case m => exact .head _); (case s1 => intro p9 h9; (simp only [List.mem_append, List.mem_cons, h9, true_or, or_true])); (case s2 => intro p9 h9; (simp only [List.mem_append, List.mem_cons, h9, true_or, or_true])); (case u => ke_room); k_whole)))
local macro_rules | `(tactic| walk_at "compareOp NotEq") => `(tactic| (k_here; (with_reducible show wpAny _ _ (compareOp CmpOp.NotEq _ (Value.ref _)) _ _ _); k_dflt (refine' ne_told ?a ?b ?c ?d ?N ?m ?s1 ?s2 ?u ?_; (case a => with_reducible assumption); (case b => with_reducible assumption); (case c => with_reducible assumption); (case d => with_reducible assumption); (case N => k_asm); (case m => exact .head _); (case s1 => intro p9 h9; (simp only [List.mem_append, List.mem_cons, h9, true_or, or_true])); (case s2 => intro p9 h9; (simp only [List.mem_append, List.mem_cons, h9, true_or, or_true])); (case u => ke_room); k_whole)))
local macro_rules | `(tactic| walk_at "compareOp Eq ref ref") => `(tactic| (k_here; k_dflt (refine' eq_dat ?N ?a ?s1 ?b ?s2 ?k ?u ?_; (case N => k_asm); (case a => assumption); (case b => assumption); (case s1 => intro p9 h9; (simp only [List.mem_append, List.mem_cons, h9, true_or, or_true])); (case s2 => intro p9 h9; (simp only [List.mem_append, List.mem_cons, h9, true_or, or_true])); (case k => assumption); (case u => ke_room); k_whole)))
theorem law_holds : PySem.Challenge.rw_vj0019_01.Holds := hd (by
  k_go0
  all_goals try k_fold
  k_steps
  unfold Held
  rename Fr _ _ _ (fun _ => _) => F1
  rename News _ _ _ _ => N1
  rename Below _ _ _ _ => B1
  rename Frag.In _ _ => X1
  rename Top _ _ _ _ _ _ => T1
  rename IntsAre _ (List.take 60 _) => hI1
  rename (List.take 60 _).length = _ => hC1
  rename _ ∧ _ ∧ _ < _ => hl1
  generalize List.take 60 _ = ns at *
  have hoZ := three_ne (News.out1 N1) (Nat.ne_of_lt hl1.1) (Nat.ne_of_lt hl1.2.1) (Nat.ne_of_lt hl1.2.2)
  refine grown_ok 3 _ _ _ _ _ _ _ _ _ _ _ _ _ _ _ _ _ _ _ _ _ _ _ _ 0 0 _ _ _ _ 0 _ B1 F1 X1 T1 rfl N1 (.head _) (Nat.ne_of_lt hl1.1) hI1 ?_ ?_ ?_ ?_ ?_ ?_ ?_
  · rw [hC1]; omega
  · decide
  · decide
  · exact hoZ
  · show (1 + claimMargin + 1 + 4 * 3 + 8 < _); decide
  · decide
  · intro D1 h3 tk3 t13 t23 tl3 e pv3 F3 N3 hpe hEx hpl hD1 hG
    clear N1 F1
    have hbd := grown_bounds ns 3 0 0
    have hne1 := Nat.ne_of_lt hl1.1
    have hoD := fun p hp => (hG.off p (List.mem_append_left _ hp)).1
    have hoT := fun p hp => (hG.off p (List.mem_append_right _ hp)).1
    have hus : (grown ns 3 0 0).2.1 ≤ 40 := by omega
    have hgk := grown_ok' ns 3 0 0
    have hgd := grown_deep ns 3 0 0
    have hlen1 : ns.length ≤ 60 := by rw [hC1]; omega
    generalize grown ns 3 0 0 = G at *
    obtain ⟨pe, us, nm⟩ := G
    simp only [] at hpe hpl hbd hgk hgd hus N3
    subst hpe
    k_steps
    unfold Held
    rename Fr _ _ _ (fun _ => _) => F4
    rename News _ _ _ _ => N4
    refine LCg.ListComp_U F4 (cl := _) rfl (by decide) rfl (by decide) rfl ?_
    k_steps
    unfold Held
    rename IsRange _ _ _ _ _ _ _ _ => hR5
    rename Fr _ _ _ (fun _ => _) => F5
    rename News _ _ _ _ => N5
    obtain ⟨q9, l9⟩ := draw_eq ns us (lim := 9) (by decide)
    replace q9 : drawn ns us 9 = (draw ns us 9 : Int) := q9
    rw [q9] at hR5
    refine LCg.CompSrc.range rfl F5 N5 hR5 (small_one (by omega) (by omega) (by omega) (by omega)) (rangeSize_nat _ _) (by rw [sizeLine_eq]; omega) fun g5 => ?_
    have en9 : (((draw ns us 9 : Nat) : Int) - 0).toNat = draw ns us 9 := by omega
    rw [en9]
    clear hR5 F5 N5 en9
    refine comp_ind (Cond := fun k i ys news => i + k = draw ns us 9 ∧ (∃ u u', news = (_, stObj _ (us + 1 + i) nm u u' 0) :: (dicts e ++ (tl3 ++ _))) ∧ StrsAre ys ((letters ns (us + 1) i).map fun x => (⟨#[x]⟩ : Str))) ?_ ?_ _ _ _ _ ⟨by omega, ⟨_, _, rfl⟩, .nil⟩
    rotate_left
    · rintro k i ys news ⟨hik, ⟨u, u', rfl⟩, hY⟩ v I9 oI9 C9 oC8 D9 m9 h9 tk9 E9 hPv hNs hm9 F9 N9 off1 off2
      obtain ⟨tv, rfl⟩ := hPv
      obtain ⟨q2, l2⟩ := draw_eq ns (us + 1 + i) (lim := 2) (by decide)
      replace q2 : drawn ns (us + 1 + i) 2 = (draw ns (us + 1 + i) 2 : Int) := q2
      have hr2 := drawn_range ns (us + 1 + i) (lim := 2) (by decide)
      obtain ⟨o1, o2, o3⟩ := LCg.Off3.mem off1 _ (.head _)
      dsimp only at o1 o2 o3
      k_steps
      rename Fr _ _ _ (fun _ => _) => F6
      rename News _ _ _ _ => N6
      rw [q2, item_ab l2]
      refine LCg.CompEnd.intro F6 N6 _ (fun q hq => hq) (LCg.Off3.of fun q hq => ?_) trivial ⟨by omega, ⟨_, _, rfl⟩, ?_⟩
      · rcases List.mem_cons.mp hq with rfl | hq
        · exact ⟨o1, o2, o3⟩
        · exact LCg.Off3.mem off1 q (.tail _ hq)
      · rw [letters_succ, List.map_append]
        exact strs_snoc hY
    · rintro i ys news ⟨hik, ⟨u, u', rfl⟩, hY⟩
      have hi : i = draw ns us 9 := by omega
      subst hi
      intro D5 h5 tk5 F5 N5 off5
      obtain ⟨o5, _⟩ := off5
      dsimp only at o5
      iterate 3 walk1
      have hTl : (⟨(letters ns (us + 1) (draw ns us 9)).toArray⟩ : Str).cps.toList = letters ns (us + 1) (draw ns us 9) := rfl
      generalize (⟨(letters ns (us + 1) (draw ns us 9)).toArray⟩ : Str) = T at *
      have hT8 : T.cps.size ≤ 8 := by
        have := congrArg List.length hTl
        rw [letters_len, Array.length_toList] at this
        omega
      have hTl8 : T.length ≤ 8 := hT8
      have hfT : ¬ (T.length : Int) ≥ 2 ^ 63 := by omega
      clear hTl
      generalize hus2 : us + 1 + draw ns us 9 = us2 at *
      have hus2' : us2 ≤ 50 := by omega
      k_steps
      unfold Held
      rename Fr _ _ _ (fun _ => _) => F4
      rename News _ _ _ _ => N4
      obtain ⟨qs, ls⟩ := draw_eq ns us2 (lim := T.length + 1) (by omega)
      replace qs : drawn ns us2 ((T.length : Int) + 1) = (draw ns us2 (T.length + 1) : Int) := qs
      rw [qs] at F4
      generalize draw ns us2 (T.length + 1) = p at *
      have hp : p ≤ T.cps.size := by have : T.length = T.cps.size := rfl; omega
      replace N4 := News.out1 N4
      refine LCg.ListComp_U F4 (cl := _) rfl (by decide) rfl (by decide) rfl ?_
      k_steps
      unfold Held
      rename IsRange _ _ _ _ _ _ _ _ => hR5
      rename Fr _ _ _ (fun _ => _) => F5
      rename News _ _ _ _ => N5
      obtain ⟨q9, l9⟩ := draw_eq ns (us2 + 1) (lim := 5) (by decide)
      replace q9 : drawn ns (us2 + 1) 5 = (draw ns (us2 + 1) 5 : Int) := q9
      rw [q9] at hR5
      refine LCg.CompSrc.range rfl F5 N5 hR5 (small_one (by omega) (by omega) (by omega) (by omega)) (rangeSize_nat _ _) (by rw [sizeLine_eq]; omega) fun g5 => ?_
      have en9 : (((draw ns (us2 + 1) 5 : Nat) : Int) - 0).toNat = draw ns (us2 + 1) 5 := by omega
      rw [en9]
      clear hR5 F5 N5 en9
      refine comp_ind (Cond := fun k i ys news => i + k = draw ns (us2 + 1) 5 ∧ (∃ u u', news = (_, stObj _ (us2 + 1 + 1 + i) nm u u' 0) :: (dicts e ++ (tl3 ++ _))) ∧ StrsAre ys ((letters ns (us2 + 1 + 1) i).map fun x => (⟨#[x]⟩ : Str))) ?_ ?_ _ _ _ _ ⟨by omega, ⟨_, _, rfl⟩, .nil⟩
      rotate_left
      · rintro k i ys news ⟨hik, ⟨u, u', rfl⟩, hY⟩ v I9 oI9 C9 oC8 D9 m9 h9 tk9 E9 hPv hNs hm9 F9 N9 off1 off2
        obtain ⟨tv, rfl⟩ := hPv
        obtain ⟨q2, l2⟩ := draw_eq ns (us2 + 1 + 1 + i) (lim := 2) (by decide)
        replace q2 : drawn ns (us2 + 1 + 1 + i) 2 = (draw ns (us2 + 1 + 1 + i) 2 : Int) := q2
        have hr2 := drawn_range ns (us2 + 1 + 1 + i) (lim := 2) (by decide)
        obtain ⟨o1, o2, o3⟩ := LCg.Off3.mem off1 _ (.head _)
        dsimp only at o1 o2 o3
        k_steps
        rename Fr _ _ _ (fun _ => _) => F6
        rename News _ _ _ _ => N6
        rw [q2, item_ab l2]
        refine LCg.CompEnd.intro F6 N6 _ (fun q hq => hq) (LCg.Off3.of fun q hq => ?_) trivial ⟨by omega, ⟨_, _, rfl⟩, ?_⟩
        · rcases List.mem_cons.mp hq with rfl | hq
          · exact ⟨o1, o2, o3⟩
          · exact LCg.Off3.mem off1 q (.tail _ hq)
        · rw [letters_succ, List.map_append]
          exact strs_snoc hY
      · rintro i ys news ⟨hik, ⟨u, u', rfl⟩, hY⟩
        have hi : i = draw ns (us2 + 1) 5 := by omega
        subst hi
        intro D5 h5 tk5 F5 N5 off5
        obtain ⟨o5, _⟩ := off5
        dsimp only at o5
        iterate 3 walk1
        have hT2l : (⟨(letters ns (us2 + 1 + 1) (draw ns (us2 + 1) 5)).toArray⟩ : Str).length ≤ 100 := by
          show (letters ns (us2 + 1 + 1) (draw ns (us2 + 1) 5)).toArray.size ≤ 100
          rw [List.size_toArray, letters_len]; omega
        generalize (⟨(letters ns (us2 + 1 + 1) (draw ns (us2 + 1) 5)).toArray⟩ : Str) = T2 at *
        generalize us2 + 1 + 1 + draw ns (us2 + 1) 5 = us3 at *
        k_steps
        unfold Held
        rename Fr _ _ _ (fun _ => _) => F4
        rename News _ _ _ _ => N4
        rename _ ∧ _ ∧ AllLt _ _ => hl4
        have hTt : T.cps.toList.length = T.cps.size := Array.length_toList
        refine read_all e.pe hgk _ _ _ _ _ _ _ _ _ _ _ _ _ _ _ _ _ _ _ _ _ _ _ p p _ _ _ _ _ B1 F4 X1 T1 rfl N4 ?_ ?_ hp (by omega) ?_ ?_ ?_
        · exact DatIn.mono (fun q hq => .tail _ (.tail _ (List.mem_append_right _ (List.mem_append_left _ hq)))) hpl
        · exact tbn_neAll hl4
        · show (1 + claimMargin + 1 + 4 * _ + 8 < _); have : claimMargin + 100 < recursionLimit := by decide
          omega
        · show (4 + 3 + 60 * _ + 100 < _); have : 1000 < cLine := by decide
          omega
        · intro h7 tk7 t37 tr7 F7 N7
          have hE7 : (readP T.cps.toList e.pe p p).1 = readE T.cps.toList e.pe p := readP_fst _ _ _ _
          generalize hR7 : readP T.cps.toList e.pe p p = R7 at *
          obtain ⟨en, lkd⟩ := R7
          simp only [] at N7 hE7
          dsimp only
          generalize hei : endI en = ei
          clear F4 N4
          obtain ⟨hu15, hd3⟩ := una15 hgd
          k_steps
          unfold Held
          rename Fr _ _ _ (fun _ => _) => F4
          rename News _ _ _ _ => N4
          rename _ ∧ _ ∧ AllLt _ _ => hl4
          refine told1 (p := p) (shift := 0) B1 F4 X1 T1 rfl N4 hG hl4.2.2 hEx hgk hgd hp (by omega) ?_ ?_ ?_
          · show (1 + claimMargin + 1 + 100 < _); decide
          · show (4 + 3 + 1000 < _); decide
          · intro v8 h8 tk8 lc8 tl8 ol8 F8 N8 S8 C8 O8 len8 Fr8 D8
            have hU8 := core_inv (T := T.cps.toList) (by omega) e.pe hgk .nil p none (by omega) (allT_nil _)
            have hK8 := core_kept (T := T.cps.toList) (e := e.pe) (tt := .nil) (p := p) (err := none)
            generalize hO8 : core T.cps.toList e.pe .nil p none = U at *
            have hen : en = U.1.map Tree.e := by rw [hE7, hU8.1.2.1]
            obtain ⟨a8, a81, a82, n8, n81, n82, vs1, vs2, rfl, m8, m81, d81, m82, d82⟩ := told_inv D8
            clear F4 N4
            iterate 10 walk1
            obtain ⟨U1, U2, U3⟩ := U
            simp only [] at hen hK8 d81 d82 hU8
            rename Fr _ _ _ (fun _ => _) => F10
            rename News _ _ _ _ => N10
            refine behind F10 N10 ?_ ?_
            · cases U1 with
              | none =>
                subst hen
                replace hei : -1 = ei := hei
                subst hei
                replace d81 : DatAll tl8 vs1 [] := d81
                cases d81
                cases U3 with
                | none => exact absurd rfl (hK8 rfl)
                | some kk =>
                obtain ⟨kn, kp⟩ := kk
                replace d82 : DatAll tl8 vs2 [.str (nmS kn), .int ((kp : Int) - 0)] := d82
                cases d82 with
                | cons c1 d82 =>
                cases d82 with
                | cons c2 d82 =>
                cases d82
                cases c1
                cases c2
                k_steps
                unfold Held
                rename Fr _ _ _ (fun _ => _) => F11
                rename News _ _ _ _ => N11
                refine LCg.ListComp_U F11 (cl := _) rfl (by decide) rfl (by decide) rfl ?_
                k_steps
                unfold Held
                rename Fr _ _ _ (fun _ => _) => F12
                rename News _ _ _ _ => N12
                refine LCg.CompSrc.ledger rfl F12 N12 (by k_mem) (by rw [sizeLine_eq]; exact Nat.zero_le _) fun g9 => comp_nil rfl ?_
                intro D13 h13 tk13 F13 N13 off13
                clear F12 N12
                k_steps
                rename Fr _ _ _ (fun _ => _) => kF
                rename News _ _ _ _ => kN
                exact Behind.intro kF kN (fun q hq => .tail _ (.tail _ hq))
              | some tr =>
                subst hen
                replace hei : (tr.e : Int) = ei := hei
                subst hei
                replace d81 : DatAll tl8 vs1 [shapeD 0 tr] := d81
                cases d81 with
                | cons c1 d81 =>
                cases d81
                obtain ⟨b1, b2, nb, xb, tb1, tb2, tb3, rfl, mb1⟩ := shape_inv c1
                k_steps
                unfold Held
                rename Fr _ _ _ (fun _ => _) => F11
                rename News _ _ _ _ => N11
                refine LCg.ListComp_U F11 (cl := _) rfl (by decide) rfl (by decide) rfl ?_
                k_steps
                unfold Held
                rename Fr _ _ _ (fun _ => _) => F12
                rename News _ _ _ _ => N12
                refine LCg.CompSrc.ledger rfl F12 N12 (by k_mem) (by rw [sizeLine_eq]; exact Nat.le_of_ble_eq_true rfl) fun g9 => comp_one rfl ?_
                clear F12 N12
                intro v I9 oI9 C9 oC8 D9 m9 h9 tk9 E9 hPv hNs hm9 F9 N9 off1 off2
                replace hPv : some (Value.ref b1) = some v := hPv
                cases hPv
                k_steps
                rename Fr _ _ _ (fun _ => _) => F6
                rename News _ _ _ _ => N6
                refine LCg.CompEnd.intro F6 N6 _ (fun q hq => hq) off1 (.inr ⟨_, List.mem_append_right _ (List.mem_append_left _ m81), rfl, _, rfl⟩) ?_
                intro D13 h13 tk13 F13 N13 off13
                clear F6 N6
                have eqe : ((tr.e : Int) - (0 : Nat)) = (tr.e : Int) := by omega
                rw [eqe] at N13
                k_steps
                all_goals first
                  | (exfalso; rename ¬ _ => hne; exact hne rfl)
                  | (rename Fr _ _ _ (fun _ => _) => kF
                     rename News _ _ _ _ => kN
                     exact Behind.intro kF kN (fun q hq => .tail _ (.tail _ hq)))
            · intro h14 tk14 F14 N14
              dsimp only
              have hlk0 := (readP_snd (T := T.cps.toList) e.pe p p).2.1
              rw [hR7] at hlk0
              simp only [] at hlk0
              walk1
              rename Fr _ _ _ (fun _ => _) => F15
              rename News _ _ _ _ => N15
              have hlkm := mem3 N15
              have R8 : Ready _ e tl3 _ lc8 tl8 ol8 := ⟨S8, C8, O8⟩
              have hol8 : ol8.length ≤ 15 := by have := (una15 hgd).1; simp only [List.length_nil] at len8; omega
              have hdt1 : DatIn tl8 (.ref a81) (.list (treeD 0 U1)) := DatIn.list m81 d81
              have hdt2 : DatIn tl8 (.ref a82) (.list (keptD 0 U3)) := DatIn.list m82 d82
              have hdk : kqdOk 50 (.tuple [.list (treeD 0 U1), .list (keptD 0 U3)]) = true := told_okD (o := (U1, U2, U3)) (k := 0) (d := 4) (fun t ht => by have := (hU8.1.2.2 t ht).2; omega) (by decide)
              have hdepth : 1 + claimMargin + 1 + 100 < recursionLimit := by decide
              have hunits : 4 + 3 + 1000 < cLine := by decide
              refine' mid ?F ?R ?_ ?_
              case F => exact F15
              case R => exact R8
              · by_cases hlk : lkd ≤ T.cps.size
                · have hlki : (lkd : Int) ≤ (T.length : Int) := by have : T.length = T.cps.size := rfl; omega
                  have hS1 : (Txt.slice T none (some (lkd : Int))).length ≤ 100 := by
                    rw [slice_take hlk]
                    show (T.cps.toList.take lkd).toArray.size ≤ 100
                    rw [List.size_toArray, List.length_take]; omega
                  k_steps
                  unfold Held
                  rename Fr _ _ _ (fun _ => _) => F4
                  rename News _ _ _ _ => N4
                  rw [slice_take hlk]
                  have hTc : ((⟨(T.cps.toList.take lkd).toArray⟩ : Str) ++ T2).cps.toList = T.cps.toList.take lkd ++ T2.cps.toList := by
                    show ((T.cps.toList.take lkd).toArray ++ T2.cps).toList = _
                    rw [Array.toList_append]
                  generalize (⟨(T.cps.toList.take lkd).toArray⟩ : Str) ++ T2 = T9 at *
                  have hTs : T9.cps.size = lkd + T2.cps.size := by
                    have := congrArg List.length hTc
                    simp only [Array.length_toList, List.length_append, List.length_take] at this
                    omega
                  have hT2s : T2.cps.size ≤ 100 := hT2l
                  have htt : toldD 0 (core T9.cps.toList e.pe .nil p none) = .tuple [.list (treeD 0 U1), .list (keptD 0 U3)] := by
                    rw [hTc, told_tail (K := lkd) hgk (by omega) (agree_tail (by omega)) (by omega) (by rw [hR7]; exact Nat.le_refl _), hO8]; rfl
                  refine told_ready (p := p) (shift := 0) B1 F4 X1 T1 rfl N4 (fun q hq => hq) R8 (by omega) (fun q hq => .tail _ (List.mem_append_left _ hq)) hEx hgk hgd (by omega) (by omega) hdepth hunits ?_
                  intro v16 h16 tk16 lc16 tl16 ol16 F16 N16 R16 len16 D16
                  rw [htt] at D16
                  clear F4 N4
                  k_steps
                  rename Fr _ _ _ (fun _ => _) => kF
                  rename News _ _ _ _ => kN
                  exact Mid.intro kF kN (fun q hq => .tail _ hq) R16 (by omega)
                · have hlki : ¬ (lkd : Int) ≤ (T.length : Int) := by have : T.length = T.cps.size := rfl; omega
                  k_steps
                  rename Fr _ _ _ (fun _ => _) => kF
                  rename News _ _ _ _ => kN
                  exact Mid.intro kF kN (fun q hq => hq) R8 (by omega)
              · intro h17 tk17 lc17 tl17 ol17 F17 N17 R17 len17
                dsimp only
                k_steps
                unfold Held
                rename Fr _ _ _ (fun _ => _) => F18
                rename News _ _ _ _ => N18
                refine told_ready (p := p) (shift := p) B1 F18 X1 T1 rfl N18 (fun q hq => hq) R17 (by omega) (fun q hq => .tail _ (List.mem_append_left _ hq)) hEx hgk hgd hp (by omega) hdepth hunits ?_
                intro v19 h19 tk19 lc19 tl19 ol19 F19 N19 R19 len19 D19
                clear F18 N18
                have hdk2 : kqdOk 50 (toldD 0 (core (T.cps.toList.drop p) e.pe .nil 0 none)) = true := by
                  have hI := core_inv (T := T.cps.toList.drop p) (by rw [List.length_drop]; omega) e.pe hgk .nil 0 none (Nat.zero_le _) (allT_nil _)
                  exact told_okD (d := 4) (fun t ht => by have := (hI.1.2.2 t ht).2; omega) (by decide)
                rw [told_shift hgk (by omega) (by omega)] at D19
                generalize hO9 : core (T.cps.toList.drop p) e.pe .nil 0 none = O9 at *
                have D19' := D19
                obtain ⟨b19, _, _, _, _, _, _, _, rfl, _⟩ := told_inv D19
                k_steps
                unfold Held
                rename Fr _ _ _ (fun _ => _) => F20
                rename News _ _ _ _ => N20
                rw [slice_drop hp]
                refine told_ready (p := 0) (shift := 0) (T := ⟨(T.cps.toList.drop p).toArray⟩) B1 F20 X1 T1 rfl N20 (fun q hq => hq) R19 (by omega) (fun q hq => .tail _ (List.mem_append_left _ hq)) hEx hgk hgd (Nat.zero_le _) ?_ hdepth hunits ?_
                · show (T.cps.toList.drop p).toArray.size ≤ 1000
                  rw [List.size_toArray, List.length_drop]; omega
                intro v21 h21 tk21 lc21 tl21 ol21 F21 N21 R21 len21 D21
                clear F20 N20
                replace D21 : DatIn tl21 v21 (toldD 0 (core (T.cps.toList.drop p) e.pe .nil 0 none)) := D21
                rw [hO9] at D21
                have D21' := D21
                obtain ⟨b21, _, _, _, _, _, _, _, rfl, _⟩ := told_inv D21
                k_steps)
end Mine
theorem PySem.Challenge.cw_vj0019_01_holds : PySem.Challenge.rw_vj0019_01.Holds := by
  exact Mine.law_holds
