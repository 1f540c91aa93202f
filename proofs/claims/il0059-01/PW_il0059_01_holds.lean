import PyProof.Rows.All
import Wide.All
import OpenK.AllK
import Wide.FinOn
import PySem.Challenge.RW_il0059_01
open PySem PySem.W PyProof.Rows
set_option Elab.async false
set_option maxRecDepth 100000
set_option maxHeartbeats 8000000
set_option linter.unusedVariables false
namespace Mine
-- one look at the whole top, for the row alone: the pieces would make a compiled file six times as large
set_option synthInstance.maxSize 1 in
open_top hd for PySem.Challenge.rw_il0059_01.row

/-! Rb1 -/
section
open PySem.Calls
theorem kind_isn : builtinKind "issubclass.nested" = none := by decide +kernel
theorem plain_isn : plainId "issubclass.nested" = true := by decide +kernel
theorem args_isn (a b c : Value) : argsOk "issubclass.nested" ⟨[a, b, c], []⟩ := by unfold argsOk; kernel_rfl
theorem isn_str {prog : Program} {w : World} {A : Around} {E : Value → Shared → Prop} {s : Shared} {k : Int} {t : Tok} {Q : Value → Shared → Prop}
  (h : Q (.bool true) s) : wpAny (model prog w) A (call (.builtin "issubclass.nested") [.type "str", .type "str", .int k t]) Q E s := by
  refine call_function_meets kind_isn plain_isn F.entry_issubclass_nested (args_isn _ _ _) (S := fun A R s' => s' = s ∧ R (.ok (.ret (.bool true))) s) ?_ ⟨rfl, h⟩
  rintro prog w A R s' ⟨rfl, h⟩
  have hsub : isSubtype (.type "str") (.type "str") = pure true := by rw [isSubtype_type]; kernel_rfl
  have hsub2 : isSubtype (.type "type") (.type "type") = pure true := by rw [isSubtype_type]; kernel_rfl
  have hty : typeOf (.type "str") = pure (.type "type") := by first | rfl | kernel_rfl
  repeat (any_goals (first | assumption | wp_step))

theorem issub_str {prog : Program} {w : World} {A : Around} {E : Value → Shared → Prop} {s : Shared} {D : Addr} {n : Nat} {Q : Value → Shared → Prop}
  (hD : s.heap.get? D = some { cls := .type "tuple", data := .seq #[.type "str", .type "bytes"] n })
  (h : Q (.bool true) s) : wpAny (model prog w) A (call (.builtin "issubclass") [.type "str", .ref D]) Q E s := by
  refine call_function_meets F.kind_issubclass F.plain_issubclass F.entry_issubclass (F.args_issubclass_2 _ _) (S := fun A R s' => s' = s ∧ R (.ok (.ret (.bool true))) s) ?_ ⟨rfl, h⟩
  rintro prog w A R s' ⟨rfl, h⟩
  refine issubclass_outer ?_
  have hT : s'.TypeIs (.ref D) "tuple" := ⟨_, hD, rfl⟩
  have hsub : isSubtype (.type "tuple") (.type "tuple") = pure true := by rw [isSubtype_type]; kernel_rfl
  repeat (any_goals (first | assumption | refine isn_str ?_ | wp_step))
end

/-! Lp -/
section
section
variable {prog : Program} {w : World} {A : Around} {E : Value → Shared → Prop} {s : Shared} {env : Env} {h₀ : Heap} {x : Str} {body : List Stmt} {Q : Flow → Shared → Prop}

theorem allLt_ne {d : Addr} : ∀ {l : List (Addr × Obj)}, AllLt d l → ∀ p ∈ l, p.1 ≠ d
  | [], _, _, h => nomatch h
  | q :: r, a, p, h => by
    rcases List.mem_cons.mp h with rfl | h
    · exact Nat.ne_of_lt a.1
    · exact allLt_ne a.2 p h

/-- how a turn of a loop ends: the iterator's own objects stand, the rest as J says -/
noncomputable def TurnEnd (h₀ : Heap) (L : Addr) (own : List (Addr × Obj)) (I : Addr) (Jn : (Str → Option Value) → List (Addr × Obj) → Prop) (s₁ s₂ : Shared) : Prop :=
  ∃ h' tk m' nx, s₂ = { s₁ with heap := h', toks := tk } ∧ Fr h₀ L h' m' ∧ News h₀ L h' (own ++ nx) ∧ (∀ p ∈ nx, p.1 ≠ I) ∧ Jn m' nx
noncomputable def TurnPost (h₀ : Heap) (L : Addr) (own : List (Addr × Obj)) (I : Addr) (Jn : (Str → Option Value) → List (Addr × Obj) → Prop) (s₁ : Shared) (Q : Flow → Shared → Prop) (f : Flow) (s₂ : Shared) : Prop :=
  match f with
  | .ret v => Q (.ret v) s₂
  | .brk => Q .next s₂
  | _ => TurnEnd h₀ L own I Jn s₁ s₂
theorem TurnEnd.intro {L I : Addr} {own nx : List (Addr × Obj)} {Jn : (Str → Option Value) → List (Addr × Obj) → Prop} {s₁ : Shared} {h' : Heap} {tk : Nat} {m' : Str → Option Value}
    (F : Fr h₀ L h' m') (N : News h₀ L h' (own ++ nx)) (hI : ∀ p ∈ nx, p.1 ≠ I) (hj : Jn m' nx) : TurnEnd h₀ L own I Jn s₁ { s₁ with heap := h', toks := tk } := ⟨h', tk, m', nx, rfl, F, N, hI, hj⟩

theorem news_swap {h : Heap} {L : Addr} {a b : List (Addr × Obj)} (N : News h₀ L h (a ++ b)) : News h₀ L h (b ++ a) := fun p hp => N p (by
  rcases List.mem_append.mp hp with hp | hp
  · exact List.mem_append_right _ hp
  · exact List.mem_append_left _ hp)

/-- a loop over a tuple or list of the ledger (or of the ground), its items written out or not -/
theorem iter_walk {v₀ : Value} {l : Addr} {n : Nat} {P : Nat → Value → Prop} {St : Nat → Heap → Prop} {m₀ : Str → Option Value} {news : List (Addr × Obj)}
    (J : Nat → (Str → Option Value) → List (Addr × Obj) → Prop) {it : Obj}
    (hi : (∀ (W : Walks prog w A s.heap.objs.size [s.heap.objs.size, l] [s.heap.objs.size] n P St), St 0 (s.heap.push it) →
      LoopAtV prog w A h₀ env x body Q E (.ref s.heap.objs.size) { s with heap := s.heap.push it }) → wpAny (model prog w) A (pyIter v₀) (fun it s₂ => LoopAtV prog w A h₀ env x body Q E it s₂) E s)
    (hlL : l ≠ env.locals) (F : Fr h₀ env.locals s.heap m₀) (N : News h₀ env.locals s.heap news) (hj : J 0 m₀ news)
    (turn : ∀ i v m₁ news₁ h tk own I, i < n → P i v → J i m₁ news₁ → (∀ p ∈ own, p.1 = I ∨ p.1 = l) → (∀ p ∈ news₁, p.1 ≠ I) → (∀ p ∈ news, p.1 < I) → Fr h₀ env.locals h (fun y => if y = x then some v else m₁ y) → News h₀ env.locals h (news₁ ++ own) →
      wpAny (model prog w) A (execs body env) (TurnPost h₀ env.locals own I (J (i + 1)) { s with heap := h, toks := tk } Q) E { s with heap := h, toks := tk })
    (done : ∀ m₁ news₁ h tk, J n m₁ news₁ → Fr h₀ env.locals h m₁ → News h₀ env.locals h news₁ → Q .next { s with heap := h, toks := tk }) :
    wpAny (model prog w) A (pyIter v₀) (fun it s₂ => LoopAtV prog w A h₀ env x body Q E it s₂) E s := by
  refine hi fun W st0 => ?_
  refine ⟨_, _, _, n, _, _, m₀, news, J, rfl, W, ?_, ?_, ?_, st0, F.push _, (fun p hp => ⟨Heap.get?_push_of_some _ (N p hp).1, (N p hp).2⟩), hj, ?_, ?_⟩
  · intro hm
    rcases List.mem_cons.mp hm with e | hm
    · exact absurd F.ns.lt (e ▸ Nat.lt_irrefl _)
    · exact hlL (List.mem_singleton.mp hm).symm
  · intro b hb
    rw [List.mem_singleton.mp hb]
    exact next_is_new F
  · intro p hp hI
    exact absurd (Heap.lt_size (N p hp).1) ((List.mem_singleton.mp hI) ▸ Nat.lt_irrefl _)
  · rintro i v m₁ news₁ s₁ own ⟨hh', tk', rfl⟩ hin hP hJ hoff hown _ _ _ F₁ N₁
    refine wpAny_mono (turn i v m₁ news₁ hh' tk' own s.heap.objs.size hin hP hJ (fun p hp => ?_) (fun p hp e => hoff p hp (List.mem_singleton.mpr e)) (fun p hp => Heap.lt_size (N p hp).1) F₁ (news_swap N₁)) (fun f s₂ p => ?_) fun _ _ e => e
    · rcases List.mem_cons.mp (hown p hp) with h | h
      · exact .inl h
      · exact .inr (List.mem_singleton.mp h)
    · have fin : TurnEnd h₀ env.locals own s.heap.objs.size (J (i + 1)) { s with heap := hh', toks := tk' } s₂ → LoopStepU h₀ env.locals [s.heap.objs.size] own (J (i + 1)) { s with heap := hh', toks := tk' } .next s₂ := by
        rintro ⟨h', tk, m', nx, e, F', N', hI, hm⟩
        exact ⟨rfl, h', tk, m', nx, e, F', N', fun p hp q => hI p hp (List.mem_singleton.mp q), hm⟩
      cases f with
      | ret v => exact .ret p
      | brk => exact .brk p
      | next => exact .next (fin p)
      | cont => exact .cont (fin p)
  · rintro h' tk m' news' F' N' _ hJ
    exact done m' news' h' tk hJ F' N'

theorem iter_tuple {l : Addr} {vs : List Value} {m₀ : Str → Option Value} {news : List (Addr × Obj)} (J : Nat → (Str → Option Value) → List (Addr × Obj) → Prop)
    (hh : A.handled = none) (hl : s.heap.IsTuple l vs.toArray) (hlL : l ≠ env.locals) (F : Fr h₀ env.locals s.heap m₀) (N : News h₀ env.locals s.heap news) (hj : J 0 m₀ news)
    (turn : ∀ i v m₁ news₁ h tk own I, i < vs.length → vs[i]? = some v → J i m₁ news₁ → (∀ p ∈ own, p.1 = I ∨ p.1 = l) → (∀ p ∈ news₁, p.1 ≠ I) → (∀ p ∈ news, p.1 < I) → Fr h₀ env.locals h (fun y => if y = x then some v else m₁ y) → News h₀ env.locals h (news₁ ++ own) →
      wpAny (model prog w) A (execs body env) (TurnPost h₀ env.locals own I (J (i + 1)) { s with heap := h, toks := tk } Q) E { s with heap := h, toks := tk })
    (done : ∀ m₁ news₁ h tk, J vs.length m₁ news₁ → Fr h₀ env.locals h m₁ → News h₀ env.locals h news₁ → Q .next { s with heap := h, toks := tk }) :
    wpAny (model prog w) A (pyIter (.ref l)) (fun it s₂ => LoopAtV prog w A h₀ env x body Q E it s₂) E s := by
  obtain ⟨ol, hol, _⟩ := id hl
  have hne : l ≠ s.heap.objs.size := Nat.ne_of_lt (Heap.lt_size hol)
  refine iter_walk (n := vs.length) (P := fun i v => vs[i]? = some v) (St := fun i h => h.IsTupleIter s.heap.objs.size l i ∧ h.IsTuple l vs.toArray) J (fun K => wpAny_pyIter_tuple hl (K ?_ ?_)) hlL F N hj turn done
  · have W := Walks.tuple (prog := prog) (w := w) hh s.heap.objs.size l hne vs.toArray
    simpa only [List.size_toArray, List.getElem?_toArray] using W
  · exact ⟨⟨_, Heap.get?_push_size _ rfl, rfl, rfl⟩, hl.at fun o e => Heap.get?_push_of_some _ e⟩

theorem iter_list {l : Addr} {vs : List Value} {m₀ : Str → Option Value} {news : List (Addr × Obj)} (J : Nat → (Str → Option Value) → List (Addr × Obj) → Prop)
    (hh : A.handled = none) (hl : s.heap.IsList l vs.toArray) (hlL : l ≠ env.locals) (F : Fr h₀ env.locals s.heap m₀) (N : News h₀ env.locals s.heap news) (hj : J 0 m₀ news)
    (turn : ∀ i v m₁ news₁ h tk own I, i < vs.length → vs[i]? = some v → J i m₁ news₁ → (∀ p ∈ own, p.1 = I ∨ p.1 = l) → (∀ p ∈ news₁, p.1 ≠ I) → (∀ p ∈ news, p.1 < I) → Fr h₀ env.locals h (fun y => if y = x then some v else m₁ y) → News h₀ env.locals h (news₁ ++ own) →
      wpAny (model prog w) A (execs body env) (TurnPost h₀ env.locals own I (J (i + 1)) { s with heap := h, toks := tk } Q) E { s with heap := h, toks := tk })
    (done : ∀ m₁ news₁ h tk, J vs.length m₁ news₁ → Fr h₀ env.locals h m₁ → News h₀ env.locals h news₁ → Q .next { s with heap := h, toks := tk }) :
    wpAny (model prog w) A (pyIter (.ref l)) (fun it s₂ => LoopAtV prog w A h₀ env x body Q E it s₂) E s := by
  obtain ⟨ol, hol, _⟩ := id hl
  have hne : l ≠ s.heap.objs.size := Nat.ne_of_lt (Heap.lt_size hol)
  refine iter_walk (n := vs.length) (P := fun i v => vs[i]? = some v) (St := fun i h => h.IsListIter s.heap.objs.size l i ∧ h.IsList l vs.toArray) J (fun K => wpAny_pyIter_list hl (K ?_ ?_)) hlL F N hj turn done
  · have W := Walks.list (prog := prog) (w := w) hh s.heap.objs.size l hne vs.toArray
    simpa only [List.size_toArray, List.getElem?_toArray] using W
  · exact ⟨⟨_, Heap.get?_push_size _ rfl, rfl, rfl⟩, hl.at fun o e => Heap.get?_push_of_some _ e⟩

theorem iter_str {y : Str} {ty : Tok} {m₀ : Str → Option Value} {news : List (Addr × Obj)} (J : Nat → (Str → Option Value) → List (Addr × Obj) → Prop)
    (hh : A.handled = none) (F : Fr h₀ env.locals s.heap m₀) (N : News h₀ env.locals s.heap news) (hj : J 0 m₀ news)
    (turn : ∀ i c u m₁ news₁ h tk own I, i < y.cps.size → y.cps[i]? = some c → J i m₁ news₁ → (∀ p ∈ own, p.1 = I) → (∀ p ∈ news₁, p.1 ≠ I) → (∀ p ∈ news, p.1 < I) → Fr h₀ env.locals h (fun z => if z = x then some (.str ⟨#[c]⟩ u) else m₁ z) → News h₀ env.locals h (news₁ ++ own) →
      wpAny (model prog w) A (execs body env) (TurnPost h₀ env.locals own I (J (i + 1)) { s with heap := h, toks := tk } Q) E { s with heap := h, toks := tk })
    (done : ∀ m₁ news₁ h tk, J y.cps.size m₁ news₁ → Fr h₀ env.locals h m₁ → News h₀ env.locals h news₁ → Q .next { s with heap := h, toks := tk }) :
    wpAny (model prog w) A (pyIter (.str y ty)) (fun it s₂ => LoopAtV prog w A h₀ env x body Q E it s₂) E s := by
  refine wpAny_pyIter_str fun o St W st0 => ?_
  have hWW := W A hh
  refine ⟨_, _, _, y.cps.size, _, _, m₀, news, J, rfl, hWW, ?_, ?_, ?_, st0, F.push _, (fun p hp => ⟨Heap.get?_push_of_some _ (N p hp).1, (N p hp).2⟩), hj, ?_, ?_⟩
  · intro hm
    exact absurd F.ns.lt ((List.mem_singleton.mp hm) ▸ Nat.lt_irrefl _)
  · intro b hb
    rw [List.mem_singleton.mp hb]
    exact next_is_new F
  · intro p hp hI
    exact absurd (Heap.lt_size (N p hp).1) ((List.mem_singleton.mp hI) ▸ Nat.lt_irrefl _)
  · rintro i v m₁ news₁ s₁ own ⟨hh', tk', rfl⟩ hin ⟨c, u, hc, rfl⟩ hJ hoff hown _ _ _ F₁ N₁
    refine wpAny_mono (turn i c u m₁ news₁ hh' tk' own s.heap.objs.size hin hc hJ (fun p hp => ?_) (fun p hp e => hoff p hp (List.mem_singleton.mpr e)) (fun p hp => Heap.lt_size (N p hp).1) F₁ (news_swap N₁)) (fun f s₂ p => ?_) fun _ _ e => e
    · exact List.mem_singleton.mp (hown p hp)
    · have fin : TurnEnd h₀ env.locals own s.heap.objs.size (J (i + 1)) { s with heap := hh', toks := tk' } s₂ → LoopStepU h₀ env.locals [s.heap.objs.size] own (J (i + 1)) { s with heap := hh', toks := tk' } .next s₂ := by
        rintro ⟨h', tk, m', nx, e, F', N', hI, hm⟩
        exact ⟨rfl, h', tk, m', nx, e, F', N', fun p hp q => hI p hp (List.mem_singleton.mp q), hm⟩
      cases f with
      | ret v => exact .ret p
      | brk => exact .brk p
      | next => exact .next (fin p)
      | cont => exact .cont (fin p)
  · rintro h' tk m' news' F' N' _ hJ
    exact done m' news' h' tk hJ F' N'
section
variable {prog : Program} {w : World} {A : Around} {E : Value → Shared → Prop} {s : Shared} {env : Env} {h₀ : Heap} {x : Str} {body : List Stmt} {Q : Flow → Shared → Prop}
theorem iter_listM {l : Addr} {vs : List Value} {m₀ : Str → Option Value} {news : List (Addr × Obj)} (J : (Str → Option Value) → Nat → (Str → Option Value) → List (Addr × Obj) → Prop)
    (hh : A.handled = none) (hl : s.heap.IsList l vs.toArray) (hlL : l ≠ env.locals) (F : Fr h₀ env.locals s.heap m₀) (N : News h₀ env.locals s.heap news) (hj : J m₀ 0 m₀ news)
    (turn : ∀ i v m₁ news₁ h tk own I, i < vs.length → vs[i]? = some v → J m₀ i m₁ news₁ → (∀ p ∈ own, p.1 = I ∨ p.1 = l) → (∀ p ∈ news₁, p.1 ≠ I) → (∀ p ∈ news, p.1 < I) → Fr h₀ env.locals h (fun y => if y = x then some v else m₁ y) → News h₀ env.locals h (news₁ ++ own) →
      wpAny (model prog w) A (execs body env) (TurnPost h₀ env.locals own I (J m₀ (i + 1)) { s with heap := h, toks := tk } Q) E { s with heap := h, toks := tk })
    (done : ∀ m₁ news₁ h tk, J m₀ vs.length m₁ news₁ → Fr h₀ env.locals h m₁ → News h₀ env.locals h news₁ → Q .next { s with heap := h, toks := tk }) :
    wpAny (model prog w) A (pyIter (.ref l)) (fun it s₂ => LoopAtV prog w A h₀ env x body Q E it s₂) E s := iter_list (J m₀) hh hl hlL F N hj turn done
theorem iter_strM {y : Str} {ty : Tok} {m₀ : Str → Option Value} {news : List (Addr × Obj)} (J : (Str → Option Value) → Nat → (Str → Option Value) → List (Addr × Obj) → Prop)
    (hh : A.handled = none) (F : Fr h₀ env.locals s.heap m₀) (N : News h₀ env.locals s.heap news) (hj : J m₀ 0 m₀ news)
    (turn : ∀ i c u m₁ news₁ h tk own I, i < y.cps.size → y.cps[i]? = some c → J m₀ i m₁ news₁ → (∀ p ∈ own, p.1 = I) → (∀ p ∈ news₁, p.1 ≠ I) → (∀ p ∈ news, p.1 < I) → Fr h₀ env.locals h (fun z => if z = x then some (.str ⟨#[c]⟩ u) else m₁ z) → News h₀ env.locals h (news₁ ++ own) →
      wpAny (model prog w) A (execs body env) (TurnPost h₀ env.locals own I (J m₀ (i + 1)) { s with heap := h, toks := tk } Q) E { s with heap := h, toks := tk })
    (done : ∀ m₁ news₁ h tk, J m₀ y.cps.size m₁ news₁ → Fr h₀ env.locals h m₁ → News h₀ env.locals h news₁ → Q .next { s with heap := h, toks := tk }) :
    wpAny (model prog w) A (pyIter (.str y ty)) (fun it s₂ => LoopAtV prog w A h₀ env x body Q E it s₂) E s := iter_str (J m₀) hh F N hj turn done
theorem While_invM {test : Expr} {body : List Stmt} {pos : Pos} {Q : Flow → Shared → Prop} {L : Addr} {m : Str → Option Value} {news : List (Addr × Obj)} (J : (Str → Option Value) → Nat → (Str → Option Value) → List (Addr × Obj) → Prop) {n₀ : Nat}
    (F : Fr h₀ L s.heap m) (N : News h₀ L s.heap news) (hJ : J m n₀ m news)
    (turn : ∀ n m₁ news₁ h₁ tk₁, Fr h₀ L h₁ m₁ → News h₀ L h₁ news₁ → J m n m₁ news₁ →
      wpAny (model prog w) A (isTrue test env (eval test env)) (fun b s₂ =>
        if b = true then wpAny (model prog w) A (execs body env) (WhileStep h₀ L s (J m) n) E s₂ else Q .next s₂) E { s with heap := h₁, toks := tk₁ })
    (hE : PassesOwn (model prog w) A env E := by passes_own) :
    wpAny (model prog w) A (exec (.While test body [] pos) env) Q E s := While_inv (J m) F N hJ turn hE
end
section
variable {prog : Program} {w : World} {A : Around} {E : Value → Shared → Prop} {s : Shared} {env : Env} {h₀ : Heap} {x : Str} {body : List Stmt} {Q : Flow → Shared → Prop}
/-- a loop over a tuple of one item: its turn, then what follows -/
theorem iter_tup1 {l : Addr} {v : Value} {n : Nat} {m₀ : Str → Option Value} {news : List (Addr × Obj)}
    (hh : A.handled = none) (hl : (l, ({ cls := .type "tuple", data := .seq #[v] n } : Obj)) ∈ news) (F : Fr h₀ env.locals s.heap m₀) (N : News h₀ env.locals s.heap news)
    (turn : ∀ h tk own I, (∀ p ∈ news, p.1 < I) → Fr h₀ env.locals h (fun y => if y = x then some v else m₀ y) → News h₀ env.locals h (news ++ own) →
      wpAny (model prog w) A (execs body env) (TurnPost h₀ env.locals own I (fun m' nx => ∀ h tk, Fr h₀ env.locals h m' → News h₀ env.locals h nx → Q .next { s with heap := h, toks := tk }) { s with heap := h, toks := tk } Q) E { s with heap := h, toks := tk }) :
    wpAny (model prog w) A (pyIter (.ref l)) (fun it s₂ => LoopAtV prog w A h₀ env x body Q E it s₂) E s := by
  have hN := N _ hl
  refine iter_tuple (vs := [v]) (news := news) (fun i m₁ news₁ => (i = 0 → m₁ = m₀ ∧ news₁ = news) ∧ (i = 1 → ∀ h tk, Fr h₀ env.locals h m₁ → News h₀ env.locals h news₁ → Q .next { s with heap := h, toks := tk })) hh ⟨_, hN.1, rfl, n, rfl⟩ hN.2.1 F N ⟨fun _ => ⟨rfl, rfl⟩, fun h => absurd h (by decide)⟩ ?_ ?_
  · rintro i v' m₁ news₁ h tk own I hi hv ⟨hj, _⟩ _ _ hlt F₁ N₁
    have hi0 : i = 0 := by simp at hi; omega
    subst hi0
    obtain ⟨rfl, rfl⟩ := hj rfl
    have hv' : v' = v := by simpa using hv.symm
    subst hv'
    refine wpAny_mono (turn h tk own I hlt F₁ N₁) (fun f s₂ hp => ?_) fun _ _ e => e
    have fin : TurnEnd h₀ env.locals own I (fun m' nx => ∀ h tk, Fr h₀ env.locals h m' → News h₀ env.locals h nx → Q .next { s with heap := h, toks := tk }) { s with heap := h, toks := tk } s₂ → TurnEnd h₀ env.locals own I (fun m₂ news₂ => (0 + 1 = 0 → m₂ = m₁ ∧ news₂ = news₁) ∧ (0 + 1 = 1 → ∀ h tk, Fr h₀ env.locals h m₂ → News h₀ env.locals h news₂ → Q .next { s with heap := h, toks := tk })) { s with heap := h, toks := tk } s₂ := by
      rintro ⟨h', tk', m', nx, e, F', N', hI, hm⟩
      exact ⟨h', tk', m', nx, e, F', N', hI, fun h => absurd h (by decide), fun _ => hm⟩
    cases f with
    | ret v => exact hp
    | brk => exact hp
    | next => exact fin hp
    | cont => exact fin hp
  · rintro m₁ news₁ h tk ⟨_, hj⟩ F₁ N₁
    exact hj rfl h tk F₁ N₁
end
theorem for_go {prog : Program} {w : World} {A : Around} {E : Value → Shared → Prop} {s : Shared} {env : Env} {h₀ : Heap} {L : Addr} {x : Str} {body : List Stmt} {Q : Flow → Shared → Prop} {px pos : Pos} {iter : Expr} {m : Str → Option Value} (_F : Fr h₀ L s.heap m) (hx : env.kindOf x = some .local)
    (hp : (env.scope.kind == .class || (env.scope.kind == .module && env.locals != env.globals)) = false)
    (h : wpAny (model prog w) A (eval iter env) (fun xv s₁ => wpAny (model prog w) A (pyIter xv) (fun it s₂ => LoopAtV prog w A h₀ env x body Q E it s₂) E s₁) E s)
    (hs : ∀ x, foldedSetIterable iter env x = pure x := by intro _; rfl)
    (hE : PassesOwn (model prog w) A env E := by passes_own) :
    wpAny (model prog w) A (exec (.For (.Name x px) iter body [] pos) env) Q E s := For_invV h₀ hx hp h hs hE
theorem fr_map {h₀ h : Heap} {L : Addr} {m m' : Str → Option Value} (F : Fr h₀ L h m) (e : ∀ y, m y = m' y) : Fr h₀ L h m' := by
  have q : m = m' := funext e
  rw [← q]; exact F
theorem fr_known2 {h₀ h : Heap} {L : Addr} {m : Str → Option Value} {x1 x2 : Str} {v1 v2 : Value} (F : Fr h₀ L h m) (h1 : m x1 = some v1) (h2 : m x2 = some v2) : Fr h₀ L h (fun y => if y = x1 then some v1 else if y = x2 then some v2 else m y) := by
  refine fr_map F fun y => ?_
  by_cases e1 : y = x1
  · rw [if_pos e1, e1, h1]
  rw [if_neg e1]
  by_cases e2 : y = x2
  · rw [if_pos e2, e2, h2]
  rw [if_neg e2]
theorem fr_known3 {h₀ h : Heap} {L : Addr} {m : Str → Option Value} {x1 x2 x3 : Str} {v1 v2 v3 : Value} (F : Fr h₀ L h m) (h1 : m x1 = some v1) (h2 : m x2 = some v2) (h3 : m x3 = some v3) : Fr h₀ L h (fun y => if y = x1 then some v1 else if y = x2 then some v2 else if y = x3 then some v3 else m y) := by
  refine fr_map F fun y => ?_
  by_cases e1 : y = x1
  · rw [if_pos e1, e1, h1]
  rw [if_neg e1]
  by_cases e2 : y = x2
  · rw [if_pos e2, e2, h2]
  rw [if_neg e2]
  by_cases e3 : y = x3
  · rw [if_pos e3, e3, h3]
  rw [if_neg e3]
theorem fr_known4 {h₀ h : Heap} {L : Addr} {m : Str → Option Value} {x1 x2 x3 x4 : Str} {v1 v2 v3 v4 : Value} (F : Fr h₀ L h m) (h1 : m x1 = some v1) (h2 : m x2 = some v2) (h3 : m x3 = some v3) (h4 : m x4 = some v4) : Fr h₀ L h (fun y => if y = x1 then some v1 else if y = x2 then some v2 else if y = x3 then some v3 else if y = x4 then some v4 else m y) := by
  refine fr_map F fun y => ?_
  by_cases e1 : y = x1
  · rw [if_pos e1, e1, h1]
  rw [if_neg e1]
  by_cases e2 : y = x2
  · rw [if_pos e2, e2, h2]
  rw [if_neg e2]
  by_cases e3 : y = x3
  · rw [if_pos e3, e3, h3]
  rw [if_neg e3]
  by_cases e4 : y = x4
  · rw [if_pos e4, e4, h4]
  rw [if_neg e4]
theorem fr_known5 {h₀ h : Heap} {L : Addr} {m : Str → Option Value} {x1 x2 x3 x4 x5 : Str} {v1 v2 v3 v4 v5 : Value} (F : Fr h₀ L h m) (h1 : m x1 = some v1) (h2 : m x2 = some v2) (h3 : m x3 = some v3) (h4 : m x4 = some v4) (h5 : m x5 = some v5) : Fr h₀ L h (fun y => if y = x1 then some v1 else if y = x2 then some v2 else if y = x3 then some v3 else if y = x4 then some v4 else if y = x5 then some v5 else m y) := by
  refine fr_map F fun y => ?_
  by_cases e1 : y = x1
  · rw [if_pos e1, e1, h1]
  rw [if_neg e1]
  by_cases e2 : y = x2
  · rw [if_pos e2, e2, h2]
  rw [if_neg e2]
  by_cases e3 : y = x3
  · rw [if_pos e3, e3, h3]
  rw [if_neg e3]
  by_cases e4 : y = x4
  · rw [if_pos e4, e4, h4]
  rw [if_neg e4]
  by_cases e5 : y = x5
  · rw [if_pos e5, e5, h5]
  rw [if_neg e5]
theorem fr_known6 {h₀ h : Heap} {L : Addr} {m : Str → Option Value} {x1 x2 x3 x4 x5 x6 : Str} {v1 v2 v3 v4 v5 v6 : Value} (F : Fr h₀ L h m) (h1 : m x1 = some v1) (h2 : m x2 = some v2) (h3 : m x3 = some v3) (h4 : m x4 = some v4) (h5 : m x5 = some v5) (h6 : m x6 = some v6) : Fr h₀ L h (fun y => if y = x1 then some v1 else if y = x2 then some v2 else if y = x3 then some v3 else if y = x4 then some v4 else if y = x5 then some v5 else if y = x6 then some v6 else m y) := by
  refine fr_map F fun y => ?_
  by_cases e1 : y = x1
  · rw [if_pos e1, e1, h1]
  rw [if_neg e1]
  by_cases e2 : y = x2
  · rw [if_pos e2, e2, h2]
  rw [if_neg e2]
  by_cases e3 : y = x3
  · rw [if_pos e3, e3, h3]
  rw [if_neg e3]
  by_cases e4 : y = x4
  · rw [if_pos e4, e4, h4]
  rw [if_neg e4]
  by_cases e5 : y = x5
  · rw [if_pos e5, e5, h5]
  rw [if_neg e5]
  by_cases e6 : y = x6
  · rw [if_pos e6, e6, h6]
  rw [if_neg e6]
theorem fr_known7 {h₀ h : Heap} {L : Addr} {m : Str → Option Value} {x1 x2 x3 x4 x5 x6 x7 : Str} {v1 v2 v3 v4 v5 v6 v7 : Value} (F : Fr h₀ L h m) (h1 : m x1 = some v1) (h2 : m x2 = some v2) (h3 : m x3 = some v3) (h4 : m x4 = some v4) (h5 : m x5 = some v5) (h6 : m x6 = some v6) (h7 : m x7 = some v7) : Fr h₀ L h (fun y => if y = x1 then some v1 else if y = x2 then some v2 else if y = x3 then some v3 else if y = x4 then some v4 else if y = x5 then some v5 else if y = x6 then some v6 else if y = x7 then some v7 else m y) := by
  refine fr_map F fun y => ?_
  by_cases e1 : y = x1
  · rw [if_pos e1, e1, h1]
  rw [if_neg e1]
  by_cases e2 : y = x2
  · rw [if_pos e2, e2, h2]
  rw [if_neg e2]
  by_cases e3 : y = x3
  · rw [if_pos e3, e3, h3]
  rw [if_neg e3]
  by_cases e4 : y = x4
  · rw [if_pos e4, e4, h4]
  rw [if_neg e4]
  by_cases e5 : y = x5
  · rw [if_pos e5, e5, h5]
  rw [if_neg e5]
  by_cases e6 : y = x6
  · rw [if_pos e6, e6, h6]
  rw [if_neg e6]
  by_cases e7 : y = x7
  · rw [if_pos e7, e7, h7]
  rw [if_neg e7]
theorem fr_known8 {h₀ h : Heap} {L : Addr} {m : Str → Option Value} {x1 x2 x3 x4 x5 x6 x7 x8 : Str} {v1 v2 v3 v4 v5 v6 v7 v8 : Value} (F : Fr h₀ L h m) (h1 : m x1 = some v1) (h2 : m x2 = some v2) (h3 : m x3 = some v3) (h4 : m x4 = some v4) (h5 : m x5 = some v5) (h6 : m x6 = some v6) (h7 : m x7 = some v7) (h8 : m x8 = some v8) : Fr h₀ L h (fun y => if y = x1 then some v1 else if y = x2 then some v2 else if y = x3 then some v3 else if y = x4 then some v4 else if y = x5 then some v5 else if y = x6 then some v6 else if y = x7 then some v7 else if y = x8 then some v8 else m y) := by
  refine fr_map F fun y => ?_
  by_cases e1 : y = x1
  · rw [if_pos e1, e1, h1]
  rw [if_neg e1]
  by_cases e2 : y = x2
  · rw [if_pos e2, e2, h2]
  rw [if_neg e2]
  by_cases e3 : y = x3
  · rw [if_pos e3, e3, h3]
  rw [if_neg e3]
  by_cases e4 : y = x4
  · rw [if_pos e4, e4, h4]
  rw [if_neg e4]
  by_cases e5 : y = x5
  · rw [if_pos e5, e5, h5]
  rw [if_neg e5]
  by_cases e6 : y = x6
  · rw [if_pos e6, e6, h6]
  rw [if_neg e6]
  by_cases e7 : y = x7
  · rw [if_pos e7, e7, h7]
  rw [if_neg e7]
  by_cases e8 : y = x8
  · rw [if_pos e8, e8, h8]
  rw [if_neg e8]
theorem lookup1 {k : Str} {v : Value} (y : Str) : List.lookup y [(k, v)] = if y = k then some v else none := by
  rw [List.lookup_cons]
  by_cases h : y = k
  · rw [if_pos h, beq_iff_eq.mpr h]
  · rw [if_neg h, beq_eq_false_iff_ne.mpr h]; rfl
theorem lookup2 {k k2 : Str} {v v2 : Value} (y : Str) : List.lookup y [(k, v), (k2, v2)] = if y = k then some v else if y = k2 then some v2 else none := by
  rw [List.lookup_cons, ← lookup1]
  by_cases h : y = k
  · rw [if_pos h, beq_iff_eq.mpr h]
  · rw [if_neg h, beq_eq_false_iff_ne.mpr h]
theorem lookup3 {k k2 k3 : Str} {v v2 v3 : Value} (y : Str) : List.lookup y [(k, v), (k2, v2), (k3, v3)] = if y = k then some v else if y = k2 then some v2 else if y = k3 then some v3 else none := by
  rw [List.lookup_cons, ← lookup2]
  by_cases h : y = k
  · rw [if_pos h, beq_iff_eq.mpr h]
  · rw [if_neg h, beq_eq_false_iff_ne.mpr h]
theorem news_name {h₀ h : Heap} {L a : Addr} {o : Obj} {rest : List (Addr × Obj)} (N : News h₀ L h ((a, o) :: rest)) {P : Prop} (k : ∀ b r, b = a → r = rest → News h₀ L h ((b, o) :: r) → P) : P := k a rest rfl rfl N
theorem fr_over {h₀ h : Heap} {L : Addr} {m₁ m₀ : Str → Option Value} {x : Str} {v : Value} (F : Fr h₀ L h (fun y => if y = x then some v else m₁ y)) (e : ∀ z, z ≠ x → m₁ z = m₀ z) : Fr h₀ L h (fun y => if y = x then some v else m₀ y) := by
  have q : (fun y => if y = x then some v else m₁ y) = fun y => if y = x then some v else m₀ y := by
    funext y
    by_cases h : y = x
    · simp [h]
    · simp only [if_neg h]; exact e y h
  rw [← q]; exact F
theorem fr_done {h₀ h : Heap} {L : Addr} {m₁ m₀ : Str → Option Value} {x : Str} (F : Fr h₀ L h m₁) (e : ∀ z, z ≠ x → m₁ z = m₀ z) : Fr h₀ L h (fun y => if y = x then m₁ x else m₀ y) := by
  have q : m₁ = fun y => if y = x then m₁ x else m₀ y := by
    funext y
    by_cases h : y = x
    · simp [h]
    · simp only [if_neg h]; exact e y h
  rw [← q]; exact F
theorem over_ne {m₀ : Str → Option Value} {x : Str} {v : Option Value} : ∀ z, z ≠ x → (fun y => if y = x then v else m₀ y) z = m₀ z := fun _ h => if_neg h
theorem fr_known {h₀ h : Heap} {L : Addr} {m : Str → Option Value} {x : Str} {v : Value} (F : Fr h₀ L h m) (hv : m x = some v) : Fr h₀ L h (fun y => if y = x then some v else m y) := by
  have e : (fun y => if y = x then some v else m y) = m := by
    funext y
    by_cases h : y = x
    · rw [if_pos h, h, hv]
    · rw [if_neg h]
  rw [e]; exact F
end
end

local macro_rules | `(tactic| k_all) => `(tactic| first | assumption | exact allLt_ne (by assumption))
open PySem.Calls
theorem ru {u a b c : Nat} (h : u + a < c) (hb : b ≤ a := by decide) : u + b < c := Nat.lt_of_le_of_lt (Nat.add_le_add_left hb u) h
theorem rm0 {u a c : Nat} (h : u + a < c) : u < c := Nat.lt_of_le_of_lt (Nat.le_add_right u a) h
theorem rm2 {u a c : Nat} (h : u + a < c) (hb : 2 ≤ a := by decide) : u + 2 < c := Nat.lt_of_le_of_lt (Nat.add_le_add_left hb u) h
theorem rm3 {u a c : Nat} (h : u + a < c) (hb : 3 ≤ a := by decide) : u + 3 < c := Nat.lt_of_le_of_lt (Nat.add_le_add_left hb u) h
theorem rm4 {u a c : Nat} (h : u + a < c) (hb : 4 ≤ a := by decide) : u + 4 < c := Nat.lt_of_le_of_lt (Nat.add_le_add_left hb u) h
theorem rm6 {u a c : Nat} (h : u + a < c) (hb : 6 ≤ a := by decide) : u + 6 < c := Nat.lt_of_le_of_lt (Nat.add_le_add_left hb u) h

/-! C1 -/
section
open PySem.Calls
noncomputable def IsQ (a b : Flow → Shared → Prop) : Prop := a = b
theorem gen_QE {M : Model} {A : Around} {body : List Stmt} {env : Env} {Q : Flow → Shared → Prop} {E : Value → Shared → Prop} {s : Shared} (hp : PassesOwn M A env E) (h : ∀ Q' E', IsQ Q' Q → PassesOwn M A env E' → wpAny M A (execs body env) Q' E' s) : wpAny M A (execs body env) Q E s := h Q E rfl hp
theorem gen_exec {M : Model} {A : Around} {st : Stmt} {env : Env} {Q : Flow → Shared → Prop} {E : Value → Shared → Prop} {s : Shared} (h : ∀ P, IsQ P Q → wpAny M A (exec st env) P E s) : wpAny M A (exec st env) Q E s := h Q rfl
theorem isq_back {Q Q₀ : Flow → Shared → Prop} {f : Flow} {s : Shared} (e : IsQ Q Q₀) (h : Q₀ f s) : Q f s := by
  unfold IsQ at e
  rw [e]; exact h
noncomputable abbrev PG : Program := PySem.Challenge.rw_il0059_01.row.prog

section
variable {w : World} {mean : ExcName → Option Value} {mg mb : Str → Option Value} {dp un : Nat} {gd : Option (List Code)} {cn : Str} {cs : Scope} {a : Addr} {ccd : Value} {cl : List (Str × Addr)} {outer : List Env} {A₀ : Around} {base h₀ : Heap} {L : Addr} {m : Str → Option Value} {news : List (Addr × Obj)} {s : Shared} {Q E : Value → Shared → Prop}

theorem fspath_tells {p : Str} {tk : Tok}
  (B : Below A₀ base outer h₀) (F : Fr h₀ L s.heap m) (X : (_root_.Mine.hd.heap_1 w.params).In h₀) (N : News h₀ L s.heap news) (T : Top _root_.Mine.hd.view_1 (looseW _root_.Mine.hd.view_1 []) mean mg mb h₀) (hk : cs.kind = .function)
  (hd : dp + 1 < recursionLimit) (hu : un + 20 < cLine) 
  (hret : ∀ h' tk', Fr h₀ L h' m → News h₀ L h' news → Q (.str p tk) { s with heap := h', toks := tk' }) :
    wpAny (model PG w) (ktrTop dp un gd cn cs L a ccd cl outer) (call (.ref 129) [.str p tk]) Q E s := by
  (w_top off; have dummyFill : (∀ (_ : PySem.Challenge.rw_il0059_01 = PySem.Challenge.rw_il0059_01) (_ : _root_.Mine.hd.heap_1 = _root_.Mine.hd.heap_1), True) := (by k_fill; intros; trivial); clear dummyFill)
  refine wpAny_call ?_
  k_dflt cell_enter
  (repeat' (first | ((with_reducible show wpAny _ _ (call (Value.builtin "issubclass") _) _ _ _); (k_here; refine' issub_str ?qk1 ?_; (case qk1 => exact News.get (by assumption) (by k_mem)))) | (with_reducible ((with_reducible show wpAny _ _ (eval (PySem.Expr.Name _ _) _) _ _ _); (k_dflt (refine' ld ?qk1 ?qk2 ?_; (case qk1 => k_asm); (case qk2 => exact rfl); k_whole)))) | (k_unfold; (try dsimp only)) | (k_end; wrow_close) | walk1 | (dsimp only; walk1) | (leave1; walk_say "STEP leave1"; try dsimp only) | fail "no step"))
  all_goals exact hret _ _ (by k_asm) (by ((first | with_reducible assumption | (refine' cb_drop ?cbN ?cbS; (case cbN => assumption); (case cbS => kcj_all)))))
end
end

/-! C2 -/
section
open PySem.Calls

section
variable {w : World} {mean : ExcName → Option Value} {mg mb : Str → Option Value} {dp un : Nat} {gd : Option (List Code)} {cn : Str} {cs : Scope} {a : Addr} {ccd : Value} {cl : List (Str × Addr)} {outer : List Env} {A₀ : Around} {base h₀ : Heap} {L : Addr} {m : Str → Option Value} {news : List (Addr × Obj)} {s : Shared} {Q E : Value → Shared → Prop}


theorem getsep_tells {p : Str} {tk : Tok}
  (B : Below A₀ base outer h₀) (F : Fr h₀ L s.heap m) (X : (_root_.Mine.hd.heap_1 w.params).In h₀) (N : News h₀ L s.heap news) (T : Top _root_.Mine.hd.view_1 (looseW _root_.Mine.hd.view_1 []) mean mg mb h₀) (hk : cs.kind = .function)
  (hd : dp + 1 < recursionLimit) (hu : un + 20 < cLine) 
  (hret : ∀ t h' tk', Fr h₀ L h' m → News h₀ L h' news → Q (.str (Str.ofString "/") t) { s with heap := h', toks := tk' }) :
    wpAny (model PG w) (ktrTop dp un gd cn cs L a ccd cl outer) (call (.ref 143) [.str p tk]) Q E s := by
  (w_top off; have dummyFill : (∀ (_ : PySem.Challenge.rw_il0059_01 = PySem.Challenge.rw_il0059_01) (_ : _root_.Mine.hd.heap_1 = _root_.Mine.hd.heap_1), True) := (by k_fill; intros; trivial); clear dummyFill)
  refine wpAny_call ?_
  k_dflt cell_enter
  (repeat' (first | (with_reducible (k_here; (with_reducible show wpAny _ _ (call (Value.ref 129) [Value.str _ _]) _ _ _); k_dflt (refine' fspath_tells ?qB ?qF ?qX ?qN ?qT ?qhk ?qhd ?qhu ?_; (  (case qB => k_asm); (case qF => k_asm); (case qX => k_asm); (case qN => k_asm); (case qT => k_asm); (case qhk => first | exact rfl | assumption); (case qhd => ktr_room); (case qhu => ktr_units)); k_whole); intro h' tk' F' N'; (try k_sweep))) | (with_reducible ((with_reducible show wpAny _ _ (eval (PySem.Expr.Name _ _) _) _ _ _); (k_dflt (refine' ld ?qk1 ?qk2 ?_; (case qk1 => k_asm); (case qk2 => exact rfl); k_whole)))) | (k_unfold; (try dsimp only)) | (k_end; wrow_close) | walk1 | (dsimp only; walk1) | (leave1; walk_say "STEP leave1"; try dsimp only) | fail "no step"))
  all_goals exact hret _ _ _ (by k_asm) (by ((first | with_reducible assumption | (refine' cb_drop ?cbN ?cbS; (case cbN => assumption); (case cbS => kcj_all)))))

noncomputable def dirT (p : Str) : Str :=
  let head := Txt.slice p none (some (Txt.rfind p (Str.ofString "/") + 1))
  if (head.length : Int) ≠ 0 ∧ (head != Txt.mul (Str.ofString "/") (head.length : Int)) = true then Txt.rstripChars head (Str.ofString "/") else head
theorem dirT_1 {p : Str} (h1 : ((Txt.slice p none (some (Txt.rfind p (Str.ofString "/") + 1))).length : Int) ≠ 0) (h2 : (Txt.slice p none (some (Txt.rfind p (Str.ofString "/") + 1)) != Txt.mul (Str.ofString "/") ((Txt.slice p none (some (Txt.rfind p (Str.ofString "/") + 1))).length : Int)) = true) :
    Txt.rstripChars (Txt.slice p none (some (Txt.rfind p (Str.ofString "/") + 1))) (Str.ofString "/") = dirT p := by
  unfold dirT; dsimp only; rw [if_pos ⟨h1, h2⟩]
theorem dirT_2 {p : Str} (h2 : (Txt.slice p none (some (Txt.rfind p (Str.ofString "/") + 1)) != Txt.mul (Str.ofString "/") ((Txt.slice p none (some (Txt.rfind p (Str.ofString "/") + 1))).length : Int)) = false) :
    Txt.slice p none (some (Txt.rfind p (Str.ofString "/") + 1)) = dirT p := by
  unfold dirT; dsimp only; rw [if_neg (fun x => by rw [h2] at x; cases x.2)]
theorem dirT_3 {p : Str} (h1 : ¬ ((Txt.slice p none (some (Txt.rfind p (Str.ofString "/") + 1))).length : Int) ≠ 0) :
    Txt.slice p none (some (Txt.rfind p (Str.ofString "/") + 1)) = dirT p := by
  unfold dirT; dsimp only; rw [if_neg (fun x => h1 x.1)]
theorem ret_str {h₀ : Heap} {L : Addr} {m : Str → Option Value} {news : List (Addr × Obj)} {s : Shared} {Q : Value → Shared → Prop} {x y : Str} {t : Tok} {h' : Heap} {tk' : Nat}
    (hret : ∀ t h' tk', Fr h₀ L h' m → News h₀ L h' news → Q (.str x t) { s with heap := h', toks := tk' }) (e : y = x) (F : Fr h₀ L h' m) (N : News h₀ L h' news) : Q (.str y t) { s with heap := h', toks := tk' } := by
  subst e; exact hret _ _ _ F N

theorem dirname_tells {p : Str} {tk : Tok}
  (B : Below A₀ base outer h₀) (F : Fr h₀ L s.heap m) (X : (_root_.Mine.hd.heap_1 w.params).In h₀) (N : News h₀ L s.heap news) (T : Top _root_.Mine.hd.view_1 (looseW _root_.Mine.hd.view_1 []) mean mg mb h₀) (hk : cs.kind = .function)
  (hd : dp + 2 < recursionLimit) (hu : un + 40 < cLine) (hlen : p.length ≤ 1000)
  (hret : ∀ t h' tk', Fr h₀ L h' m → News h₀ L h' news → Q (.str (dirT p) t) { s with heap := h', toks := tk' }) :
    wpAny (model PG w) (ktrTop dp un gd cn cs L a ccd cl outer) (call (.ref 164) [.str p tk]) Q E s := by
  (w_top off; have dummyFill : (∀ (_ : PySem.Challenge.rw_il0059_01 = PySem.Challenge.rw_il0059_01) (_ : _root_.Mine.hd.heap_1 = _root_.Mine.hd.heap_1), True) := (by k_fill; intros; trivial); clear dummyFill)
  refine wpAny_call ?_
  k_dflt cell_enter
  (repeat' (first | (with_reducible (k_here; (with_reducible show wpAny _ _ (call (Value.ref 143) [Value.str _ _]) _ _ _); k_dflt (refine' getsep_tells ?qB ?qF ?qX ?qN ?qT ?qhk ?qhd ?qhu ?_; (  (case qB => k_asm); (case qF => k_asm); (case qX => k_asm); (case qN => k_asm); (case qT => k_asm); (case qhk => first | exact rfl | assumption); (case qhd => ktr_room); (case qhu => ktr_units)); k_whole); intro t' h' tk' F' N'; (try k_sweep))) | (with_reducible (k_here; (with_reducible show wpAny _ _ (call (Value.ref 129) [Value.str _ _]) _ _ _); k_dflt (refine' fspath_tells ?qB ?qF ?qX ?qN ?qT ?qhk ?qhd ?qhu ?_; (  (case qB => k_asm); (case qF => k_asm); (case qX => k_asm); (case qN => k_asm); (case qT => k_asm); (case qhk => first | exact rfl | assumption); (case qhd => ktr_room); (case qhu => ktr_units)); k_whole); intro h' tk' F' N'; (try k_sweep))) | (with_reducible ((with_reducible show wpAny _ _ (eval (PySem.Expr.Name _ _) _) _ _ _); (k_dflt (refine' ld ?qk1 ?qk2 ?_; (case qk1 => k_asm); (case qk2 => exact rfl); k_whole)))) | (k_unfold; (try dsimp only)) | (k_end; wrow_close) | walk1 | (dsimp only; walk1) | (leave1; walk_say "STEP leave1"; try dsimp only) | fail "no step"))
  all_goals refine ret_str (Q := Q) (s := s) hret ?_ (by k_asm) (by ((first | with_reducible assumption | (refine' cb_drop ?cbN ?cbS; (case cbN => assumption); (case cbS => kcj_all)))))
  · exact dirT_1 (by assumption) (by assumption)
  · exact dirT_2 (by assumption)
  · exact dirT_3 (by omega)
end
end

/-! C3 -/
section
open PySem.Calls

section
variable {w : World} {mean : ExcName → Option Value} {mg mb : Str → Option Value} {dp un : Nat} {gd : Option (List Code)} {cn : Str} {cs : Scope} {a : Addr} {ccd : Value} {cl : List (Str × Addr)} {outer : List Env} {A₀ : Around} {base h₀ : Heap} {L : Addr} {m : Str → Option Value} {news : List (Addr × Obj)} {s : Shared} {Q E : Value → Shared → Prop}


noncomputable def joinT (p q : Str) : Str := if Txt.startswith q (Str.ofString "/") = true ∨ p.length = 0 then q else if Txt.endswith p (Str.ofString "/") = true then p ++ q else p ++ (Str.ofString "/" ++ q)
theorem joinT_1 {p q : Str} (h : Txt.startswith q (Str.ofString "/") = true) : q = joinT p q := by unfold joinT; rw [if_pos (.inl h)]
theorem joinT_2 {p q : Str} (h : ¬ (p.length : Int) ≠ 0) : q = joinT p q := by unfold joinT; rw [if_pos (.inr (by omega))]
theorem joinT_3 {p q : Str} (h : Txt.startswith q (Str.ofString "/") = false) (h2 : (p.length : Int) ≠ 0) (h3 : Txt.endswith p (Str.ofString "/") = true) : p ++ q = joinT p q := by
  unfold joinT; rw [if_neg (by rw [h]; intro x; rcases x with x | x; cases x; omega), if_pos h3]
theorem joinT_4 {p q : Str} (h : Txt.startswith q (Str.ofString "/") = false) (h2 : (p.length : Int) ≠ 0) (h3 : Txt.endswith p (Str.ofString "/") = false) : p ++ (Str.ofString "/" ++ q) = joinT p q := by
  unfold joinT; rw [if_neg (by rw [h]; intro x; rcases x with x | x; cases x; omega), if_neg (by rw [h3]; intro x; cases x)]
theorem join_tells {p q : Str} {tk tq : Tok}
  (B : Below A₀ base outer h₀) (F : Fr h₀ L s.heap m) (X : (_root_.Mine.hd.heap_1 w.params).In h₀) (N : News h₀ L s.heap news) (T : Top _root_.Mine.hd.view_1 (looseW _root_.Mine.hd.view_1 []) mean mg mb h₀) (hk : cs.kind = .function)
  (hd : dp + 2 < recursionLimit) (hu : un + 40 < cLine) (hlen : p.length ≤ 1000) (hlenq : q.length ≤ 1000)
  (hret : ∀ t h' tk', Fr h₀ L h' m → News h₀ L h' news → Q (.str (joinT p q) t) { s with heap := h', toks := tk' }) :
    wpAny (model PG w) (ktrTop dp un gd cn cs L a ccd cl outer) (call (.ref 150) [.str p tk, .str q tq]) Q E s := by
  (w_top off; have dummyFill : (∀ (_ : PySem.Challenge.rw_il0059_01 = PySem.Challenge.rw_il0059_01) (_ : _root_.Mine.hd.heap_1 = _root_.Mine.hd.heap_1), True) := (by k_fill; intros; trivial); clear dummyFill)
  refine wpAny_call ?_
  k_dflt (refine' kp_rest ?k1 ?k2 ?k3 ?k4 ?k5 ?kA ?kF ?kK ?k6 ?k7 ?k8 ?kV ?kP ?kG ?kB ?_ ?c2 ?c3 ?c4 ?c5; (case kA => exact rfl); (case kF => exact rfl); (case kK => assumption); (case k1 => k_asm); (case k2 => k_asm); (case k3 => k_asm); (case k4 => k_asm); (case k5 => k_asm); (case k6 => k_is); (case k7 => k_is); (case k8 => first | exact rm0 hd | ktr_room); (case kV => kl_lit); (case kP => exact rfl); (case kG => exact fun _ => rfl); (case kB => exact fun _ => locs rfl); (case c5 => decide); (case c2 => exact rfl); (case c3 => exact rfl); (case c4 => exact rfl); k_whole; intro D' g' L' h' l1 FG' F' N' B' X' T'; (try k_lt l1); (try dsimp only); (try k_lift B'); (try k_fold))
  (repeat' (first | (with_reducible (k_here; (with_reducible show wpAny _ _ (call (Value.ref 143) [Value.str _ _]) _ _ _); k_dflt (refine' getsep_tells ?qB ?qF ?qX ?qN ?qT ?qhk ?qhd ?qhu ?_; (  (case qB => k_asm); (case qF => k_asm); (case qX => k_asm); (case qN => k_asm); (case qT => k_asm); (case qhk => first | exact rfl | assumption); (case qhd => ktr_room); (case qhu => ktr_units)); k_whole); intro t' h' tk' F' N'; (try k_sweep))) | (with_reducible (k_here; (with_reducible show wpAny _ _ (call (Value.ref 129) [Value.str _ _]) _ _ _); k_dflt (refine' fspath_tells ?qB ?qF ?qX ?qN ?qT ?qhk ?qhd ?qhu ?_; (  (case qB => k_asm); (case qF => k_asm); (case qX => k_asm); (case qN => k_asm); (case qT => k_asm); (case qhk => first | exact rfl | assumption); (case qhd => ktr_room); (case qhu => ktr_units)); k_whole); intro h' tk' F' N'; (try k_sweep))) | (with_reducible ((with_reducible show wpAny _ _ (eval (PySem.Expr.Name _ _) _) _ _ _); (k_dflt (refine' ld ?qk1 ?qk2 ?_; (case qk1 => k_asm); (case qk2 => exact rfl); k_whole)))) | (k_unfold; (try dsimp only)) | (k_end; wrow_close) | walk1 | (dsimp only; walk1) | (leave1; walk_say "STEP leave1"; try dsimp only) | fail "no step"))
  (with_reducible rename Fr _ _ _ _ => F1)
  (with_reducible rename News _ _ _ _ => N1)
  k_dflt refine' for_go F1 rfl rfl ?_
  (repeat' (first | (with_reducible (k_here; (with_reducible show wpAny _ _ (call (Value.ref 143) [Value.str _ _]) _ _ _); k_dflt (refine' getsep_tells ?qB ?qF ?qX ?qN ?qT ?qhk ?qhd ?qhu ?_; (  (case qB => k_asm); (case qF => k_asm); (case qX => k_asm); (case qN => k_asm); (case qT => k_asm); (case qhk => first | exact rfl | assumption); (case qhd => ktr_room); (case qhu => ktr_units)); k_whole); intro t' h' tk' F' N'; (try k_sweep))) | (with_reducible (k_here; (with_reducible show wpAny _ _ (call (Value.ref 129) [Value.str _ _]) _ _ _); k_dflt (refine' fspath_tells ?qB ?qF ?qX ?qN ?qT ?qhk ?qhd ?qhu ?_; (  (case qB => k_asm); (case qF => k_asm); (case qX => k_asm); (case qN => k_asm); (case qT => k_asm); (case qhk => first | exact rfl | assumption); (case qhd => ktr_room); (case qhu => ktr_units)); k_whole); intro h' tk' F' N'; (try k_sweep))) | (with_reducible ((with_reducible show wpAny _ _ (eval (PySem.Expr.Name _ _) _) _ _ _); (k_dflt (refine' ld ?qk1 ?qk2 ?_; (case qk1 => k_asm); (case qk2 => exact rfl); k_whole)))) | (k_unfold; (try dsimp only)) | (k_end; wrow_close) | walk1 | (dsimp only; walk1) | (leave1; walk_say "STEP leave1"; try dsimp only) | fail "no step"))
  (with_reducible rename Fr _ _ _ _ => F1)
  (with_reducible rename News _ _ _ _ => N1)
  k_dflt refine' iter_tup1 ?hh ?hl F1 N1 ?_
  case hh => exact rfl
  case hl => k_mem
  intro h2 tk2 own I hlt F2 N2
  (repeat' (first | (with_reducible (k_here; (with_reducible show wpAny _ _ (call (Value.ref 143) [Value.str _ _]) _ _ _); k_dflt (refine' getsep_tells ?qB ?qF ?qX ?qN ?qT ?qhk ?qhd ?qhu ?_; (  (case qB => k_asm); (case qF => k_asm); (case qX => k_asm); (case qN => k_asm); (case qT => k_asm); (case qhk => first | exact rfl | assumption); (case qhd => ktr_room); (case qhu => ktr_units)); k_whole); intro t' h' tk' F' N'; (try k_sweep))) | (with_reducible (k_here; (with_reducible show wpAny _ _ (call (Value.ref 129) [Value.str _ _]) _ _ _); k_dflt (refine' fspath_tells ?qB ?qF ?qX ?qN ?qT ?qhk ?qhd ?qhu ?_; (  (case qB => k_asm); (case qF => k_asm); (case qX => k_asm); (case qN => k_asm); (case qT => k_asm); (case qhk => first | exact rfl | assumption); (case qhd => ktr_room); (case qhu => ktr_units)); k_whole); intro h' tk' F' N'; (try k_sweep))) | (with_reducible ((with_reducible show wpAny _ _ (eval (PySem.Expr.Name _ _) _) _ _ _); (k_dflt (refine' ld ?qk1 ?qk2 ?_; (case qk1 => k_asm); (case qk2 => exact rfl); k_whole)))) | (k_unfold; (try dsimp only)) | (k_end; wrow_close) | walk1 | (dsimp only; walk1) | (leave1; walk_say "STEP leave1"; try dsimp only) | fail "no step"))
  all_goals (
    (with_reducible rename Fr _ _ _ _ => F3)
    (with_reducible rename News _ _ _ _ => N3)
    refine TurnEnd.intro F3 (news_swap N3) (fun p hp => Nat.ne_of_lt (hlt p hp)) ?_
    intro h4 tk4 F4 N4
    (repeat' (first | (with_reducible (k_here; (with_reducible show wpAny _ _ (call (Value.ref 143) [Value.str _ _]) _ _ _); k_dflt (refine' getsep_tells ?qB ?qF ?qX ?qN ?qT ?qhk ?qhd ?qhu ?_; (  (case qB => k_asm); (case qF => k_asm); (case qX => k_asm); (case qN => k_asm); (case qT => k_asm); (case qhk => first | exact rfl | assumption); (case qhd => ktr_room); (case qhu => ktr_units)); k_whole); intro t' h' tk' F' N'; (try k_sweep))) | (with_reducible (k_here; (with_reducible show wpAny _ _ (call (Value.ref 129) [Value.str _ _]) _ _ _); k_dflt (refine' fspath_tells ?qB ?qF ?qX ?qN ?qT ?qhk ?qhd ?qhu ?_; (  (case qB => k_asm); (case qF => k_asm); (case qX => k_asm); (case qN => k_asm); (case qT => k_asm); (case qhk => first | exact rfl | assumption); (case qhd => ktr_room); (case qhu => ktr_units)); k_whole); intro h' tk' F' N'; (try k_sweep))) | (with_reducible ((with_reducible show wpAny _ _ (eval (PySem.Expr.Name _ _) _) _ _ _); (k_dflt (refine' ld ?qk1 ?qk2 ?_; (case qk1 => k_asm); (case qk2 => exact rfl); k_whole)))) | (k_unfold; (try dsimp only)) | (k_end; wrow_close) | walk1 | (dsimp only; walk1) | (leave1; walk_say "STEP leave1"; try dsimp only) | fail "no step"))
    refine ret_str (Q := Q) (s := s) hret ?_ (by k_asm) (by ((first | with_reducible assumption | (refine' cb_drop ?cbN ?cbS; (case cbN => assumption); (case cbS => kcj_all))))))
  · exact joinT_1 (by assumption)
  · exact joinT_3 (by assumption) (by assumption) (by assumption)
  · exact joinT_4 (by assumption) (by assumption) (by assumption)
  · exact joinT_2 (by omega)

end
end

/-! C4 -/
section
open PySem.Calls

section
variable {w : World} {mean : ExcName → Option Value} {mg mb : Str → Option Value} {dp un : Nat} {gd : Option (List Code)} {cn : Str} {cs : Scope} {a : Addr} {ccd : Value} {cl : List (Str × Addr)} {outer : List Env} {A₀ : Around} {base h₀ : Heap} {L : Addr} {m : Str → Option Value} {news : List (Addr × Obj)} {s : Shared} {Q E : Value → Shared → Prop}

theorem splitroot_tells {p : Str} {tk : Tok}
  (B : Below A₀ base outer h₀) (F : Fr h₀ L s.heap m) (X : (_root_.Mine.hd.heap_1 w.params).In h₀) (N : News h₀ L s.heap news) (T : Top _root_.Mine.hd.view_1 (looseW _root_.Mine.hd.view_1 []) mean mg mb h₀) (hk : cs.kind = .function)
  (hd : dp + 2 < recursionLimit) (hu : un + 40 < cLine) (hlen : p.length ≤ 1000) (h1 : Txt.slice p none (some 1) = Str.ofString "/") (h2 : Txt.slice p (some 1) (some 2) ≠ Str.ofString "/")
  (hret : ∀ t1 t2 t3 D h' tk', Fr h₀ L h' m → News h₀ L h' ((D, { cls := .type "tuple", data := .seq #[.str (Str.ofString "") t1, .str (Str.ofString "/") t2, .str (Txt.slice p (some 1) none) t3] }) :: news) → Q (.ref D) { s with heap := h', toks := tk' }) :
    wpAny (model PG w) (ktrTop dp un gd cn cs L a ccd cl outer) (call (.ref 157) [.str p tk]) Q E s := by
  (w_top off; have dummyFill : (∀ (_ : PySem.Challenge.rw_il0059_01 = PySem.Challenge.rw_il0059_01) (_ : _root_.Mine.hd.heap_1 = _root_.Mine.hd.heap_1), True) := (by k_fill; intros; trivial); clear dummyFill)
  refine wpAny_call ?_
  k_dflt cell_enter
  (repeat' (first | (with_reducible (k_here; (with_reducible show wpAny _ _ (call (Value.ref 143) [Value.str _ _]) _ _ _); k_dflt (refine' getsep_tells ?qB ?qF ?qX ?qN ?qT ?qhk ?qhd ?qhu ?_; (  (case qB => k_asm); (case qF => k_asm); (case qX => k_asm); (case qN => k_asm); (case qT => k_asm); (case qhk => first | exact rfl | assumption); (case qhd => ktr_room); (case qhu => ktr_units)); k_whole); intro t' h' tk' F' N'; (try k_sweep))) | (with_reducible (k_here; (with_reducible show wpAny _ _ (call (Value.ref 129) [Value.str _ _]) _ _ _); k_dflt (refine' fspath_tells ?qB ?qF ?qX ?qN ?qT ?qhk ?qhd ?qhu ?_; (  (case qB => k_asm); (case qF => k_asm); (case qX => k_asm); (case qN => k_asm); (case qT => k_asm); (case qhk => first | exact rfl | assumption); (case qhd => ktr_room); (case qhu => ktr_units)); k_whole); intro h' tk' F' N'; (try k_sweep))) | (with_reducible ((with_reducible show wpAny _ _ (eval (PySem.Expr.Name _ _) _) _ _ _); (k_dflt (refine' ld ?qk1 ?qk2 ?_; (case qk1 => k_asm); (case qk2 => exact rfl); k_whole)))) | (k_unfold; (try dsimp only)) | (k_end; wrow_close) | walk1 | (dsimp only; walk1) | (leave1; walk_say "STEP leave1"; try dsimp only) | fail "no step"))
  all_goals first
    | (exfalso; simp_all; done)
    | exact hret _ _ _ _ _ _ (by k_asm) (by ((first | with_reducible assumption | (refine' cb_drop ?cbN ?cbS; (case cbN => assumption); (case cbS => kcj_all)))))
end
end

/-! C5 -/
section
open PySem.Calls

section
variable {w : World} {mean : ExcName → Option Value} {mg mb : Str → Option Value} {dp un : Nat} {gd : Option (List Code)} {cn : Str} {cs : Scope} {a : Addr} {ccd : Value} {cl : List (Str × Addr)} {outer : List Env} {A₀ : Around} {base h₀ : Heap} {L : Addr} {m : Str → Option Value} {news : List (Addr × Obj)} {s : Shared} {Q E : Value → Shared → Prop}


noncomputable abbrev S (x : String) : Str := Str.ofString x
noncomputable def accN (segs : List Str) (i : Nat) : List Str := if i = 0 then [] else if i ≤ 2 then [S "m"] else if i = 3 then [S "m", S "z"] else S "m" :: segs.take (i - 4)
theorem strsAre_get : ∀ {vs : List Value} {ss : List Str}, StrsAre vs ss → ∀ {i : Nat} {v : Value}, vs[i]? = some v → ∃ x t, v = .str x t ∧ ss[i]? = some x
  | _, _, .nil, i, v, h => by cases i <;> cases h
  | _, _, .cons y t r, 0, v, h => ⟨y, t, (Option.some.inj h).symm, rfl⟩
  | _, _, .cons y t r, i + 1, v, h => strsAre_get r (i := i) h
theorem strsAre_append : ∀ {vs ws : List Value} {ss ts : List Str}, StrsAre vs ss → StrsAre ws ts → StrsAre (vs ++ ws) (ss ++ ts)
  | _, _, _, _, .nil, h => h
  | _, _, _, _, .cons y t r, h => .cons y t (strsAre_append r h)
theorem strsAre_len : ∀ {vs : List Value} {ss : List Str}, StrsAre vs ss → vs.length = ss.length
  | _, _, .nil => rfl
  | _, _, .cons y t r => by rw [List.length_cons, List.length_cons, strsAre_len r]

theorem sub_neg {prog : Program} {w : World} {A : Around} {E : Value → Shared → Prop} {s : Shared} {value slice : PySem.Expr} {l : Addr} {items : Array Value} {k : Int} {u : Tok} {v : Value} {Q : Value → Shared → Prop}
    (hl : s.heap.IsList l items) (h0 : k < 0) (h1 : -(items.size : Int) ≤ k) (hfit : -(2 ^ 63) ≤ k) (hx : items[(k + items.size).toNat]? = some v) (h : Q v s)
    (hs : subscripted slice false (.ref l) (.int k u) = operate [.ref l, .int k u] (getItem (.ref l) (.int k u)) := by with_unfolding_all rfl) :
    wpAny (model prog w) A (subscriptTail value slice (.ref l) (.int k u)) Q E s :=
  tail_any hl.typeIs slot_list_getitem.lookup (wpAny_getItem_list_neg hl h0 h1 hfit hx h) hs
theorem isList_news {h₀ h : Heap} {L a : Addr} {news : List (Addr × Obj)} {items : Array Value} {n : Nat} (N : News h₀ L h news) (hm : (a, listOf items n) ∈ news) : h.IsList a items := ⟨_, (N _ hm).1, rfl, n, rfl⟩
theorem sum_ones : ∀ {segs : List Str}, (∀ c ∈ segs, c.length = 1 ∧ c ≠ S ".") → (segs.map (·.length)).sum = segs.length
  | [], _ => rfl
  | c :: r, h => by
    rw [List.map_cons, List.sum_cons, (h c (.head _)).1, sum_ones fun d hd => h d (.tail _ hd), List.length_cons]; omega
theorem one_ne {c : Str} (h : c.length = 1) : c ≠ S ".." := fun e => by rw [e] at h; revert h; decide
theorem turn_end {h₀ : Heap} {L I NC : Addr} {m0 : Str → Option Value} {x : Str} {segs : List Str} {i n : Nat} {items : Array Value} {rest own tl : List (Addr × Obj)} {s₁ : Shared} {h' : Heap} {tk : Nat} {v : Value}
    (F : Fr h₀ L h' (fun y => if y = x then some v else m0 y)) (N : News h₀ L h' ((NC, listOf items n) :: tl)) (htl : tl = rest ++ own) (hI : ∀ p ∈ rest, p.1 ≠ I) (hNI : NC ≠ I) (hS : StrsAre items.toList (accN segs i)) :
    TurnEnd h₀ L own I (fun m₁ nx => (∀ z, z ≠ x → m₁ z = m0 z) ∧ ∃ items n, nx = (NC, listOf items n) :: rest ∧ StrsAre items.toList (accN segs i)) s₁ { s₁ with heap := h', toks := tk } := by
  subst htl
  refine TurnEnd.intro (nx := (NC, listOf items n) :: rest) F (fun p hp => N p ?_) (fun p hp => ?_) ⟨over_ne, _, _, rfl, hS⟩
  · rcases List.mem_append.mp hp with hp | hp
    · exact .tail _ (List.mem_append_right _ hp)
    · rcases List.mem_cons.mp hp with rfl | hp
      · exact .head _
      · exact .tail _ (List.mem_append_left _ hp)
  · rcases List.mem_cons.mp hp with rfl | hp
    · exact hNI
    · exact hI p hp

theorem join_len : ∀ {sep : Str} {xs : List Str}, (Txt.join sep xs).length ≤ (xs.map (·.length)).sum + xs.length * sep.length := by
  intro sep xs
  unfold Txt.join
  rw [StrLaws.glued_eq_join]
  induction xs with
  | nil => exact Nat.zero_le _
  | cons x r ih =>
    cases r with
    | nil => simp [Str.join]
    | cons y r =>
      show (x ++ sep ++ Str.join sep (y :: r)).length ≤ _
      rw [Str.length_append, Str.length_append, List.map_cons, List.sum_cons, List.length_cons, Nat.succ_mul]
      omega

theorem normpath_tells {p : Str} {tk : Tok}
  (B : Below A₀ base outer h₀) (F : Fr h₀ L s.heap m) (X : (_root_.Mine.hd.heap_1 w.params).In h₀) (N : News h₀ L s.heap news) (T : Top _root_.Mine.hd.view_1 (looseW _root_.Mine.hd.view_1 []) mean mg mb h₀) (hk : cs.kind = .function)
  (hd : dp + 3 < recursionLimit) (hu : un + 60 < cLine) (hlen : p.length ≤ 1000) (h0 : (p.length : Int) ≠ 0) (h1 : Txt.slice p none (some 1) = Str.ofString "/") (h2 : Txt.slice p (some 1) (some 2) ≠ Str.ofString "/") {segs : List Str}
  (hsp : Txt.split (Txt.slice p (some 1) none) (Str.ofString "/") = S "m" :: S "." :: S "z" :: S ".." :: segs) (hseg : ∀ c ∈ segs, c.length = 1 ∧ c ≠ S ".") (hsl : segs.length ≤ 20)
  (hret : ∀ t h' tk', Fr h₀ L h' m → News h₀ L h' news → Q (.str (S "/" ++ Txt.join (S "/") (S "m" :: segs)) t) { s with heap := h', toks := tk' }) :
    wpAny (model PG w) (ktrTop dp un gd cn cs L a ccd cl outer) (call (.ref 171) [.str p tk]) Q E s := by
  (w_top off; have dummyFill : (∀ (_ : PySem.Challenge.rw_il0059_01 = PySem.Challenge.rw_il0059_01) (_ : _root_.Mine.hd.heap_1 = _root_.Mine.hd.heap_1), True) := (by k_fill; intros; trivial); clear dummyFill)
  refine wpAny_call ?_
  k_dflt (refine' code_def ?k1 ?k2 ?k3 ?k4 ?k5 ?kA ?kF ?kK ?k6 ?k7 ?k8 ?k9 ?kB ?_ ?c2 ?c3 ?c4 ?c5; (case kA => exact rfl); (case kF => exact rfl); (case kK => assumption); (case k1 => k_asm); (case k2 => k_asm); (case k3 => k_asm); (case k4 => k_asm); (case k5 => k_asm); (case k6 => k_is); (case k7 => k_is); (case k8 => first | exact rm0 hd | ktr_room); (case k9 => exact BindsTo.of_eq rfl); (case c5 => decide); (case kB => exact locs rfl); (case c2 => exact rfl); (case c3 => exact rfl); (case c4 => exact rfl); k_whole; intro g' L' h' FG' F' N' B' X' T'; (try dsimp only); (try k_fold))
  replace F' : Fr g' L' h' (fun y => if y = Str.ofString "path" then some (.str p tk) else none) := fr_map F' (fun y => lookup1 y)
  (repeat' ((fail_if_success (with_reducible first | show wpAny _ _ (pyIter _) _ _ _ | show wpAny _ _ (exec (Stmt.While _ _ _ _) _) _ _ _ | show wpAny _ _ (exec (Stmt.For _ _ _ _ _) _) _ _ _ | show TurnEnd _ _ _ _ _ _ _ | show TurnPost _ _ _ _ _ _ _ _ _ | show WhileStep _ _ _ _ _ _ _ | show WhileStep2 _ _ _ _ _ _ _ _ | show wpAny _ _ (eval (Expr.ListComp _ _ _ _) _) _ _ _ | show wpAny _ _ (exec (Stmt.Assign _ (Expr.ListComp _ _ _ _) _) _) _ _ _ | show wpAny _ _ (call (Value.builtin "sorted") _) _ _ _ | show wpAny _ _ (call (Value.builtin "sum") _) _ _ _ | show wpAny _ _ (call (Value.type "enumerate") _) _ _ _ | show wpAny _ _ (call (Value.type "range") _) _ _ _ | show wpAny _ _ (binaryOp _ (Value.ref _) (Value.ref _)) _ _ _ | show wpAny _ _ (call (Value.ref _) (Value.ref _ :: _)) _ _ _ | show wpAny _ _ (call (Value.ref 178) _) _ _ _)); first | ((with_reducible refine' isq_back ?e9 ?_); (case e9 => with_reducible assumption); (try dsimp only)) | ((with_reducible show wpAny _ _ (exec _ _) _ _ _); (refine gen_exec ?_); intro P9 hP9; walk1) | (k_unfold; (try dsimp only)) | (with_reducible (k_here; (with_reducible show wpAny _ _ (subscriptTail _ _ (Value.ref _) (Value.int (-1) _)) _ _ _); refine' sub_neg ?qk1 ?qk2 ?qk3 ?qk4 ?qk5 ?_; (case qk1 => exact isList_news (by k_asm) (by k_mem)); (case qk2 => decide); (case qk3 => decide); (case qk4 => decide); (case qk5 => rfl))) | (with_reducible (k_here; (with_reducible show wpAny _ _ (call (Value.ref 157) [Value.str _ _]) _ _ _); k_dflt (refine' splitroot_tells ?qB ?qF ?qX ?qN ?qT ?qhk ?qhd ?qhu ?qhl ?qh1 ?qh2 ?_; (  (case qB => k_asm); (case qF => k_asm); (case qX => k_asm); (case qN => k_asm); (case qT => k_asm); (case qhk => first | exact rfl | assumption); (case qhd => ktr_room); (case qhu => ktr_units)); (case qhl => (first | (with_reducible assumption) | omega | assumption)); (case qh1 => (first | (with_reducible assumption) | omega | assumption)); (case qh2 => (first | (with_reducible assumption) | omega | assumption)); k_whole); intro t1 t2 t3 D' h' tk' F' N'; (try k_sweep))) | (with_reducible (k_here; (with_reducible show wpAny _ _ (call (Value.ref 143) [Value.str _ _]) _ _ _); k_dflt (refine' getsep_tells ?qB ?qF ?qX ?qN ?qT ?qhk ?qhd ?qhu ?_; (  (case qB => k_asm); (case qF => k_asm); (case qX => k_asm); (case qN => k_asm); (case qT => k_asm); (case qhk => first | exact rfl | assumption); (case qhd => ktr_room); (case qhu => ktr_units)); k_whole); intro t' h' tk' F' N'; (try k_sweep))) | (with_reducible (k_here; (with_reducible show wpAny _ _ (call (Value.ref 129) [Value.str _ _]) _ _ _); k_dflt (refine' fspath_tells ?qB ?qF ?qX ?qN ?qT ?qhk ?qhd ?qhu ?_; (  (case qB => k_asm); (case qF => k_asm); (case qX => k_asm); (case qN => k_asm); (case qT => k_asm); (case qhk => first | exact rfl | assumption); (case qhd => ktr_room); (case qhu => ktr_units)); k_whole); intro h' tk' F' N'; (try k_sweep))) | (with_reducible ((with_reducible show wpAny _ _ (eval (PySem.Expr.Name _ _) _) _ _ _); (k_dflt (refine' ld ?qk1 ?qk2 ?_; (case qk1 => k_asm); (case qk2 => exact rfl); k_whole)))) | walk1 | (dsimp only; walk1)))
  · (with_reducible rename Fr _ _ _ _ => F1)
    (with_reducible rename News _ _ _ _ => N1)
    (refine gen_exec ?_); intro P8 hP8
    k_dflt refine' for_go F1 rfl rfl ?_
    (repeat' ((fail_if_success (with_reducible first | show wpAny _ _ (pyIter _) _ _ _ | show wpAny _ _ (exec (Stmt.While _ _ _ _) _) _ _ _ | show wpAny _ _ (exec (Stmt.For _ _ _ _ _) _) _ _ _ | show TurnEnd _ _ _ _ _ _ _ | show TurnPost _ _ _ _ _ _ _ _ _ | show WhileStep _ _ _ _ _ _ _ | show WhileStep2 _ _ _ _ _ _ _ _ | show wpAny _ _ (eval (Expr.ListComp _ _ _ _) _) _ _ _ | show wpAny _ _ (exec (Stmt.Assign _ (Expr.ListComp _ _ _ _) _) _) _ _ _ | show wpAny _ _ (call (Value.builtin "sorted") _) _ _ _ | show wpAny _ _ (call (Value.builtin "sum") _) _ _ _ | show wpAny _ _ (call (Value.type "enumerate") _) _ _ _ | show wpAny _ _ (call (Value.type "range") _) _ _ _ | show wpAny _ _ (binaryOp _ (Value.ref _) (Value.ref _)) _ _ _ | show wpAny _ _ (call (Value.ref _) (Value.ref _ :: _)) _ _ _ | show wpAny _ _ (call (Value.ref 178) _) _ _ _)); first | ((with_reducible refine' isq_back ?e9 ?_); (case e9 => with_reducible assumption); (try dsimp only)) | ((with_reducible show wpAny _ _ (exec _ _) _ _ _); (refine gen_exec ?_); intro P9 hP9; walk1) | (k_unfold; (try dsimp only)) | (with_reducible (k_here; (with_reducible show wpAny _ _ (subscriptTail _ _ (Value.ref _) (Value.int (-1) _)) _ _ _); refine' sub_neg ?qk1 ?qk2 ?qk3 ?qk4 ?qk5 ?_; (case qk1 => exact isList_news (by k_asm) (by k_mem)); (case qk2 => decide); (case qk3 => decide); (case qk4 => decide); (case qk5 => rfl))) | (with_reducible (k_here; (with_reducible show wpAny _ _ (call (Value.ref 157) [Value.str _ _]) _ _ _); k_dflt (refine' splitroot_tells ?qB ?qF ?qX ?qN ?qT ?qhk ?qhd ?qhu ?qhl ?qh1 ?qh2 ?_; (  (case qB => k_asm); (case qF => k_asm); (case qX => k_asm); (case qN => k_asm); (case qT => k_asm); (case qhk => first | exact rfl | assumption); (case qhd => ktr_room); (case qhu => ktr_units)); (case qhl => (first | (with_reducible assumption) | omega | assumption)); (case qh1 => (first | (with_reducible assumption) | omega | assumption)); (case qh2 => (first | (with_reducible assumption) | omega | assumption)); k_whole); intro t1 t2 t3 D' h' tk' F' N'; (try k_sweep))) | (with_reducible (k_here; (with_reducible show wpAny _ _ (call (Value.ref 143) [Value.str _ _]) _ _ _); k_dflt (refine' getsep_tells ?qB ?qF ?qX ?qN ?qT ?qhk ?qhd ?qhu ?_; (  (case qB => k_asm); (case qF => k_asm); (case qX => k_asm); (case qN => k_asm); (case qT => k_asm); (case qhk => first | exact rfl | assumption); (case qhd => ktr_room); (case qhu => ktr_units)); k_whole); intro t' h' tk' F' N'; (try k_sweep))) | (with_reducible (k_here; (with_reducible show wpAny _ _ (call (Value.ref 129) [Value.str _ _]) _ _ _); k_dflt (refine' fspath_tells ?qB ?qF ?qX ?qN ?qT ?qhk ?qhd ?qhu ?_; (  (case qB => k_asm); (case qF => k_asm); (case qX => k_asm); (case qN => k_asm); (case qT => k_asm); (case qhk => first | exact rfl | assumption); (case qhd => ktr_room); (case qhu => ktr_units)); k_whole); intro h' tk' F' N'; (try k_sweep))) | (with_reducible ((with_reducible show wpAny _ _ (eval (PySem.Expr.Name _ _) _) _ _ _); (k_dflt (refine' ld ?qk1 ?qk2 ?_; (case qk1 => k_asm); (case qk2 => exact rfl); k_whole)))) | walk1 | (dsimp only; walk1)))
    (with_reducible rename Fr _ _ _ _ => F1)
    (with_reducible rename News _ _ _ _ => N1)
    (rename StrsAre _ _ => hS)
    (rename List.map _ _ = Txt.split _ _ => hq)
    (rename _ ∧ _ ∧ AllLt _ _ => hl1)
    rw [hsp] at hq
    rw [hq] at hS
    obtain ⟨hc1, hc2, hc3⟩ := hl1
    generalize hCM : Array.size _ = CM at *
    generalize strValues _ = vs at *
    have hlS := strsAre_len hS
    refine news_name N1 fun NC rest e1 hrest N5 => ?_
    subst e1
    have hCMr : (CM, ({ cls := Value.type "list", data := Data.seq vs.toArray } : Obj)) ∈ rest := by rw [hrest]; exact .head _
    have hNe : ∀ p ∈ rest, p.1 ≠ NC := by
      rw [hrest]
      intro p hp
      rcases List.mem_cons.mp hp with rfl | hp
      · exact Nat.ne_of_lt hc1
      · rcases List.mem_cons.mp hp with rfl | hp
        · exact Nat.ne_of_lt hc2
        · exact allLt_ne hc3 p hp
    have hnews : ∀ p ∈ news, p ∈ rest := by rw [hrest]; exact fun p hp => .tail _ (.tail _ hp)
    clear hrest N1
    k_dflt refine' iter_listM (x := S "comp") (fun m0 i m₁ nx => (∀ z, z ≠ S "comp" → m₁ z = m0 z) ∧ ∃ items n, nx = (NC, listOf items n) :: rest ∧ StrsAre items.toList (accN segs i)) ?hh ?hl ?hlL F1 N5 ?hj ?turn ?done
    case hh => exact rfl
    case hl => exact ⟨_, (N5 _ (.tail _ hCMr)).1, rfl, 0, rfl⟩
    case hlL => exact (N5 _ (.tail _ hCMr)).2.1
    case hj => exact ⟨fun _ _ => rfl, #[], 0, rfl, .nil⟩
    case turn =>
      rintro i v m₁ news₁ h tk own I hi hv ⟨hm, items, n, rfl, hS2⟩ hown hne hlt F2 N2
      have F3 := fr_over F2 hm
      clear F2
      have ho : ∀ p ∈ rest ++ own, p.1 ≠ NC := by
        intro p hp
        rcases List.mem_append.mp hp with hp | hp
        · exact hNe p hp
        · rcases hown p hp with e | e <;> rw [e]
          · exact Nat.ne_of_gt (hlt _ (.head _))
          · exact Nat.ne_of_lt hc1
      have N3 : News _ _ _ ((NC, listOf items n) :: (rest ++ own)) := N2
      clear N2
      obtain ⟨tl, htl⟩ : ∃ tl, tl = rest ++ own := ⟨_, rfl⟩
      rw [← htl] at N3 ho
      obtain ⟨c, tc, rfl, hc⟩ := strsAre_get hS hv
      have hlen2 := strsAre_len hS2
      rw [Array.length_toList] at hlen2
      rcases i with _ | _ | _ | _ | i
      · obtain rfl : c = S "m" := by simpa using hc.symm
        obtain ⟨its⟩ := items
        have e0 : its = [] := by cases hS2; rfl
        subst e0
        (repeat' ((fail_if_success (with_reducible first | show wpAny _ _ (pyIter _) _ _ _ | show wpAny _ _ (exec (Stmt.While _ _ _ _) _) _ _ _ | show wpAny _ _ (exec (Stmt.For _ _ _ _ _) _) _ _ _ | show TurnEnd _ _ _ _ _ _ _ | show TurnPost _ _ _ _ _ _ _ _ _ | show WhileStep _ _ _ _ _ _ _ | show WhileStep2 _ _ _ _ _ _ _ _ | show wpAny _ _ (eval (Expr.ListComp _ _ _ _) _) _ _ _ | show wpAny _ _ (exec (Stmt.Assign _ (Expr.ListComp _ _ _ _) _) _) _ _ _ | show wpAny _ _ (call (Value.builtin "sorted") _) _ _ _ | show wpAny _ _ (call (Value.builtin "sum") _) _ _ _ | show wpAny _ _ (call (Value.type "enumerate") _) _ _ _ | show wpAny _ _ (call (Value.type "range") _) _ _ _ | show wpAny _ _ (binaryOp _ (Value.ref _) (Value.ref _)) _ _ _ | show wpAny _ _ (call (Value.ref _) (Value.ref _ :: _)) _ _ _ | show wpAny _ _ (call (Value.ref 178) _) _ _ _)); first | ((with_reducible refine' isq_back ?e9 ?_); (case e9 => with_reducible assumption); (try dsimp only)) | ((with_reducible show wpAny _ _ (exec _ _) _ _ _); (refine gen_exec ?_); intro P9 hP9; walk1) | (k_unfold; (try dsimp only)) | (with_reducible (k_here; (with_reducible show wpAny _ _ (subscriptTail _ _ (Value.ref _) (Value.int (-1) _)) _ _ _); refine' sub_neg ?qk1 ?qk2 ?qk3 ?qk4 ?qk5 ?_; (case qk1 => exact isList_news (by k_asm) (by k_mem)); (case qk2 => decide); (case qk3 => decide); (case qk4 => decide); (case qk5 => rfl))) | (with_reducible (k_here; (with_reducible show wpAny _ _ (call (Value.ref 157) [Value.str _ _]) _ _ _); k_dflt (refine' splitroot_tells ?qB ?qF ?qX ?qN ?qT ?qhk ?qhd ?qhu ?qhl ?qh1 ?qh2 ?_; (  (case qB => k_asm); (case qF => k_asm); (case qX => k_asm); (case qN => k_asm); (case qT => k_asm); (case qhk => first | exact rfl | assumption); (case qhd => ktr_room); (case qhu => ktr_units)); (case qhl => (first | (with_reducible assumption) | omega | assumption)); (case qh1 => (first | (with_reducible assumption) | omega | assumption)); (case qh2 => (first | (with_reducible assumption) | omega | assumption)); k_whole); intro t1 t2 t3 D' h' tk' F' N'; (try k_sweep))) | (with_reducible (k_here; (with_reducible show wpAny _ _ (call (Value.ref 143) [Value.str _ _]) _ _ _); k_dflt (refine' getsep_tells ?qB ?qF ?qX ?qN ?qT ?qhk ?qhd ?qhu ?_; (  (case qB => k_asm); (case qF => k_asm); (case qX => k_asm); (case qN => k_asm); (case qT => k_asm); (case qhk => first | exact rfl | assumption); (case qhd => ktr_room); (case qhu => ktr_units)); k_whole); intro t' h' tk' F' N'; (try k_sweep))) | (with_reducible (k_here; (with_reducible show wpAny _ _ (call (Value.ref 129) [Value.str _ _]) _ _ _); k_dflt (refine' fspath_tells ?qB ?qF ?qX ?qN ?qT ?qhk ?qhd ?qhu ?_; (  (case qB => k_asm); (case qF => k_asm); (case qX => k_asm); (case qN => k_asm); (case qT => k_asm); (case qhk => first | exact rfl | assumption); (case qhd => ktr_room); (case qhu => ktr_units)); k_whole); intro h' tk' F' N'; (try k_sweep))) | (with_reducible ((with_reducible show wpAny _ _ (eval (PySem.Expr.Name _ _) _) _ _ _); (k_dflt (refine' ld ?qk1 ?qk2 ?_; (case qk1 => k_asm); (case qk2 => exact rfl); k_whole)))) | walk1 | (dsimp only; walk1)))
        all_goals (
          (with_reducible rename Fr _ _ _ _ => F6)
          (with_reducible rename News _ _ _ _ => N6)
          refine turn_end F6 N6 htl (fun p hp => hne p (.tail _ hp)) (hne _ (.head _)) ?_)
        exact .cons _ _ .nil
      · obtain rfl : c = S "." := by simpa using hc.symm
        (repeat' ((fail_if_success (with_reducible first | show wpAny _ _ (pyIter _) _ _ _ | show wpAny _ _ (exec (Stmt.While _ _ _ _) _) _ _ _ | show wpAny _ _ (exec (Stmt.For _ _ _ _ _) _) _ _ _ | show TurnEnd _ _ _ _ _ _ _ | show TurnPost _ _ _ _ _ _ _ _ _ | show WhileStep _ _ _ _ _ _ _ | show WhileStep2 _ _ _ _ _ _ _ _ | show wpAny _ _ (eval (Expr.ListComp _ _ _ _) _) _ _ _ | show wpAny _ _ (exec (Stmt.Assign _ (Expr.ListComp _ _ _ _) _) _) _ _ _ | show wpAny _ _ (call (Value.builtin "sorted") _) _ _ _ | show wpAny _ _ (call (Value.builtin "sum") _) _ _ _ | show wpAny _ _ (call (Value.type "enumerate") _) _ _ _ | show wpAny _ _ (call (Value.type "range") _) _ _ _ | show wpAny _ _ (binaryOp _ (Value.ref _) (Value.ref _)) _ _ _ | show wpAny _ _ (call (Value.ref _) (Value.ref _ :: _)) _ _ _ | show wpAny _ _ (call (Value.ref 178) _) _ _ _)); first | ((with_reducible refine' isq_back ?e9 ?_); (case e9 => with_reducible assumption); (try dsimp only)) | ((with_reducible show wpAny _ _ (exec _ _) _ _ _); (refine gen_exec ?_); intro P9 hP9; walk1) | (k_unfold; (try dsimp only)) | (with_reducible (k_here; (with_reducible show wpAny _ _ (subscriptTail _ _ (Value.ref _) (Value.int (-1) _)) _ _ _); refine' sub_neg ?qk1 ?qk2 ?qk3 ?qk4 ?qk5 ?_; (case qk1 => exact isList_news (by k_asm) (by k_mem)); (case qk2 => decide); (case qk3 => decide); (case qk4 => decide); (case qk5 => rfl))) | (with_reducible (k_here; (with_reducible show wpAny _ _ (call (Value.ref 157) [Value.str _ _]) _ _ _); k_dflt (refine' splitroot_tells ?qB ?qF ?qX ?qN ?qT ?qhk ?qhd ?qhu ?qhl ?qh1 ?qh2 ?_; (  (case qB => k_asm); (case qF => k_asm); (case qX => k_asm); (case qN => k_asm); (case qT => k_asm); (case qhk => first | exact rfl | assumption); (case qhd => ktr_room); (case qhu => ktr_units)); (case qhl => (first | (with_reducible assumption) | omega | assumption)); (case qh1 => (first | (with_reducible assumption) | omega | assumption)); (case qh2 => (first | (with_reducible assumption) | omega | assumption)); k_whole); intro t1 t2 t3 D' h' tk' F' N'; (try k_sweep))) | (with_reducible (k_here; (with_reducible show wpAny _ _ (call (Value.ref 143) [Value.str _ _]) _ _ _); k_dflt (refine' getsep_tells ?qB ?qF ?qX ?qN ?qT ?qhk ?qhd ?qhu ?_; (  (case qB => k_asm); (case qF => k_asm); (case qX => k_asm); (case qN => k_asm); (case qT => k_asm); (case qhk => first | exact rfl | assumption); (case qhd => ktr_room); (case qhu => ktr_units)); k_whole); intro t' h' tk' F' N'; (try k_sweep))) | (with_reducible (k_here; (with_reducible show wpAny _ _ (call (Value.ref 129) [Value.str _ _]) _ _ _); k_dflt (refine' fspath_tells ?qB ?qF ?qX ?qN ?qT ?qhk ?qhd ?qhu ?_; (  (case qB => k_asm); (case qF => k_asm); (case qX => k_asm); (case qN => k_asm); (case qT => k_asm); (case qhk => first | exact rfl | assumption); (case qhd => ktr_room); (case qhu => ktr_units)); k_whole); intro h' tk' F' N'; (try k_sweep))) | (with_reducible ((with_reducible show wpAny _ _ (eval (PySem.Expr.Name _ _) _) _ _ _); (k_dflt (refine' ld ?qk1 ?qk2 ?_; (case qk1 => k_asm); (case qk2 => exact rfl); k_whole)))) | walk1 | (dsimp only; walk1)))
        all_goals (
          (with_reducible rename Fr _ _ _ _ => F6)
          (with_reducible rename News _ _ _ _ => N6)
          refine turn_end F6 N6 htl (fun p hp => hne p (.tail _ hp)) (hne _ (.head _)) ?_)
        exact hS2
      · obtain rfl : c = S "z" := by simpa using hc.symm
        obtain ⟨its⟩ := items
        have hS3 : StrsAre its [S "m"] := hS2
        obtain ⟨t1, e0⟩ : ∃ t1, its = [.str (S "m") t1] := by cases hS3 with | cons y t r => cases r; exact ⟨t, rfl⟩
        subst e0
        (repeat' ((fail_if_success (with_reducible first | show wpAny _ _ (pyIter _) _ _ _ | show wpAny _ _ (exec (Stmt.While _ _ _ _) _) _ _ _ | show wpAny _ _ (exec (Stmt.For _ _ _ _ _) _) _ _ _ | show TurnEnd _ _ _ _ _ _ _ | show TurnPost _ _ _ _ _ _ _ _ _ | show WhileStep _ _ _ _ _ _ _ | show WhileStep2 _ _ _ _ _ _ _ _ | show wpAny _ _ (eval (Expr.ListComp _ _ _ _) _) _ _ _ | show wpAny _ _ (exec (Stmt.Assign _ (Expr.ListComp _ _ _ _) _) _) _ _ _ | show wpAny _ _ (call (Value.builtin "sorted") _) _ _ _ | show wpAny _ _ (call (Value.builtin "sum") _) _ _ _ | show wpAny _ _ (call (Value.type "enumerate") _) _ _ _ | show wpAny _ _ (call (Value.type "range") _) _ _ _ | show wpAny _ _ (binaryOp _ (Value.ref _) (Value.ref _)) _ _ _ | show wpAny _ _ (call (Value.ref _) (Value.ref _ :: _)) _ _ _ | show wpAny _ _ (call (Value.ref 178) _) _ _ _)); first | ((with_reducible refine' isq_back ?e9 ?_); (case e9 => with_reducible assumption); (try dsimp only)) | ((with_reducible show wpAny _ _ (exec _ _) _ _ _); (refine gen_exec ?_); intro P9 hP9; walk1) | (k_unfold; (try dsimp only)) | (with_reducible (k_here; (with_reducible show wpAny _ _ (subscriptTail _ _ (Value.ref _) (Value.int (-1) _)) _ _ _); refine' sub_neg ?qk1 ?qk2 ?qk3 ?qk4 ?qk5 ?_; (case qk1 => exact isList_news (by k_asm) (by k_mem)); (case qk2 => decide); (case qk3 => decide); (case qk4 => decide); (case qk5 => rfl))) | (with_reducible (k_here; (with_reducible show wpAny _ _ (call (Value.ref 157) [Value.str _ _]) _ _ _); k_dflt (refine' splitroot_tells ?qB ?qF ?qX ?qN ?qT ?qhk ?qhd ?qhu ?qhl ?qh1 ?qh2 ?_; (  (case qB => k_asm); (case qF => k_asm); (case qX => k_asm); (case qN => k_asm); (case qT => k_asm); (case qhk => first | exact rfl | assumption); (case qhd => ktr_room); (case qhu => ktr_units)); (case qhl => (first | (with_reducible assumption) | omega | assumption)); (case qh1 => (first | (with_reducible assumption) | omega | assumption)); (case qh2 => (first | (with_reducible assumption) | omega | assumption)); k_whole); intro t1 t2 t3 D' h' tk' F' N'; (try k_sweep))) | (with_reducible (k_here; (with_reducible show wpAny _ _ (call (Value.ref 143) [Value.str _ _]) _ _ _); k_dflt (refine' getsep_tells ?qB ?qF ?qX ?qN ?qT ?qhk ?qhd ?qhu ?_; (  (case qB => k_asm); (case qF => k_asm); (case qX => k_asm); (case qN => k_asm); (case qT => k_asm); (case qhk => first | exact rfl | assumption); (case qhd => ktr_room); (case qhu => ktr_units)); k_whole); intro t' h' tk' F' N'; (try k_sweep))) | (with_reducible (k_here; (with_reducible show wpAny _ _ (call (Value.ref 129) [Value.str _ _]) _ _ _); k_dflt (refine' fspath_tells ?qB ?qF ?qX ?qN ?qT ?qhk ?qhd ?qhu ?_; (  (case qB => k_asm); (case qF => k_asm); (case qX => k_asm); (case qN => k_asm); (case qT => k_asm); (case qhk => first | exact rfl | assumption); (case qhd => ktr_room); (case qhu => ktr_units)); k_whole); intro h' tk' F' N'; (try k_sweep))) | (with_reducible ((with_reducible show wpAny _ _ (eval (PySem.Expr.Name _ _) _) _ _ _); (k_dflt (refine' ld ?qk1 ?qk2 ?_; (case qk1 => k_asm); (case qk2 => exact rfl); k_whole)))) | walk1 | (dsimp only; walk1)))
        all_goals (
          (with_reducible rename Fr _ _ _ _ => F6)
          (with_reducible rename News _ _ _ _ => N6)
          refine turn_end F6 N6 htl (fun p hp => hne p (.tail _ hp)) (hne _ (.head _)) ?_)
        exact .cons _ _ (.cons _ _ .nil)
      · obtain rfl : c = S ".." := by simpa using hc.symm
        obtain ⟨its⟩ := items
        have hS3 : StrsAre its [S "m", S "z"] := hS2
        obtain ⟨t1, t2, e0⟩ : ∃ t1 t2, its = [.str (S "m") t1, .str (S "z") t2] := by cases hS3 with | cons y t r => cases r with | cons y t' r => cases r; exact ⟨t, t', rfl⟩
        subst e0
        (repeat' ((fail_if_success (with_reducible first | show wpAny _ _ (pyIter _) _ _ _ | show wpAny _ _ (exec (Stmt.While _ _ _ _) _) _ _ _ | show wpAny _ _ (exec (Stmt.For _ _ _ _ _) _) _ _ _ | show TurnEnd _ _ _ _ _ _ _ | show TurnPost _ _ _ _ _ _ _ _ _ | show WhileStep _ _ _ _ _ _ _ | show WhileStep2 _ _ _ _ _ _ _ _ | show wpAny _ _ (eval (Expr.ListComp _ _ _ _) _) _ _ _ | show wpAny _ _ (exec (Stmt.Assign _ (Expr.ListComp _ _ _ _) _) _) _ _ _ | show wpAny _ _ (call (Value.builtin "sorted") _) _ _ _ | show wpAny _ _ (call (Value.builtin "sum") _) _ _ _ | show wpAny _ _ (call (Value.type "enumerate") _) _ _ _ | show wpAny _ _ (call (Value.type "range") _) _ _ _ | show wpAny _ _ (binaryOp _ (Value.ref _) (Value.ref _)) _ _ _ | show wpAny _ _ (call (Value.ref _) (Value.ref _ :: _)) _ _ _ | show wpAny _ _ (call (Value.ref 178) _) _ _ _)); first | ((with_reducible refine' isq_back ?e9 ?_); (case e9 => with_reducible assumption); (try dsimp only)) | ((with_reducible show wpAny _ _ (exec _ _) _ _ _); (refine gen_exec ?_); intro P9 hP9; walk1) | (k_unfold; (try dsimp only)) | (with_reducible (k_here; (with_reducible show wpAny _ _ (subscriptTail _ _ (Value.ref _) (Value.int (-1) _)) _ _ _); refine' sub_neg ?qk1 ?qk2 ?qk3 ?qk4 ?qk5 ?_; (case qk1 => exact isList_news (by k_asm) (by k_mem)); (case qk2 => decide); (case qk3 => decide); (case qk4 => decide); (case qk5 => rfl))) | (with_reducible (k_here; (with_reducible show wpAny _ _ (call (Value.ref 157) [Value.str _ _]) _ _ _); k_dflt (refine' splitroot_tells ?qB ?qF ?qX ?qN ?qT ?qhk ?qhd ?qhu ?qhl ?qh1 ?qh2 ?_; (  (case qB => k_asm); (case qF => k_asm); (case qX => k_asm); (case qN => k_asm); (case qT => k_asm); (case qhk => first | exact rfl | assumption); (case qhd => ktr_room); (case qhu => ktr_units)); (case qhl => (first | (with_reducible assumption) | omega | assumption)); (case qh1 => (first | (with_reducible assumption) | omega | assumption)); (case qh2 => (first | (with_reducible assumption) | omega | assumption)); k_whole); intro t1 t2 t3 D' h' tk' F' N'; (try k_sweep))) | (with_reducible (k_here; (with_reducible show wpAny _ _ (call (Value.ref 143) [Value.str _ _]) _ _ _); k_dflt (refine' getsep_tells ?qB ?qF ?qX ?qN ?qT ?qhk ?qhd ?qhu ?_; (  (case qB => k_asm); (case qF => k_asm); (case qX => k_asm); (case qN => k_asm); (case qT => k_asm); (case qhk => first | exact rfl | assumption); (case qhd => ktr_room); (case qhu => ktr_units)); k_whole); intro t' h' tk' F' N'; (try k_sweep))) | (with_reducible (k_here; (with_reducible show wpAny _ _ (call (Value.ref 129) [Value.str _ _]) _ _ _); k_dflt (refine' fspath_tells ?qB ?qF ?qX ?qN ?qT ?qhk ?qhd ?qhu ?_; (  (case qB => k_asm); (case qF => k_asm); (case qX => k_asm); (case qN => k_asm); (case qT => k_asm); (case qhk => first | exact rfl | assumption); (case qhd => ktr_room); (case qhu => ktr_units)); k_whole); intro h' tk' F' N'; (try k_sweep))) | (with_reducible ((with_reducible show wpAny _ _ (eval (PySem.Expr.Name _ _) _) _ _ _); (k_dflt (refine' ld ?qk1 ?qk2 ?_; (case qk1 => k_asm); (case qk2 => exact rfl); k_whole)))) | walk1 | (dsimp only; walk1)))
        all_goals (
          (with_reducible rename Fr _ _ _ _ => F6)
          (with_reducible rename News _ _ _ _ => N6)
          refine turn_end F6 N6 htl (fun p hp => hne p (.tail _ hp)) (hne _ (.head _)) ?_)
        exact .cons _ _ .nil
      · have hc' : segs[i]? = some c := by simpa using hc
        have hcc := hseg c (List.mem_of_getElem? hc')
        have hcl : c.length = 1 := hcc.1
        have hcd : (c == S ".") = false := beq_eq_false_iff_ne.mpr hcc.2
        have hcdd : (c != S "..") = true := bne_iff_ne.mpr (one_ne hcl)
        have hz : items.size ≤ 25 := by
          rw [hlen2]; show (accN segs (i + 1 + 1 + 1 + 1)).length ≤ 25; unfold accN; rw [if_neg (by omega), if_neg (by omega), if_neg (by omega), List.length_cons, List.length_take]; omega
        (repeat' ((fail_if_success (with_reducible first | show wpAny _ _ (pyIter _) _ _ _ | show wpAny _ _ (exec (Stmt.While _ _ _ _) _) _ _ _ | show wpAny _ _ (exec (Stmt.For _ _ _ _ _) _) _ _ _ | show TurnEnd _ _ _ _ _ _ _ | show TurnPost _ _ _ _ _ _ _ _ _ | show WhileStep _ _ _ _ _ _ _ | show WhileStep2 _ _ _ _ _ _ _ _ | show wpAny _ _ (eval (Expr.ListComp _ _ _ _) _) _ _ _ | show wpAny _ _ (exec (Stmt.Assign _ (Expr.ListComp _ _ _ _) _) _) _ _ _ | show wpAny _ _ (call (Value.builtin "sorted") _) _ _ _ | show wpAny _ _ (call (Value.builtin "sum") _) _ _ _ | show wpAny _ _ (call (Value.type "enumerate") _) _ _ _ | show wpAny _ _ (call (Value.type "range") _) _ _ _ | show wpAny _ _ (binaryOp _ (Value.ref _) (Value.ref _)) _ _ _ | show wpAny _ _ (call (Value.ref _) (Value.ref _ :: _)) _ _ _ | show wpAny _ _ (call (Value.ref 178) _) _ _ _)); first | ((with_reducible refine' isq_back ?e9 ?_); (case e9 => with_reducible assumption); (try dsimp only)) | ((with_reducible show wpAny _ _ (exec _ _) _ _ _); (refine gen_exec ?_); intro P9 hP9; walk1) | (k_unfold; (try dsimp only)) | (with_reducible (k_here; (with_reducible show wpAny _ _ (subscriptTail _ _ (Value.ref _) (Value.int (-1) _)) _ _ _); refine' sub_neg ?qk1 ?qk2 ?qk3 ?qk4 ?qk5 ?_; (case qk1 => exact isList_news (by k_asm) (by k_mem)); (case qk2 => decide); (case qk3 => decide); (case qk4 => decide); (case qk5 => rfl))) | (with_reducible (k_here; (with_reducible show wpAny _ _ (call (Value.ref 157) [Value.str _ _]) _ _ _); k_dflt (refine' splitroot_tells ?qB ?qF ?qX ?qN ?qT ?qhk ?qhd ?qhu ?qhl ?qh1 ?qh2 ?_; (  (case qB => k_asm); (case qF => k_asm); (case qX => k_asm); (case qN => k_asm); (case qT => k_asm); (case qhk => first | exact rfl | assumption); (case qhd => ktr_room); (case qhu => ktr_units)); (case qhl => (first | (with_reducible assumption) | omega | assumption)); (case qh1 => (first | (with_reducible assumption) | omega | assumption)); (case qh2 => (first | (with_reducible assumption) | omega | assumption)); k_whole); intro t1 t2 t3 D' h' tk' F' N'; (try k_sweep))) | (with_reducible (k_here; (with_reducible show wpAny _ _ (call (Value.ref 143) [Value.str _ _]) _ _ _); k_dflt (refine' getsep_tells ?qB ?qF ?qX ?qN ?qT ?qhk ?qhd ?qhu ?_; (  (case qB => k_asm); (case qF => k_asm); (case qX => k_asm); (case qN => k_asm); (case qT => k_asm); (case qhk => first | exact rfl | assumption); (case qhd => ktr_room); (case qhu => ktr_units)); k_whole); intro t' h' tk' F' N'; (try k_sweep))) | (with_reducible (k_here; (with_reducible show wpAny _ _ (call (Value.ref 129) [Value.str _ _]) _ _ _); k_dflt (refine' fspath_tells ?qB ?qF ?qX ?qN ?qT ?qhk ?qhd ?qhu ?_; (  (case qB => k_asm); (case qF => k_asm); (case qX => k_asm); (case qN => k_asm); (case qT => k_asm); (case qhk => first | exact rfl | assumption); (case qhd => ktr_room); (case qhu => ktr_units)); k_whole); intro h' tk' F' N'; (try k_sweep))) | (with_reducible ((with_reducible show wpAny _ _ (eval (PySem.Expr.Name _ _) _) _ _ _); (k_dflt (refine' ld ?qk1 ?qk2 ?_; (case qk1 => k_asm); (case qk2 => exact rfl); k_whole)))) | walk1 | (dsimp only; walk1)))
        · (with_reducible rename Fr _ _ _ _ => F6)
          (with_reducible rename News _ _ _ _ => N6)
          refine turn_end F6 N6 htl (fun p hp => hne p (.tail _ hp)) (hne _ (.head _)) ?_
          rw [Array.toList_push]
          have ea : accN segs (i + 1 + 1 + 1 + 1 + 1) = accN segs (i + 1 + 1 + 1 + 1) ++ [c] := by
            unfold accN
            rw [if_neg (by omega), if_neg (by omega), if_neg (by omega), if_neg (by omega), if_neg (by omega), if_neg (by omega), show i + 1 + 1 + 1 + 1 + 1 - 4 = i + 1 by omega, show i + 1 + 1 + 1 + 1 - 4 = i by omega, List.take_add_one, hc']
            rfl
          rw [ea]
          exact strsAre_append hS2 (.cons _ _ .nil)
        all_goals (exfalso; first | omega | simp_all)
    case done =>
      rintro m₁ news₁ h tk ⟨hm, items, n, rfl, hS2⟩ F2 N2
      have F3 := fr_done F2 hm
      clear F2
      have ef : accN segs vs.length = S "m" :: segs := by
        rw [hlS]; unfold accN
        rw [if_neg (by simp), if_neg (by simp), if_neg (by simp)]; simp
      rw [ef] at hS2
      (repeat' ((fail_if_success (with_reducible first | show wpAny _ _ (pyIter _) _ _ _ | show wpAny _ _ (exec (Stmt.While _ _ _ _) _) _ _ _ | show wpAny _ _ (exec (Stmt.For _ _ _ _ _) _) _ _ _ | show TurnEnd _ _ _ _ _ _ _ | show TurnPost _ _ _ _ _ _ _ _ _ | show WhileStep _ _ _ _ _ _ _ | show WhileStep2 _ _ _ _ _ _ _ _ | show wpAny _ _ (eval (Expr.ListComp _ _ _ _) _) _ _ _ | show wpAny _ _ (exec (Stmt.Assign _ (Expr.ListComp _ _ _ _) _) _) _ _ _ | show wpAny _ _ (call (Value.builtin "sorted") _) _ _ _ | show wpAny _ _ (call (Value.builtin "sum") _) _ _ _ | show wpAny _ _ (call (Value.type "enumerate") _) _ _ _ | show wpAny _ _ (call (Value.type "range") _) _ _ _ | show wpAny _ _ (binaryOp _ (Value.ref _) (Value.ref _)) _ _ _ | show wpAny _ _ (call (Value.ref _) (Value.ref _ :: _)) _ _ _ | show wpAny _ _ (call (Value.ref 178) _) _ _ _)); first | ((with_reducible refine' isq_back ?e9 ?_); (case e9 => with_reducible assumption); (try dsimp only)) | ((with_reducible show wpAny _ _ (exec _ _) _ _ _); (refine gen_exec ?_); intro P9 hP9; walk1) | (k_unfold; (try dsimp only)) | (with_reducible (k_here; (with_reducible show wpAny _ _ (subscriptTail _ _ (Value.ref _) (Value.int (-1) _)) _ _ _); refine' sub_neg ?qk1 ?qk2 ?qk3 ?qk4 ?qk5 ?_; (case qk1 => exact isList_news (by k_asm) (by k_mem)); (case qk2 => decide); (case qk3 => decide); (case qk4 => decide); (case qk5 => rfl))) | (with_reducible (k_here; (with_reducible show wpAny _ _ (call (Value.ref 157) [Value.str _ _]) _ _ _); k_dflt (refine' splitroot_tells ?qB ?qF ?qX ?qN ?qT ?qhk ?qhd ?qhu ?qhl ?qh1 ?qh2 ?_; (  (case qB => k_asm); (case qF => k_asm); (case qX => k_asm); (case qN => k_asm); (case qT => k_asm); (case qhk => first | exact rfl | assumption); (case qhd => ktr_room); (case qhu => ktr_units)); (case qhl => (first | (with_reducible assumption) | omega | assumption)); (case qh1 => (first | (with_reducible assumption) | omega | assumption)); (case qh2 => (first | (with_reducible assumption) | omega | assumption)); k_whole); intro t1 t2 t3 D' h' tk' F' N'; (try k_sweep))) | (with_reducible (k_here; (with_reducible show wpAny _ _ (call (Value.ref 143) [Value.str _ _]) _ _ _); k_dflt (refine' getsep_tells ?qB ?qF ?qX ?qN ?qT ?qhk ?qhd ?qhu ?_; (  (case qB => k_asm); (case qF => k_asm); (case qX => k_asm); (case qN => k_asm); (case qT => k_asm); (case qhk => first | exact rfl | assumption); (case qhd => ktr_room); (case qhu => ktr_units)); k_whole); intro t' h' tk' F' N'; (try k_sweep))) | (with_reducible (k_here; (with_reducible show wpAny _ _ (call (Value.ref 129) [Value.str _ _]) _ _ _); k_dflt (refine' fspath_tells ?qB ?qF ?qX ?qN ?qT ?qhk ?qhd ?qhu ?_; (  (case qB => k_asm); (case qF => k_asm); (case qX => k_asm); (case qN => k_asm); (case qT => k_asm); (case qhk => first | exact rfl | assumption); (case qhd => ktr_room); (case qhu => ktr_units)); k_whole); intro h' tk' F' N'; (try k_sweep))) | (with_reducible ((with_reducible show wpAny _ _ (eval (PySem.Expr.Name _ _) _) _ _ _); (k_dflt (refine' ld ?qk1 ?qk2 ?_; (case qk1 => k_asm); (case qk2 => exact rfl); k_whole)))) | walk1 | (dsimp only; walk1)))
      (with_reducible rename News _ _ _ _ => N6)
      refine join_listW (isList_news N6 (.head _)) hS2 (by decide) ?_ fun t6 k6 => ?_
      · rw [List.map_cons, List.sum_cons, sum_ones hseg, List.length_cons]; show 1 + segs.length + _ ≤ _; omega
      have hjl : (Txt.join (S "/") (S "m" :: segs)).length ≤ 100 := by
        refine Nat.le_trans join_len ?_
        rw [List.map_cons, List.sum_cons, sum_ones hseg, List.length_cons]
        have e1 : (S "/").length = 1 := by decide
        have e2 : (S "m").length = 1 := by decide
        rw [e1, e2]; omega
      (repeat' ((fail_if_success (with_reducible first | show wpAny _ _ (pyIter _) _ _ _ | show wpAny _ _ (exec (Stmt.While _ _ _ _) _) _ _ _ | show wpAny _ _ (exec (Stmt.For _ _ _ _ _) _) _ _ _ | show TurnEnd _ _ _ _ _ _ _ | show TurnPost _ _ _ _ _ _ _ _ _ | show WhileStep _ _ _ _ _ _ _ | show WhileStep2 _ _ _ _ _ _ _ _ | show wpAny _ _ (eval (Expr.ListComp _ _ _ _) _) _ _ _ | show wpAny _ _ (exec (Stmt.Assign _ (Expr.ListComp _ _ _ _) _) _) _ _ _ | show wpAny _ _ (call (Value.builtin "sorted") _) _ _ _ | show wpAny _ _ (call (Value.builtin "sum") _) _ _ _ | show wpAny _ _ (call (Value.type "enumerate") _) _ _ _ | show wpAny _ _ (call (Value.type "range") _) _ _ _ | show wpAny _ _ (binaryOp _ (Value.ref _) (Value.ref _)) _ _ _ | show wpAny _ _ (call (Value.ref _) (Value.ref _ :: _)) _ _ _ | show wpAny _ _ (call (Value.ref 178) _) _ _ _)); first | ((with_reducible refine' isq_back ?e9 ?_); (case e9 => with_reducible assumption); (try dsimp only)) | ((with_reducible show wpAny _ _ (exec _ _) _ _ _); (refine gen_exec ?_); intro P9 hP9; walk1) | (k_unfold; (try dsimp only)) | (with_reducible (k_here; (with_reducible show wpAny _ _ (subscriptTail _ _ (Value.ref _) (Value.int (-1) _)) _ _ _); refine' sub_neg ?qk1 ?qk2 ?qk3 ?qk4 ?qk5 ?_; (case qk1 => exact isList_news (by k_asm) (by k_mem)); (case qk2 => decide); (case qk3 => decide); (case qk4 => decide); (case qk5 => rfl))) | (with_reducible (k_here; (with_reducible show wpAny _ _ (call (Value.ref 157) [Value.str _ _]) _ _ _); k_dflt (refine' splitroot_tells ?qB ?qF ?qX ?qN ?qT ?qhk ?qhd ?qhu ?qhl ?qh1 ?qh2 ?_; (  (case qB => k_asm); (case qF => k_asm); (case qX => k_asm); (case qN => k_asm); (case qT => k_asm); (case qhk => first | exact rfl | assumption); (case qhd => ktr_room); (case qhu => ktr_units)); (case qhl => (first | (with_reducible assumption) | omega | assumption)); (case qh1 => (first | (with_reducible assumption) | omega | assumption)); (case qh2 => (first | (with_reducible assumption) | omega | assumption)); k_whole); intro t1 t2 t3 D' h' tk' F' N'; (try k_sweep))) | (with_reducible (k_here; (with_reducible show wpAny _ _ (call (Value.ref 143) [Value.str _ _]) _ _ _); k_dflt (refine' getsep_tells ?qB ?qF ?qX ?qN ?qT ?qhk ?qhd ?qhu ?_; (  (case qB => k_asm); (case qF => k_asm); (case qX => k_asm); (case qN => k_asm); (case qT => k_asm); (case qhk => first | exact rfl | assumption); (case qhd => ktr_room); (case qhu => ktr_units)); k_whole); intro t' h' tk' F' N'; (try k_sweep))) | (with_reducible (k_here; (with_reducible show wpAny _ _ (call (Value.ref 129) [Value.str _ _]) _ _ _); k_dflt (refine' fspath_tells ?qB ?qF ?qX ?qN ?qT ?qhk ?qhd ?qhu ?_; (  (case qB => k_asm); (case qF => k_asm); (case qX => k_asm); (case qN => k_asm); (case qT => k_asm); (case qhk => first | exact rfl | assumption); (case qhd => ktr_room); (case qhu => ktr_units)); k_whole); intro h' tk' F' N'; (try k_sweep))) | (with_reducible ((with_reducible show wpAny _ _ (eval (PySem.Expr.Name _ _) _) _ _ _); (k_dflt (refine' ld ?qk1 ?qk2 ?_; (case qk1 => k_asm); (case qk2 => exact rfl); k_whole)))) | walk1 | (dsimp only; walk1)))
      exact hret _ _ _ (by k_asm) (cb_drop (by assumption) fun p hp => .tail _ (hnews p hp))
  · exact absurd (by assumption) h0
end
end

/-! D1 -/
section
open PySem.Calls
section
variable {w : World} {mean : ExcName → Option Value} {mg mb : Str → Option Value} {dp un : Nat} {gd : Option (List Code)} {cn : Str} {cs : Scope} {a : Addr} {ccd : Value} {cl : List (Str × Addr)} {outer : List Env} {A₀ : Around} {base h₀ : Heap} {L : Addr} {m : Str → Option Value} {news : List (Addr × Obj)} {s : Shared} {Q E : Value → Shared → Prop}


/-- the signs of a number to the base 16: A for 0 to P for 15, none of nought -/
noncomputable def hexL (n : Nat) : List Nat := if h : n = 0 then [] else hexL (n / 16) ++ [65 + n % 16]
termination_by n
decreasing_by omega
theorem hexL_zero : hexL 0 = [] := by unfold hexL; rfl
theorem hexL_pos {n : Nat} (h : n ≠ 0) : hexL n = hexL (n / 16) ++ [65 + n % 16] := by rw [hexL, dif_neg h]
theorem hexL_len : ∀ (k n : Nat), n < 16 ^ k → (hexL n).length ≤ k
  | 0, n, h => by
    have : n = 0 := by simpa using h
    rw [this, hexL_zero]; exact Nat.le_refl _
  | k + 1, n, h => by
    by_cases h0 : n = 0
    · rw [h0, hexL_zero]; exact Nat.zero_le _
    · rw [hexL_pos h0, List.length_append]
      have := hexL_len k (n / 16) (by rw [Nat.pow_succ] at h; omega)
      simp only [List.length_cons, List.length_nil]; omega
theorem hexL_in : ∀ (k n : Nat), n < 16 ^ k → ∀ c ∈ hexL n, 65 ≤ c ∧ c < 81
  | 0, n, h, c, hc => by
    have : n = 0 := by simpa using h
    rw [this, hexL_zero] at hc; cases hc
  | k + 1, n, h, c, hc => by
    by_cases h0 : n = 0
    · rw [h0, hexL_zero] at hc; cases hc
    · rw [hexL_pos h0] at hc
      rcases List.mem_append.mp hc with hc | hc
      · exact hexL_in k (n / 16) (by rw [Nat.pow_succ] at h; omega) c hc
      · rw [List.mem_singleton.mp hc]; omega
noncomputable def segsL (l : List Nat) : List Nat := l.flatMap fun c => [47, c]
theorem segsL_append (a b : List Nat) : segsL (a ++ b) = segsL a ++ segsL b := List.flatMap_append
theorem segsL_len : ∀ l : List Nat, (segsL l).length = 2 * l.length
  | [] => rfl
  | c :: r => by show (47 :: c :: segsL r).length = _; rw [List.length_cons, List.length_cons, segsL_len r, List.length_cons]; omega
/-- the way of a number: /m and a folder for each of its signs -/
noncomputable def wayS (n : Nat) : Str := ⟨(47 :: 109 :: segsL (hexL n)).toArray⟩
theorem item_ap {m : Nat} (h : m < 16) : Txt.item (Str.ofString "ABCDEFGHIJKLMNOP") (m : Int) = ⟨#[65 + m]⟩ := by
  have all : ∀ x : Fin 16, Txt.item (Str.ofString "ABCDEFGHIJKLMNOP") ((x : Nat) : Int) = ⟨#[65 + (x : Nat)]⟩ := by decide +kernel
  exact all ⟨m, h⟩
theorem nat_fdiv {n : Nat} : (n : Int).fdiv 16 = ((n / 16 : Nat) : Int) := by rw [Int.fdiv_eq_ediv_of_nonneg _ (by decide)]; rfl
theorem nat_fmod {n : Nat} : (n : Int).fmod 16 = ((n % 16 : Nat) : Int) := by rw [Int.fmod_eq_emod_of_nonneg _ (by decide)]; rfl
theorem way_step {i : Nat} {v : Str} (h : i ≠ 0) : segsL (hexL i) ++ v.cps.toList = segsL (hexL (i / 16)) ++ (Str.ofString "/" ++ Txt.item (Str.ofString "ABCDEFGHIJKLMNOP") ((i : Int).fmod 16) ++ v).cps.toList := by
  rw [hexL_pos h, segsL_append, nat_fmod, item_ap (Nat.mod_lt _ (by decide)), List.append_assoc]
  congr 1
  rw [Str.cps_append, Str.cps_append, Array.toList_append, Array.toList_append]
  rfl
theorem way_end {k : Nat} {v : Str} (h : segsL (hexL k) = segsL (hexL 0) ++ v.cps.toList) : Str.ofString "/m" ++ v = wayS k := by
  apply Str.ext'
  apply Array.toList_inj.mp
  rw [Str.cps_append, Array.toList_append]
  unfold wayS
  rw [h, hexL_zero]
  rfl
noncomputable def toBytes (v : List Nat) : Array UInt8 := (v.map fun c => UInt8.ofNat c).toArray

noncomputable abbrev APb : Array UInt8 := #[65, 66, 67, 68, 69, 70, 71, 72, 73, 74, 75, 76, 77, 78, 79, 80]
theorem ap_cut {m : Nat} (h : m < 16) : KBy.whole APb (some (m : Int)) (some ((m : Int) + 1)) = false ∧ KBy.picked APb (some (m : Int)) (some ((m : Int) + 1)) = toBytes [65 + m] := by
  have all : ∀ x : Fin 16, KBy.whole APb (some ((x : Nat) : Int)) (some (((x : Nat) : Int) + 1)) = false ∧ KBy.picked APb (some ((x : Nat) : Int)) (some (((x : Nat) : Int) + 1)) = toBytes [65 + (x : Nat)] := by decide +kernel
  exact all ⟨m, h⟩
theorem ap_slice {prog : Program} {w : World} {A : Around} {E : Value → Shared → Prop} {s : Shared} {x : Str} {px : Pos} {slice : PySem.Expr} {t t1 t2 : Tok} {h₀ : Heap} {L : Addr} {m : Str → Option Value} {news : List (Addr × Obj)} {n : Nat} {Q : Value → Shared → Prop}
    (hF : Fr h₀ L s.heap m) (hN : News h₀ L s.heap news)
    (h : ∀ h' t' k, Fr h₀ L h' m → News h₀ L h' news → Q (.bytes (toBytes [65 + n % 16]) t') { s with heap := h', toks := k })
    (hs : subscripted slice false (.bytes APb t) (.ref s.heap.objs.size) = operate [.ref s.heap.objs.size, .bytes APb t] (getItem (.bytes APb t) (.ref s.heap.objs.size)) := by with_unfolding_all rfl)
    (ht : ∀ r, letTemporaryGo (.Name x px) (.bytes APb t) r = pure () := by intro _; with_unfolding_all rfl) :
    wpAny (model prog w) A (subscriptTail (.Name x px) slice (.bytes APb t) (.ref s.heap.objs.size)) Q E { s with heap := s.heap.push { cls := .type "slice", data := .fields #[.int ((n : Int).fmod 16) t1, .int ((n : Int).fmod 16 + 1) t2, .none] } } := by
  have q := ap_cut (Nat.mod_lt n (show 0 < 16 by decide))
  rw [nat_fmod]
  refine KBy.slice_N hF hN (by constructor) (by constructor) q.1 ?_ ?_ hs ht
  · rw [q.2]; show 1 ≤ _; omega
  · rw [q.2]; exact h
theorem ap_step {i : Nat} {v : List Nat} (h : i ≠ 0) : hexL i ++ v = hexL (i / 16) ++ ((65 + i % 16) :: v) := by
  rw [hexL_pos h, List.append_assoc]; rfl
theorem toBytes_append (a b : List Nat) : toBytes a ++ toBytes b = toBytes (a ++ b) := by
  unfold toBytes; simp
theorem toBytes_size (a : List Nat) : (toBytes a).size = a.length := by unfold toBytes; simp
theorem abs_nat {k : Int} : (if k < 0 then -k else k) = (k.natAbs : Int) := by split <;> omega

theorem int2ap_tells {k : Int} {tk : Tok}
  (B : Below A₀ base outer h₀) (F : Fr h₀ L s.heap m) (X : (_root_.Mine.hd.heap_1 w.params).In h₀) (N : News h₀ L s.heap news) (T : Top _root_.Mine.hd.view_1 (looseW _root_.Mine.hd.view_1 []) mean mg mb h₀) (hk : cs.kind = .function)
  (hd : dp + 1 < recursionLimit) (hu : un + 20 < cLine) (hk1 : k.natAbs < 16 ^ 12)
  (hret : ∀ t h' tk', Fr h₀ L h' m → News h₀ L h' news → Q (.bytes (toBytes (hexL k.natAbs)) t) { s with heap := h', toks := tk' }) :
    wpAny (model PG w) (ktrTop dp un gd cn cs L a ccd cl outer) (call (.ref 28) [.int k tk]) Q E s := by
  (w_top off; have dummyFill : (∀ (_ : PySem.Challenge.rw_il0059_01 = PySem.Challenge.rw_il0059_01) (_ : _root_.Mine.hd.heap_1 = _root_.Mine.hd.heap_1), True) := (by k_fill; intros; trivial); clear dummyFill)
  refine wpAny_call ?_
  k_dflt (refine' code_def ?k1 ?k2 ?k3 ?k4 ?k5 ?kA ?kF ?kK ?k6 ?k7 ?k8 ?k9 ?kB ?_ ?c2 ?c3 ?c4 ?c5; (case kA => exact rfl); (case kF => exact rfl); (case kK => assumption); (case k1 => k_asm); (case k2 => k_asm); (case k3 => k_asm); (case k4 => k_asm); (case k5 => k_asm); (case k6 => k_is); (case k7 => k_is); (case k8 => first | exact rm0 hd | ktr_room); (case k9 => exact BindsTo.of_eq rfl); (case c5 => decide); (case kB => exact locs rfl); (case c2 => exact rfl); (case c3 => exact rfl); (case c4 => exact rfl); k_whole; intro g' L' h' FG' F' N' B' X' T'; (try dsimp only); (try k_fold))
  replace F' : Fr g' L' h' (fun y => if y = Str.ofString "num" then some (.int k tk) else none) := fr_map F' (fun y => lookup1 y)
  (repeat' ((fail_if_success (with_reducible first | show wpAny _ _ (pyIter _) _ _ _ | show wpAny _ _ (exec (Stmt.While _ _ _ _) _) _ _ _ | show wpAny _ _ (exec (Stmt.For _ _ _ _ _) _) _ _ _ | show TurnEnd _ _ _ _ _ _ _ | show TurnPost _ _ _ _ _ _ _ _ _ | show WhileStep _ _ _ _ _ _ _ | show WhileStep2 _ _ _ _ _ _ _ _ | show wpAny _ _ (eval (Expr.ListComp _ _ _ _) _) _ _ _ | show wpAny _ _ (exec (Stmt.Assign _ (Expr.ListComp _ _ _ _) _) _) _ _ _ | show wpAny _ _ (call (Value.builtin "sorted") _) _ _ _ | show wpAny _ _ (call (Value.builtin "sum") _) _ _ _ | show wpAny _ _ (call (Value.type "enumerate") _) _ _ _ | show wpAny _ _ (call (Value.type "range") _) _ _ _ | show wpAny _ _ (binaryOp _ (Value.ref _) (Value.ref _)) _ _ _ | show wpAny _ _ (call (Value.ref _) (Value.ref _ :: _)) _ _ _ | show wpAny _ _ (call (Value.ref 178) _) _ _ _)); first | ((with_reducible refine' isq_back ?e9 ?_); (case e9 => with_reducible assumption); (try dsimp only)) | ((with_reducible show wpAny _ _ (exec _ _) _ _ _); (refine gen_exec ?_); intro P9 hP9; walk1) | (k_unfold; (try dsimp only)) | (with_reducible ((with_reducible show wpAny _ _ (binaryOp Operator.Add (Value.bytes _ _) (Value.bytes _ _)) _ _ _); (k_here; (refine KBy.add_bytes (Nat.le_trans (Nat.add_le_add (show _ ≤ 1 from Nat.le_refl _) (by assumption)) (show 1 + 30 ≤ 16777216 by decide)) ?_); intro _ _))) | (with_reducible (k_here; (with_reducible show wpAny _ _ (subscriptTail _ (PySem.Expr.Slice _ _ none _) (Value.bytes _ _) (Value.ref _)) _ _ _); (with_reducible rename Fr _ _ _ _ => F'); (with_reducible rename News _ _ _ _ => N'); (refine ap_slice (s := ⟨_, _, _, _, _⟩) F' N' ?_); intro _ _ _ _ _)) | (with_reducible ((with_reducible show wpAny _ _ (eval (PySem.Expr.Name _ _) _) _ _ _); (k_dflt (refine' ld ?qk1 ?qk2 ?_; (case qk1 => k_asm); (case qk2 => exact rfl); k_whole)))) | walk1 | (dsimp only; walk1)))
  (with_reducible rename Fr _ _ _ _ => F1)
  (with_reducible rename News _ _ _ _ => N1)
  (refine gen_exec ?_); intro P8 hP8
  k_dflt refine' While_invM (fun m0 meas m₁ nx => nx = news ∧ ∃ (i : Nat) (v : List Nat) (t1 t2 t3 : Tok), meas = i ∧ m₁ (Str.ofString "num") = some (.int i t1) ∧ m₁ (Str.ofString "val") = some (.bytes (toBytes v) t2) ∧ m₁ (Str.ofString "AP") = some (.bytes #[65, 66, 67, 68, 69, 70, 71, 72, 73, 74, 75, 76, 77, 78, 79, 80] t3) ∧ hexL k.natAbs = hexL i ++ v) (n₀ := k.natAbs) F1 N1 ?hj ?turn
  case hj => exact ⟨rfl, k.natAbs, [], _, _, _, rfl, congrArg (fun z => some (Value.int z _)) abs_nat, rfl, rfl, (by rw [List.append_nil])⟩
  case turn =>
    rintro n m₁ news₁ h₁ tk₁ F2 N2 ⟨rfl, i, v, t1, t2, t3, rfl, e1, e2, e3, e4⟩
    have hvs : (toBytes v).size ≤ 30 := by
      rw [toBytes_size]
      have q := congrArg List.length e4
      rw [List.length_append] at q
      have := hexL_len 12 k.natAbs hk1
      omega
    have F3 := fr_known3 F2 e1 e2 e3
    clear F2
    (repeat' ((fail_if_success (with_reducible first | show wpAny _ _ (pyIter _) _ _ _ | show wpAny _ _ (exec (Stmt.While _ _ _ _) _) _ _ _ | show wpAny _ _ (exec (Stmt.For _ _ _ _ _) _) _ _ _ | show TurnEnd _ _ _ _ _ _ _ | show TurnPost _ _ _ _ _ _ _ _ _ | show WhileStep _ _ _ _ _ _ _ | show WhileStep2 _ _ _ _ _ _ _ _ | show wpAny _ _ (eval (Expr.ListComp _ _ _ _) _) _ _ _ | show wpAny _ _ (exec (Stmt.Assign _ (Expr.ListComp _ _ _ _) _) _) _ _ _ | show wpAny _ _ (call (Value.builtin "sorted") _) _ _ _ | show wpAny _ _ (call (Value.builtin "sum") _) _ _ _ | show wpAny _ _ (call (Value.type "enumerate") _) _ _ _ | show wpAny _ _ (call (Value.type "range") _) _ _ _ | show wpAny _ _ (binaryOp _ (Value.ref _) (Value.ref _)) _ _ _ | show wpAny _ _ (call (Value.ref _) (Value.ref _ :: _)) _ _ _ | show wpAny _ _ (call (Value.ref 178) _) _ _ _)); first | ((with_reducible refine' isq_back ?e9 ?_); (case e9 => with_reducible assumption); (try dsimp only)) | ((with_reducible show wpAny _ _ (exec _ _) _ _ _); (refine gen_exec ?_); intro P9 hP9; walk1) | (k_unfold; (try dsimp only)) | (with_reducible ((with_reducible show wpAny _ _ (binaryOp Operator.Add (Value.bytes _ _) (Value.bytes _ _)) _ _ _); (k_here; (refine KBy.add_bytes (Nat.le_trans (Nat.add_le_add (show _ ≤ 1 from Nat.le_refl _) (by assumption)) (show 1 + 30 ≤ 16777216 by decide)) ?_); intro _ _))) | (with_reducible (k_here; (with_reducible show wpAny _ _ (subscriptTail _ (PySem.Expr.Slice _ _ none _) (Value.bytes _ _) (Value.ref _)) _ _ _); (with_reducible rename Fr _ _ _ _ => F'); (with_reducible rename News _ _ _ _ => N'); (refine ap_slice (s := ⟨_, _, _, _, _⟩) F' N' ?_); intro _ _ _ _ _)) | (with_reducible ((with_reducible show wpAny _ _ (eval (PySem.Expr.Name _ _) _) _ _ _); (k_dflt (refine' ld ?qk1 ?qk2 ?_; (case qk1 => k_asm); (case qk2 => exact rfl); k_whole)))) | walk1 | (dsimp only; walk1)))
    · (with_reducible rename Fr _ _ _ _ => F6)
      (with_reducible rename News _ _ _ _ => N6)
      refine WhileStep.intro F6 (fun p hp => N6 p (.tail _ hp)) (n' := n / 16) (by omega) ⟨rfl, n / 16, (65 + n % 16) :: v, _, _, _, rfl, congrArg (fun z => some (Value.int z _)) nat_fdiv, congrArg (fun z => some (Value.bytes z _)) (toBytes_append _ _), rfl, ?_⟩
      rw [e4]; exact ap_step (by omega)
    · have h0 : n = 0 := by omega
      subst h0
      have e5 : v = hexL k.natAbs := by rw [e4, hexL_zero]; rfl
      subst e5
      exact hret _ _ _ (by k_asm) (by ((first | with_reducible assumption | (refine' cb_drop ?cbN ?cbS; (case cbN => assumption); (case cbS => kcj_all)))))

theorem way_tells {k : Int} {tk : Tok}
  (B : Below A₀ base outer h₀) (F : Fr h₀ L s.heap m) (X : (_root_.Mine.hd.heap_1 w.params).In h₀) (N : News h₀ L s.heap news) (T : Top _root_.Mine.hd.view_1 (looseW _root_.Mine.hd.view_1 []) mean mg mb h₀) (hk : cs.kind = .function)
  (hd : dp + 1 < recursionLimit) (hu : un + 20 < cLine) (hk1 : 0 ≤ k) (hk2 : k < 16 ^ 12)
  (hret : ∀ t h' tk', Fr h₀ L h' m → News h₀ L h' news → Q (.str (wayS k.toNat) t) { s with heap := h', toks := tk' }) :
    wpAny (model PG w) (ktrTop dp un gd cn cs L a ccd cl outer) (call (.ref 204) [.int k tk]) Q E s := by
  (w_top off; have dummyFill : (∀ (_ : PySem.Challenge.rw_il0059_01 = PySem.Challenge.rw_il0059_01) (_ : _root_.Mine.hd.heap_1 = _root_.Mine.hd.heap_1), True) := (by k_fill; intros; trivial); clear dummyFill)
  refine wpAny_call ?_
  k_dflt (refine' code_def ?k1 ?k2 ?k3 ?k4 ?k5 ?kA ?kF ?kK ?k6 ?k7 ?k8 ?k9 ?kB ?_ ?c2 ?c3 ?c4 ?c5; (case kA => exact rfl); (case kF => exact rfl); (case kK => assumption); (case k1 => k_asm); (case k2 => k_asm); (case k3 => k_asm); (case k4 => k_asm); (case k5 => k_asm); (case k6 => k_is); (case k7 => k_is); (case k8 => first | exact rm0 hd | ktr_room); (case k9 => exact BindsTo.of_eq rfl); (case c5 => decide); (case kB => exact locs rfl); (case c2 => exact rfl); (case c3 => exact rfl); (case c4 => exact rfl); k_whole; intro g' L' h' FG' F' N' B' X' T'; (try dsimp only); (try k_fold))
  replace F' : Fr g' L' h' (fun y => if y = Str.ofString "number" then some (.int k tk) else none) := fr_map F' (fun y => lookup1 y)
  (repeat' ((fail_if_success (with_reducible first | show wpAny _ _ (pyIter _) _ _ _ | show wpAny _ _ (exec (Stmt.While _ _ _ _) _) _ _ _ | show wpAny _ _ (exec (Stmt.For _ _ _ _ _) _) _ _ _ | show TurnEnd _ _ _ _ _ _ _ | show TurnPost _ _ _ _ _ _ _ _ _ | show WhileStep _ _ _ _ _ _ _ | show WhileStep2 _ _ _ _ _ _ _ _ | show wpAny _ _ (eval (Expr.ListComp _ _ _ _) _) _ _ _ | show wpAny _ _ (exec (Stmt.Assign _ (Expr.ListComp _ _ _ _) _) _) _ _ _ | show wpAny _ _ (call (Value.builtin "sorted") _) _ _ _ | show wpAny _ _ (call (Value.builtin "sum") _) _ _ _ | show wpAny _ _ (call (Value.type "enumerate") _) _ _ _ | show wpAny _ _ (call (Value.type "range") _) _ _ _ | show wpAny _ _ (binaryOp _ (Value.ref _) (Value.ref _)) _ _ _ | show wpAny _ _ (call (Value.ref _) (Value.ref _ :: _)) _ _ _ | show wpAny _ _ (call (Value.ref 178) _) _ _ _)); first | ((with_reducible refine' isq_back ?e9 ?_); (case e9 => with_reducible assumption); (try dsimp only)) | ((with_reducible show wpAny _ _ (exec _ _) _ _ _); (refine gen_exec ?_); intro P9 hP9; walk1) | (k_unfold; (try dsimp only)) | (with_reducible ((with_reducible show wpAny _ _ (binaryOp Operator.Add (Value.bytes _ _) (Value.bytes _ _)) _ _ _); (k_here; (refine KBy.add_bytes (Nat.le_trans (Nat.add_le_add (show _ ≤ 1 from Nat.le_refl _) (by assumption)) (show 1 + 30 ≤ 16777216 by decide)) ?_); intro _ _))) | (with_reducible (k_here; (with_reducible show wpAny _ _ (subscriptTail _ (PySem.Expr.Slice _ _ none _) (Value.bytes _ _) (Value.ref _)) _ _ _); (with_reducible rename Fr _ _ _ _ => F'); (with_reducible rename News _ _ _ _ => N'); (refine ap_slice (s := ⟨_, _, _, _, _⟩) F' N' ?_); intro _ _ _ _ _)) | (with_reducible ((with_reducible show wpAny _ _ (eval (PySem.Expr.Name _ _) _) _ _ _); (k_dflt (refine' ld ?qk1 ?qk2 ?_; (case qk1 => k_asm); (case qk2 => exact rfl); k_whole)))) | walk1 | (dsimp only; walk1)))
  (with_reducible rename Fr _ _ _ _ => F1)
  (with_reducible rename News _ _ _ _ => N1)
  (refine gen_exec ?_); intro P8 hP8
  k_dflt refine' While_invM (fun m0 meas m₁ nx => nx = news ∧ ∃ (i : Nat) (v : Str) (t1 t2 : Tok), meas = i ∧ m₁ (Str.ofString "number") = some (.int i t1) ∧ m₁ (Str.ofString "way") = some (.str v t2) ∧ segsL (hexL k.toNat) = segsL (hexL i) ++ v.cps.toList) (n₀ := k.toNat) F1 N1 ?hj ?turn
  case hj => exact ⟨rfl, k.toNat, _, _, _, rfl, congrArg (fun z => some (Value.int z _)) (by omega), rfl, by show _ = _ ++ []; rw [List.append_nil]⟩
  case turn =>
    rintro n m₁ news₁ h₁ tk₁ F2 N2 ⟨rfl, i, v, t1, t2, rfl, e1, e2, e4⟩
    have hvl : v.length ≤ 24 := by
      have q := congrArg List.length e4
      rw [List.length_append, segsL_len, segsL_len] at q
      have := hexL_len 12 k.toNat (by omega)
      show v.cps.size ≤ 24
      rw [← Array.length_toList]; omega
    have F3 := fr_known2 F2 e1 e2
    clear F2
    (repeat' ((fail_if_success (with_reducible first | show wpAny _ _ (pyIter _) _ _ _ | show wpAny _ _ (exec (Stmt.While _ _ _ _) _) _ _ _ | show wpAny _ _ (exec (Stmt.For _ _ _ _ _) _) _ _ _ | show TurnEnd _ _ _ _ _ _ _ | show TurnPost _ _ _ _ _ _ _ _ _ | show WhileStep _ _ _ _ _ _ _ | show WhileStep2 _ _ _ _ _ _ _ _ | show wpAny _ _ (eval (Expr.ListComp _ _ _ _) _) _ _ _ | show wpAny _ _ (exec (Stmt.Assign _ (Expr.ListComp _ _ _ _) _) _) _ _ _ | show wpAny _ _ (call (Value.builtin "sorted") _) _ _ _ | show wpAny _ _ (call (Value.builtin "sum") _) _ _ _ | show wpAny _ _ (call (Value.type "enumerate") _) _ _ _ | show wpAny _ _ (call (Value.type "range") _) _ _ _ | show wpAny _ _ (binaryOp _ (Value.ref _) (Value.ref _)) _ _ _ | show wpAny _ _ (call (Value.ref _) (Value.ref _ :: _)) _ _ _ | show wpAny _ _ (call (Value.ref 178) _) _ _ _)); first | ((with_reducible refine' isq_back ?e9 ?_); (case e9 => with_reducible assumption); (try dsimp only)) | ((with_reducible show wpAny _ _ (exec _ _) _ _ _); (refine gen_exec ?_); intro P9 hP9; walk1) | (k_unfold; (try dsimp only)) | (with_reducible ((with_reducible show wpAny _ _ (binaryOp Operator.Add (Value.bytes _ _) (Value.bytes _ _)) _ _ _); (k_here; (refine KBy.add_bytes (Nat.le_trans (Nat.add_le_add (show _ ≤ 1 from Nat.le_refl _) (by assumption)) (show 1 + 30 ≤ 16777216 by decide)) ?_); intro _ _))) | (with_reducible (k_here; (with_reducible show wpAny _ _ (subscriptTail _ (PySem.Expr.Slice _ _ none _) (Value.bytes _ _) (Value.ref _)) _ _ _); (with_reducible rename Fr _ _ _ _ => F'); (with_reducible rename News _ _ _ _ => N'); (refine ap_slice (s := ⟨_, _, _, _, _⟩) F' N' ?_); intro _ _ _ _ _)) | (with_reducible ((with_reducible show wpAny _ _ (eval (PySem.Expr.Name _ _) _) _ _ _); (k_dflt (refine' ld ?qk1 ?qk2 ?_; (case qk1 => k_asm); (case qk2 => exact rfl); k_whole)))) | walk1 | (dsimp only; walk1)))
    · (with_reducible rename Fr _ _ _ _ => F6)
      (with_reducible rename News _ _ _ _ => N6)
      refine WhileStep.intro F6 (fun p hp => N6 p (.tail _ hp)) (n' := n / 16) (by omega) ⟨rfl, n / 16, _, _, _, rfl, congrArg (fun z => some (Value.int z _)) nat_fdiv, rfl, ?_⟩
      rw [e4]; exact way_step (by omega)
    · have h0 : n = 0 := by omega
      subst h0
      exact ret_str (Q := Q) (s := s) hret (way_end e4) (by k_asm) (by ((first | with_reducible assumption | (refine' cb_drop ?cbN ?cbS; (case cbN => assumption); (case cbS => kcj_all)))))
end
end

/-! D2 -/
section
open PySem.Calls
open Builtin
theorem args_dec2 (a b : Value) : argsOk "bytes.decode" ⟨[a, b], []⟩ := by unfold argsOk; kernel_rfl
theorem dec_eq (c : UInt8) (cs : List UInt8) (t t1 : Tok) : Builtin.«bytes.decode» ⟨[.bytes (c :: cs).toArray t, .str (Str.ofString "ascii") t1], []⟩ = (mkStr (Str.ofString "utf-8") >>= fun _ => mkStr (Str.ofString "ascii") >>= fun e => mkStr (Str.ofString "bytes.decode") >>= fun d =>
    call (.builtin "_codecs.decode.text") [.bytes (c :: cs).toArray t, e, .none, d] >>= fun v => ret v) := by kernel_rfl
theorem dec_eq0 (t t1 : Tok) : Builtin.«bytes.decode» ⟨[.bytes #[] t, .str (Str.ofString "ascii") t1], []⟩ = (rule "bytes.decode.empty" >>= fun _ => retStr Str.empty) := by kernel_rfl
theorem road_ascii {id : String} {b : Array UInt8} : _codecs.decodeRoad id b (Str.ofString "ascii") none [] = (_codecs.runDecoder id _codecs.asciiDecoder none true b 0 [] >>= fun r => mkStr ⟨r.1⟩) := by kernel_rfl
theorem forIn_count {β : Type} (f : Nat → β → Sem (ForInStep β)) (g : Nat → β) (n : Nat) (hstep : ∀ x i, i < n → f x (g i) = pure (.yield (g (i + 1)))) : ∀ k i x, i + k = n → forIn (List.range' x k) (g i) f = pure (g n)
  | 0, i, x, h => by
    have : i = n := by omega
    subst this; rfl
  | k + 1, i, x, h => by
    rw [List.range'_succ, List.forIn_cons, hstep x i (by omega)]
    exact forIn_count f g n hstep k (i + 1) (x + 1) (by omega)
theorem run_ascii {id : String} {b : Array UInt8} (hb : ∀ c ∈ b.toList, c.toNat < 128) (hz : b.size ≤ sizeLine) : _codecs.runDecoder id _codecs.asciiDecoder none true b 0 [] = pure (b.map (·.toNat), b.size) := by
  unfold _codecs.runDecoder
  simp only [Std.Legacy.Range.forIn_eq_forIn_range']
  have hsz : ([:b.size] : Std.Legacy.Range).size = b.size := by simp [Std.Legacy.Range.size]
  rw [hsz]
  have e0 : ((0, #[], {}) : Nat × Array Nat × _codecs.Faults) = (fun i => (i, (b.extract 0 i).map (·.toNat), ({} : _codecs.Faults))) 0 := by simp
  rw [e0, forIn_count _ (fun i => (i, (b.extract 0 i).map (·.toNat), ({} : _codecs.Faults))) b.size ?_ b.size 0 0 (by omega)]
  · show (pure ((b.extract 0 b.size).map (·.toNat), b.size) : Sem (Array Nat × Nat)) = _
    rw [Array.extract_size]
  · intro x i hi
    (try dsimp only)
    rw [if_neg (by rw [Array.size_map, Array.size_extract]; omega), if_neg (by omega)]
    have hc : (b.getD i 0).toNat < 128 := by
      have e : b.getD i 0 = b[i] := by simp [Array.getD, hi]
      rw [e]; exact hb _ (by simp)
    have hf : _codecs.asciiDecoder.find true b i = .text [(b.getD i 0).toNat] (i + 1) := by
      show (if (b.getD i 0).toNat < 128 then _codecs.Found.char (b.getD i 0).toNat (i + 1) else _) = _
      rw [if_pos hc]; rfl
    rw [hf]
    (try dsimp only)
    congr 3
    have e : b.getD i 0 = b[i] := by simp [Array.getD, hi]
    rw [e]
    have e2 : b.extract 0 (i + 1) = (b.extract 0 i).push b[i] := by
      rw [Array.push_extract_getElem] <;> simp
    rw [e2, Array.map_push]; rfl
theorem decode_ascii {prog : Program} {w : World} {A : Around} {E : Value → Shared → Prop} {s : Shared} {b : Array UInt8} {t t1 : Tok} {Q : Value → Shared → Prop} (hb : ∀ c ∈ b.toList, c.toNat < 128) (hz : b.size ≤ 1000)
    (h : ∀ t' k, Q (.str ⟨b.map (·.toNat)⟩ t') { s with toks := k }) : wpAny (model prog w) A (call (.builtin "bytes.decode") [.bytes b t, .str (Str.ofString "ascii") t1]) Q E s := by
  obtain ⟨l⟩ := b
  cases l with
  | nil =>
    refine call_meets FB.slot_bytes_decode (typeIs_bytes _ _ _) FB.entry_bytes_decode (args_dec2 _ _) (S := fun A R s => ∀ t' k, R (.ok (.ret (.str ⟨#[]⟩ t'))) { s with toks := k }) ?_ (fun t' k => by have q := h t' k; simpa using q)
    refine .of_wp fun prog w A R s hS => ?_
    rw [dec_eq0]
    refine wpAny_bind (wpAny_rule ?_)
    unfold retStr
    exact wpAny_bind (wpAny_mkStr (wpAny_pure ⟨_, rfl, hS _ _⟩) (by decide))
  | cons c cs =>
    refine call_meets FB.slot_bytes_decode (typeIs_bytes _ _ _) FB.entry_bytes_decode (args_dec2 _ _) (S := fun A R s => ∀ t' k, R (.ok (.ret (.str ⟨(c :: cs).toArray.map (·.toNat)⟩ t'))) { s with toks := k }) ?_ h
    refine .of_wp fun prog w A R s hS => ?_
    have e0 := dec_eq c cs t t1
    rw [e0]
    refine wpAny_bind (wpAny_mkStr ?_ (by decide))
    refine wpAny_bind (wpAny_mkStr ?_ (by decide))
    refine wpAny_bind (wpAny_mkStr ?_ (by decide))
    refine wpAny_bind (call_function_meets KBd.kind_text KBd.plain_text KBd.entry_text (args := [_, _, _, _]) (KBd.args_text _ _ _ _) (S := fun A R s => ∀ t' k, R (.ok (.ret (.str ⟨(c :: cs).toArray.map (·.toNat)⟩ t'))) { s with toks := k }) ?_ ?_)
    · refine .of_wp fun prog w A R s hS => ?_
      show wpAny _ _ (Bytes.bytesLike _ (.bytes (c :: cs).toArray t) >>= fun r => _) _ _ s
      refine wpAny_bind (wpAny_of_eq KBd.like_eq ?_)
      refine wpAny_bind (wpAny_of_eq KBd.held_eq ?_)
      show wpAny _ _ (_codecs.decodeRoad _ (c :: cs).toArray (Str.ofString "ascii") none [] >>= fun v => _) _ _ s
      have hsl : (c :: cs).toArray.size ≤ sizeLine := Nat.le_trans hz (by rw [sizeLine_eq]; decide)
      rw [road_ascii, run_ascii hb hsl]
      refine wpAny_bind (wpAny_bind (wpAny_pure ?_))
      exact wpAny_mkStr (wpAny_pure ⟨_, rfl, hS _ _⟩) (by show (Array.map _ _).size ≤ _; rw [Array.size_map]; exact hsl)
    · intro t' k
      exact wpAny_pure ⟨_, rfl, hS _ _⟩
end

/-! P1 -/
section
open PySem.Builtin PySem.Builtin.Str PySem.StrLaws
noncomputable abbrev mkS (l : List Nat) : Str := ⟨l.toArray⟩
theorem mkS_len (l : List Nat) : (mkS l).length = l.length := by show l.toArray.size = _; simp
theorem mkS_list (l : List Nat) : (mkS l).cps.toList = l := rfl
theorem mkS_of (x : Str) : x = mkS x.cps.toList := by cases x; simp
theorem mkS_cat (a b : List Nat) : mkS a ++ mkS b = mkS (a ++ b) := by apply Str.ext'; rw [Str.cps_append]; simp
theorem mkS_inj {a b : List Nat} (h : mkS a = mkS b) : a = b := by have := congrArg (fun s => s.cps.toList) h; simpa using this
theorem s_slash : Str.ofString "/" = mkS [47] := by decide +kernel

/-- the places of a sign -/
noncomputable def idxL (c : Nat) : List Nat → Nat → List Nat
  | [], _ => []
  | a :: r, i => if a = c then i :: idxL c r (i + 1) else idxL c r (i + 1)
/-- cut at a sign -/
noncomputable def splitC (c : Nat) : List Nat → List Nat → List (List Nat)
  | cur, [] => [cur]
  | cur, a :: r => if a = c then cur :: splitC c [] r else splitC c (cur ++ [a]) r

theorem occ_list (x : Str) (c limit : Nat) : ∀ (ys : List Nat) (i free : Nat) (found : Array Nat), x.cps.toList.drop i = ys → i ≤ x.length → free ≤ i → found.size + ys.length < limit →
    (forIn (List.range' i (ys.length + 1)) (found, free) (occBody x ⟨#[c]⟩ x.length limit)).run.fst.toList = found.toList ++ idxL c ys i
  | [], i, free, found, hd, hi, hf, hl => by
    have hn : ¬ x.cps.toList[i]? = some c := by
      rw [← List.head?_drop, hd]; simp
    rw [List.length_nil, List.range'_succ, List.forIn_cons]
    unfold occBody
    rw [if_neg (fun h => hn ((subAt_one x c i).mp ⟨h.1.2, h.2⟩))]
    show found.toList = found.toList ++ []
    rw [List.append_nil]
  | a :: r, i, free, found, hd, hi, hf, hl => by
    have hg : x.cps.toList[i]? = some a := by rw [← List.head?_drop, hd]; rfl
    have hd' : x.cps.toList.drop (i + 1) = r := by rw [← List.tail_drop, hd]; rfl
    have hi' : i + 1 ≤ x.length := by
      obtain ⟨hlt, _⟩ := List.getElem?_eq_some_iff.mp hg
      simp [Str.length] at hlt ⊢; lia
    rw [List.length_cons, List.range'_succ, List.forIn_cons]
    rw [List.length_cons] at hl
    by_cases hc : a = c
    · have hat := (subAt_one x c i).mpr (hc ▸ hg)
      have e1 : occBody x ⟨#[c]⟩ x.length limit i (found, free) = pure (.yield (found.push i, i + 1)) := by
        unfold occBody; rw [if_pos ⟨⟨⟨by show found.size < limit; lia, hf⟩, hat.1⟩, hat.2⟩]; rfl
      rw [e1]
      show (forIn (List.range' (i + 1) (r.length + 1)) (found.push i, i + 1) (occBody x ⟨#[c]⟩ x.length limit)).run.fst.toList = _
      rw [occ_list x c limit r (i + 1) (i + 1) (found.push i) hd' hi' (Nat.le_refl _) (by rw [Array.size_push]; lia)]
      rw [Array.toList_push, idxL, if_pos hc, List.append_assoc]; rfl
    · have e1 : occBody x ⟨#[c]⟩ x.length limit i (found, free) = pure (.yield (found, free)) := by
        unfold occBody; rw [if_neg (fun h => hc ?_)]
        have := (subAt_one x c i).mp ⟨h.1.2, h.2⟩
        rw [hg] at this; exact Option.some.inj this
      rw [e1]
      show (forIn (List.range' (i + 1) (r.length + 1)) (found, free) (occBody x ⟨#[c]⟩ x.length limit)).run.fst.toList = _
      rw [occ_list x c limit r (i + 1) free found hd' hi' (by lia) (by lia), idxL, if_neg hc]
theorem occ_all (x : Str) (c : Nat) : occurrences x ⟨#[c]⟩ 0 x.length (x.length + 1) = idxL c x.cps.toList 0 := by
  rw [occ_eq, Nat.sub_zero]
  have e : x.length = x.cps.toList.length := by simp [Str.length]
  have := occ_list x c (x.length + 1) x.cps.toList 0 0 #[] rfl (Nat.zero_le _) (Nat.le_refl _) (by rw [← e]; show 0 + x.length < _; lia)
  rw [← e] at this
  rw [this]; rfl
theorem parts_list (x : Str) (c : Nat) : ∀ (ys : List Nat) (a b : Nat), x.cps.toList.drop b = ys → a ≤ b → b ≤ x.length →
    partsFrom x 1 a (idxL c ys b) = (splitC c ((x.cps.toList.take b).drop a) ys).map mkS
  | [], a, b, hd, hab, hb => by
    have hn : x.length = x.cps.toList.length := by simp [Str.length]
    have hbl : x.cps.toList.length ≤ b := List.drop_eq_nil_iff.mp hd
    have : b = x.length := by lia
    subst this
    show [strSub x a x.length] = [mkS ((x.cps.toList.take x.length).drop a)]
    congr 1
    rw [mkS_of (strSub x a x.length), strSub_toList]
    congr 1
    rw [hn, List.take_length, ← List.length_drop, List.take_length]
  | d :: r, a, b, hd, hab, hb => by
    have hg : x.cps.toList[b]? = some d := by rw [← List.head?_drop, hd]; rfl
    have hd' : x.cps.toList.drop (b + 1) = r := by rw [← List.tail_drop, hd]; rfl
    have hb' : b + 1 ≤ x.length := by
      obtain ⟨hlt, _⟩ := List.getElem?_eq_some_iff.mp hg
      simp [Str.length] at hlt ⊢; lia
    by_cases hc : d = c
    · rw [idxL, if_pos hc, splitC, if_pos hc]
      show strSub x a b :: partsFrom x 1 (b + 1) (idxL c r (b + 1)) = _
      rw [parts_list x c r (b + 1) (b + 1) hd' (Nat.le_refl _) hb', List.map_cons]
      congr 1
      · rw [mkS_of (strSub x a b), strSub_toList]; congr 1; rw [List.drop_take]
      · have : (List.take (b + 1) x.cps.toList).drop (b + 1) = [] := by rw [List.drop_eq_nil_iff, List.length_take]; lia
        rw [this]
    · rw [idxL, if_neg hc, splitC, if_neg hc, parts_list x c r a (b + 1) hd' (by lia) hb']
      congr 2
      rw [List.take_add_one, hg, List.drop_append_of_le_length (by rw [List.length_take]; have hn : x.length = x.cps.toList.length := (by simp [Str.length]); lia)]
      rfl
theorem splitC_none (c : Nat) : ∀ (l cur : List Nat), c ∉ l → splitC c cur l = [cur ++ l]
  | [], cur, _ => by simp [splitC]
  | a :: r, cur, h => by
    have ha : a ≠ c := fun e => h (e ▸ List.mem_cons_self)
    rw [splitC, if_neg ha, splitC_none c r (cur ++ [a]) (fun e => h (.tail _ e)), List.append_assoc]; rfl
theorem idxL_nil {c : Nat} : ∀ {l : List Nat} {i : Nat}, idxL c l i = [] → c ∉ l
  | [], _, _ => by simp
  | a :: r, i, h => by
    by_cases ha : a = c
    · rw [idxL, if_pos ha] at h; cases h
    · rw [idxL, if_neg ha] at h
      intro hm
      rcases List.mem_cons.mp hm with e | hm
      · exact ha e.symm
      · exact idxL_nil h hm
theorem split_eq {l : List Nat} {c : Nat} (hl : 1 ≤ l.length) (hc : c < 256) : Txt.split (mkS l) (mkS [c]) = (splitC c [] l).map mkS := by
  unfold Txt.split
  have h1 : (mkS l).length = l.length := mkS_len l
  have h2 : (mkS [c]).length = 1 := rfl
  have hk : Builtin.Str.strKind (mkS [c]) = 1 := by unfold Builtin.Str.strKind; rw [if_pos (by simpa using hc)]
  have hk2 : 1 ≤ Builtin.Str.strKind (mkS l) := by unfold Builtin.Str.strKind; split; exact Nat.le_refl _; split <;> decide
  rw [if_neg (by rw [h1, h2, hk, decide_eq_false (by lia), decide_eq_false (by lia)]; decide)]
  have ho : occurrences (mkS l) (mkS [c]) 0 (mkS l).length ((mkS l).length + 1) = idxL c l 0 := occ_all (mkS l) c
  rw [ho, partsBetween_eq]
  have hp := parts_list (mkS l) c l 0 0 rfl (Nat.le_refl _) (Nat.zero_le _)
  split
  · rename_i he
    have : idxL c l 0 = [] := List.isEmpty_iff.mp he
    rw [splitC_none c l [] (idxL_nil this)]; rfl
  · rw [h2, hp]; rfl
theorem splitC_segs : ∀ (l cur : List Nat), (∀ c ∈ l, c ≠ 47) → splitC 47 cur (segsL l) = cur :: l.map fun c => [c]
  | [], cur, _ => rfl
  | c :: r, cur, h => by
    show splitC 47 cur (47 :: c :: segsL r) = _
    rw [splitC, if_pos rfl, splitC, if_neg (h c (.head _)), List.nil_append, splitC_segs r [c] fun d hd => h d (.tail _ hd)]; rfl
/-- the crooked way of a number's signs -/
noncomputable abbrev crook (l : List Nat) : List Nat := [47, 109, 47, 46, 47, 122, 47, 46, 46] ++ segsL l
theorem slice_to {l : List Nat} {j : Nat} (h : j ≤ l.length) : Txt.slice (mkS l) none (some (j : Int)) = mkS (l.take j) := by
  have q := sliceText_to (x := mkS l) (j := (j : Int)) ⟨by lia, by rw [mkS_list]; lia⟩
  have e : Txt.slice (mkS l) none (some (j : Int)) = sliceText (mkS l) none (some (j : Int)) := rfl
  rw [e, q, mkS_list]; congr 2
theorem slice_from {l : List Nat} {j : Nat} (h : j ≤ l.length) : Txt.slice (mkS l) (some (j : Int)) none = mkS (l.drop j) := by
  have q := sliceText_from (x := mkS l) (i := (j : Int)) ⟨by lia, by rw [mkS_list]; lia⟩
  have e : Txt.slice (mkS l) (some (j : Int)) none = sliceText (mkS l) (some (j : Int)) none := rfl
  rw [e, q, mkS_list]
  rw [List.take_of_length_le]
  · congr 2
  · rw [List.length_drop]; lia
theorem slice_mid {l : List Nat} {i j : Nat} (hi : i ≤ j) (h : j ≤ l.length) : Txt.slice (mkS l) (some (i : Int)) (some (j : Int)) = mkS ((l.drop i).take (j - i)) :=
  sliceText_nat (mkS l) hi (by rw [mkS_len]; exact h)
theorem one_mk {c : Nat} : (⟨#[c]⟩ : Str) = mkS [c] := rfl
theorem crook_len (l : List Nat) : (crook l).length = 9 + 2 * l.length := by rw [List.length_append, segsL_len]; rfl
theorem crook_h1 (l : List Nat) : Txt.slice (mkS (crook l)) none (some 1) = Str.ofString "/" := by
  have q := slice_to (l := crook l) (j := 1) (by rw [crook_len]; lia)
  rw [s_slash]; exact q
theorem crook_h2 (l : List Nat) : Txt.slice (mkS (crook l)) (some 1) (some 2) ≠ Str.ofString "/" := by
  have q := slice_mid (l := crook l) (i := 1) (j := 2) (by decide) (by rw [crook_len]; lia)
  intro h
  have e : Txt.slice (mkS (crook l)) (some 1) (some 2) = mkS [109] := q
  rw [e, s_slash] at h
  have := mkS_inj h
  revert this; decide
theorem s_m : Str.ofString "m" = mkS [109] := by decide +kernel
theorem s_dot : Str.ofString "." = mkS [46] := by decide +kernel
theorem s_z : Str.ofString "z" = mkS [122] := by decide +kernel
theorem s_dd : Str.ofString ".." = mkS [46, 46] := by decide +kernel
theorem s_crook : Str.ofString "/m/./z/.." = mkS (crook []) := by decide +kernel
theorem crook_split {l : List Nat} (h : ∀ c ∈ l, c ≠ 47) : Txt.split (Txt.slice (mkS (crook l)) (some 1) none) (Str.ofString "/") = Str.ofString "m" :: Str.ofString "." :: Str.ofString "z" :: Str.ofString ".." :: l.map fun c => mkS [c] := by
  have q := slice_from (l := crook l) (j := 1) (by rw [crook_len]; lia)
  have e : Txt.slice (mkS (crook l)) (some 1) none = mkS ((crook l).drop 1) := q
  rw [e, s_slash, split_eq (by rw [List.length_drop, crook_len]; lia) (by decide), s_m, s_dot, s_z, s_dd]
  have e2 : splitC 47 [] ((crook l).drop 1) = [109] :: [46] :: [122] :: splitC 47 [46, 46] (segsL l) := rfl
  rw [e2, splitC_segs l _ h]
  simp
theorem joinS (sep : List Nat) : ∀ (x : List Nat) (r : List (List Nat)), Txt.join (mkS sep) ((x :: r).map mkS) = mkS (x ++ r.flatMap fun y => sep ++ y) := by
  intro x r
  unfold Txt.join
  rw [glued_eq_join]
  induction r generalizing x with
  | nil => simp [Str.join]
  | cons y r ih =>
    show mkS x ++ mkS sep ++ Str.join (mkS sep) ((y :: r).map mkS) = _
    rw [ih y, mkS_cat, mkS_cat]; simp
theorem crook_norm (l : List Nat) : Str.ofString "/" ++ Txt.join (Str.ofString "/") (Str.ofString "m" :: l.map fun c => mkS [c]) = mkS (47 :: 109 :: segsL l) := by
  have q := joinS [47] [109] (l.map fun c => [c])
  rw [s_slash, s_m]
  have e : (mkS [109] :: l.map fun c => mkS [c]) = (([109] : List Nat) :: l.map fun c => [c]).map mkS := by simp
  rw [e, q, mkS_cat]
  congr 1
  have e3 : (l.map fun c => [c]).flatMap (fun y => [47] ++ y) = segsL l := by
    unfold segsL; rw [List.flatMap_map]; rfl
  rw [e3]; rfl
end

/-! P2 -/
section
open PySem.Builtin PySem.Builtin.Str PySem.StrLaws
theorem ends_iff (l : List Nat) (c : Nat) : Txt.endswith (mkS l) (mkS [c]) = true ↔ l.getLast? = some c := by
  unfold Txt.endswith
  rw [Bool.and_eq_true, subAt_eq, mkS_list, mkS_list, mkS_len, mkS_len]
  show decide (0 + 1 ≤ l.length) = true ∧ ((l.drop (l.length - 1)).take 1 == [c]) = true ↔ _
  rw [take1_drop, List.getLast?_eq_getElem?, decide_eq_true_eq]
  constructor
  · exact fun h => h.2
  · intro h
    exact ⟨by obtain ⟨hlt, _⟩ := List.getElem?_eq_some_iff.mp h; lia, h⟩
theorem starts_iff (l : List Nat) (c : Nat) : Txt.startswith (mkS l) (mkS [c]) = true ↔ l.head? = some c := by
  unfold Txt.startswith
  rw [Bool.and_eq_true, subAt_eq, mkS_list, mkS_list, mkS_len, mkS_len]
  show decide (0 + 1 ≤ l.length) = true ∧ ((l.drop 0).take 1 == [c]) = true ↔ _
  rw [take1_drop, List.head?_eq_getElem?, decide_eq_true_eq]
  constructor
  · exact fun h => h.2
  · intro h
    exact ⟨by obtain ⟨hlt, _⟩ := List.getElem?_eq_some_iff.mp h; lia, h⟩
theorem joinT_mk {p q : List Nat} (h1 : q.head? ≠ some 47) (h2 : p ≠ []) (h3 : p.getLast? ≠ some 47) : joinT (mkS p) (mkS q) = mkS (p ++ 47 :: q) := by
  unfold joinT
  rw [s_slash]
  rw [if_neg, if_neg (fun h => h3 ((ends_iff p 47).mp h)), mkS_cat, mkS_cat]
  · rfl
  · rintro (h | h)
    · exact h1 ((starts_iff q 47).mp h)
    · rw [mkS_len] at h; exact h2 (List.length_eq_zero_iff.mp h)
theorem segsL_last : ∀ {l : List Nat} {d : Nat}, (∀ c ∈ l, c ≠ 47) → d ≠ 47 → ∀ pre : List Nat, (pre ++ [d] ++ segsL l).getLast? ≠ some 47
  | [], d, _, hd, pre => by simp [segsL, hd]
  | c :: r, d, h, hd, pre => by
    have e : pre ++ [d] ++ segsL (c :: r) = (pre ++ [d, 47]) ++ [c] ++ segsL r := by show pre ++ [d] ++ (47 :: c :: segsL r) = _; simp
    rw [e]; exact segsL_last (fun x hx => h x (.tail _ hx)) (h c (.head _)) _
theorem crook_join {l : List Nat} {c : Nat} (h : ∀ c ∈ l, c ≠ 47) (hc : c ≠ 47) : joinT (mkS (crook l)) (mkS [c]) = mkS (crook (l ++ [c])) := by
  have h3 : (crook l).getLast? ≠ some 47 := segsL_last (l := l) (d := 46) h (by decide) [47, 109, 47, 46, 47, 122, 47, 46]
  rw [joinT_mk (by simpa using hc) (by simp) h3]
  congr 1
  show _ = _ ++ segsL (l ++ [c])
  rw [segsL_append]; simp [segsL]
theorem way_last {l : List Nat} (h : ∀ c ∈ l, c ≠ 47) : (47 :: 109 :: segsL l).getLast? ≠ some 47 := segsL_last h (by decide) [47]
theorem way_join {l q : List Nat} (h : ∀ c ∈ l, c ≠ 47) (hq : q.head? ≠ some 47) : joinT (mkS (47 :: 109 :: segsL l)) (mkS q) = mkS (47 :: 109 :: segsL l ++ 47 :: q) := joinT_mk hq (by simp) (way_last h)

theorem last_mk {a b : List Nat} (h : 47 ∉ b) : lastOccurrence (mkS (a ++ 47 :: b)) (mkS [47]) 0 (mkS (a ++ 47 :: b)).length = some a.length := by
  have ha : At (mkS (a ++ 47 :: b)) (mkS [47]) (mkS (a ++ 47 :: b)).length a.length := (subAt_one _ 47 a.length).mpr (by rw [mkS_list]; simp)
  rcases last_spec (mkS (a ++ 47 :: b)) (mkS [47]) with ⟨_, hn⟩ | ⟨i, hi, hA, hk⟩
  · exact absurd ha (hn _)
  · rw [hi]
    congr 1
    have hx : (a ++ 47 :: b)[i]? = some 47 := (subAt_one (mkS (a ++ 47 :: b)) 47 i).mp hA
    rcases Nat.lt_trichotomy i a.length with hl | he | hg
    · exact absurd ha (hk _ hl)
    · exact he
    · exfalso
      rw [List.getElem?_append_right (by lia)] at hx
      obtain ⟨j, hj⟩ : ∃ j, i - a.length = j + 1 := ⟨i - a.length - 1, by lia⟩
      rw [hj, List.getElem?_cons_succ] at hx
      exact h (List.mem_of_getElem? hx)
theorem foldl_rep (n : Nat) : ∀ acc : Array Nat, ((List.replicate n #[47]).foldl (· ++ ·) acc).toList = acc.toList ++ List.replicate n 47 := by
  induction n with
  | zero => intro acc; simp
  | succ n ih =>
    intro acc
    rw [List.replicate_succ, List.foldl_cons, ih, Array.toList_append, List.append_assoc]
    congr 1
theorem mul_slash {n : Nat} (h : 1 ≤ n) : Txt.mul (mkS [47]) (n : Int) = mkS (List.replicate n 47) := by
  unfold Txt.mul
  rw [if_neg (by lia)]
  split
  · rename_i h1
    have : n = 1 := by
      rcases Bool.or_eq_true_iff.mp h1 with h1 | h1
      · have := beq_iff_eq.mp h1; lia
      · exact absurd h1 (by decide)
    subst this; rfl
  · rw [mkS_of (Str.mk _)]
    congr 1
    have := foldl_rep n #[]
    show ((List.replicate ((n : Int)).toNat #[47]).foldl (· ++ ·) #[]).toList = _
    rw [Int.toNat_natCast, this]; rfl
/-- the folder of a way -/
theorem dirT_mk {a b : List Nat} {d : Nat} (h : 47 ∉ b) (hd : d ≠ 47) : dirT (mkS (a ++ [d] ++ 47 :: b)) = mkS (a ++ [d]) := by
  have hl : Txt.rfind (mkS (a ++ [d] ++ 47 :: b)) (Str.ofString "/") + 1 = ((a ++ [d]).length + 1 : Nat) := by
    unfold Txt.rfind; rw [s_slash, last_mk h]; simp
  have hs : Txt.slice (mkS (a ++ [d] ++ 47 :: b)) none (some (Txt.rfind (mkS (a ++ [d] ++ 47 :: b)) (Str.ofString "/") + 1)) = mkS (a ++ [d, 47]) := by
    rw [hl, slice_to (by simp; lia)]
    congr 1
    have e : a ++ [d] ++ 47 :: b = (a ++ [d, 47]) ++ b := by simp
    rw [e, List.take_append_of_le_length (by simp), List.take_of_length_le (by simp)]
  unfold dirT
  rw [hs]
  (try dsimp only)
  have hn : ((mkS (a ++ [d, 47])).length : Int) ≠ 0 := by rw [mkS_len]; simp; lia
  rw [if_pos]
  · unfold Txt.rstripChars
    rw [PyProof.Rows.stripBy_eq, s_slash]
    rw [mkS_of (strSub _ _ _), strSub_toList]
    congr 1
    show List.take (stripHi _ true _ 0 - 0) (List.drop 0 _) = _
    unfold stripHi
    rw [if_pos rfl, mkS_list, List.drop_zero, mkS_len, Nat.sub_zero]
    have e : (a ++ [d, 47]).reverse = 47 :: d :: a.reverse := by simp
    rw [e]
    have e2 : (47 :: d :: a.reverse).takeWhile (mkS [47]).cps.contains = [47] := by
      have h1 : (mkS [47]).cps.contains 47 = true := by simp
      have h2 : (mkS [47]).cps.contains d = false := by simp [hd]
      rw [List.takeWhile_cons, if_pos h1, List.takeWhile_cons, if_neg (by rw [h2]; decide)]
    rw [e2]
    have e3 : a ++ [d, 47] = (a ++ [d]) ++ [47] := by simp
    rw [e3, List.take_append_of_le_length (by simp), List.take_of_length_le (by simp)]
  · refine ⟨hn, bne_iff_ne.mpr fun he => ?_⟩
    rw [s_slash, mkS_len, mul_slash (by simp)] at he
    have := mkS_inj he
    have hm : d ∈ List.replicate (a ++ [d, 47]).length 47 := by rw [← this]; simp
    exact hd (List.eq_of_mem_replicate hm)
theorem dirT_top {b : List Nat} (h : 47 ∉ b) : dirT (mkS (47 :: b)) = Str.ofString "/" := by
  have hl : Txt.rfind (mkS (47 :: b)) (Str.ofString "/") + 1 = (1 : Nat) := by
    unfold Txt.rfind; rw [s_slash]; have := last_mk (a := []) h; simp only [List.nil_append] at this; rw [this]; rfl
  have hs : Txt.slice (mkS (47 :: b)) none (some (Txt.rfind (mkS (47 :: b)) (Str.ofString "/") + 1)) = mkS [47] := by
    rw [hl, slice_to (by simp)]; rfl
  unfold dirT
  rw [hs]
  (try dsimp only)
  rw [if_neg]
  · exact s_slash.symm
  · rintro ⟨_, h2⟩
    have e : ((mkS [47]).length : Int) = ((1 : Nat) : Int) := rfl
    rw [s_slash, e, mul_slash (by decide)] at h2
    exact absurd h2 (by decide)
end

/-! D3 -/
section
open PySem.Calls

open PySem.StrLaws
theorem bytes_text {l : List Nat} (h : ∀ c ∈ l, 65 ≤ c ∧ c < 81) : (⟨(toBytes l).map (·.toNat)⟩ : Str) = mkS l := by
  rw [mkS_of (Str.mk _)]
  congr 1
  unfold toBytes
  simp only [List.map_toArray, List.map_map]
  have : ∀ c ∈ l, ((fun x => UInt8.toNat x) ∘ fun c => UInt8.ofNat c) c = c := by
    intro c hc
    have := h c hc
    show (UInt8.ofNat c).toNat = c
    rw [UInt8.toNat_ofNat']; omega
  rw [List.map_congr_left this, List.map_id']
theorem decode_hex {prog : Program} {w : World} {A : Around} {E : Value → Shared → Prop} {s : Shared} {n : Nat} {t t1 : Tok} {Q : Value → Shared → Prop} (hn : n < 16 ^ 12)
    (h : ∀ t' k, Q (.str (mkS (hexL n)) t') { s with toks := k }) : wpAny (model prog w) A (call (.builtin "bytes.decode") [.bytes (toBytes (hexL n)) t, .str (Str.ofString "ascii") t1]) Q E s := by
  have hin := hexL_in 12 n hn
  refine decode_ascii (fun c hc => ?_) (by rw [toBytes_size]; have := hexL_len 12 n hn; omega) (fun t' k => ?_)
  · unfold toBytes at hc
    obtain ⟨d, hd, rfl⟩ := List.mem_map.mp hc
    have := hin d hd
    show (UInt8.ofNat d).toNat < 128
    rw [UInt8.toNat_ofNat']; omega
  · rw [bytes_text hin]; exact h t' k
section
variable {w : World} {mean : ExcName → Option Value} {mg mb : Str → Option Value} {dp un : Nat} {gd : Option (List Code)} {cn : Str} {cs : Scope} {a : Addr} {ccd : Value} {cl : List (Str × Addr)} {outer : List Env} {A₀ : Around} {base h₀ : Heap} {L : Addr} {m : Str → Option Value} {news : List (Addr × Obj)} {s : Shared} {Q E : Value → Shared → Prop}

theorem folder_tells {k : Int} {tk : Tok}
  (B : Below A₀ base outer h₀) (F : Fr h₀ L s.heap m) (X : (_root_.Mine.hd.heap_1 w.params).In h₀) (N : News h₀ L s.heap news) (T : Top _root_.Mine.hd.view_1 (looseW _root_.Mine.hd.view_1 []) mean mg mb h₀) (hk : cs.kind = .function)
  (hd : dp + 5 < recursionLimit) (hu : un + 100 < cLine) (hk1 : k.natAbs < 16 ^ 12)
  (hret : ∀ t h' tk', Fr h₀ L h' m → News h₀ L h' news → Q (.str (wayS k.natAbs) t) { s with heap := h', toks := tk' }) :
    wpAny (model PG w) (ktrTop dp un gd cn cs L a ccd cl outer) (call (.ref 185) [.int k tk]) Q E s := by
  (w_top off; have dummyFill : (∀ (_ : PySem.Challenge.rw_il0059_01 = PySem.Challenge.rw_il0059_01) (_ : _root_.Mine.hd.heap_1 = _root_.Mine.hd.heap_1), True) := (by k_fill; intros; trivial); clear dummyFill)
  refine wpAny_call ?_
  k_dflt (refine' code_def ?k1 ?k2 ?k3 ?k4 ?k5 ?kA ?kF ?kK ?k6 ?k7 ?k8 ?k9 ?kB ?_ ?c2 ?c3 ?c4 ?c5; (case kA => exact rfl); (case kF => exact rfl); (case kK => assumption); (case k1 => k_asm); (case k2 => k_asm); (case k3 => k_asm); (case k4 => k_asm); (case k5 => k_asm); (case k6 => k_is); (case k7 => k_is); (case k8 => first | exact rm0 hd | ktr_room); (case k9 => exact BindsTo.of_eq rfl); (case c5 => decide); (case kB => exact locs rfl); (case c2 => exact rfl); (case c3 => exact rfl); (case c4 => exact rfl); k_whole; intro g' L' h' FG' F' N' B' X' T'; (try dsimp only); (try k_fold))
  replace F' : Fr g' L' h' (fun y => if y = Str.ofString "number" then some (.int k tk) else none) := fr_map F' (fun y => lookup1 y)
  (repeat' ((fail_if_success (with_reducible first | show wpAny _ _ (pyIter _) _ _ _ | show wpAny _ _ (exec (Stmt.While _ _ _ _) _) _ _ _ | show wpAny _ _ (exec (Stmt.For _ _ _ _ _) _) _ _ _ | show TurnEnd _ _ _ _ _ _ _ | show TurnPost _ _ _ _ _ _ _ _ _ | show WhileStep _ _ _ _ _ _ _ | show WhileStep2 _ _ _ _ _ _ _ _ | show wpAny _ _ (eval (Expr.ListComp _ _ _ _) _) _ _ _ | show wpAny _ _ (exec (Stmt.Assign _ (Expr.ListComp _ _ _ _) _) _) _ _ _ | show wpAny _ _ (call (Value.builtin "sorted") _) _ _ _ | show wpAny _ _ (call (Value.builtin "sum") _) _ _ _ | show wpAny _ _ (call (Value.type "enumerate") _) _ _ _ | show wpAny _ _ (call (Value.type "range") _) _ _ _ | show wpAny _ _ (binaryOp _ (Value.ref _) (Value.ref _)) _ _ _ | show wpAny _ _ (call (Value.ref _) (Value.ref _ :: _)) _ _ _ | show wpAny _ _ (call (Value.ref 178) _) _ _ _)); first | ((with_reducible refine' isq_back ?e9 ?_); (case e9 => with_reducible assumption); (try dsimp only)) | ((with_reducible show wpAny _ _ (exec _ _) _ _ _); (refine gen_exec ?_); intro P9 hP9; walk1) | (k_unfold; (try dsimp only)) | (with_reducible ((with_reducible show wpAny _ _ (call (Value.builtin "bytes.decode") _) _ _ _); (k_here; (refine decode_hex (by assumption) ?_); intro _ _))) | (with_reducible (k_here; (with_reducible show wpAny _ _ (call (Value.ref 171) [Value.str _ _]) _ _ _); k_dflt (refine' normpath_tells ?qB ?qF ?qX ?qN ?qT ?qhk ?qhd ?qhu ?qhl ?qh0 ?qh1 ?qh2 ?qhsp ?qhseg ?qhsl ?_; (  (case qB => k_asm); (case qF => k_asm); (case qX => k_asm); (case qN => k_asm); (case qT => k_asm); (case qhk => first | exact rfl | assumption); (case qhd => ktr_room); (case qhu => ktr_units)); (case qhl => (first | (with_reducible assumption) | omega | assumption)); (case qh0 => (first | (with_reducible assumption) | omega | assumption)); (case qh1 => (first | (with_reducible assumption) | omega | assumption)); (case qh2 => (first | (with_reducible assumption) | omega | assumption)); (case qhsp => (first | (with_reducible assumption) | omega | assumption)); (case qhseg => (first | (with_reducible assumption) | omega | assumption)); (case qhsl => (first | (with_reducible assumption) | omega | assumption)); k_whole); intro t' h' tk' F' N'; (try k_sweep))) | (with_reducible (k_here; (with_reducible show wpAny _ _ (call (Value.ref 150) [Value.str _ _, Value.str _ _]) _ _ _); k_dflt (refine' join_tells ?qB ?qF ?qX ?qN ?qT ?qhk ?qhd ?qhu ?qhl ?qhl2 ?_; (  (case qB => k_asm); (case qF => k_asm); (case qX => k_asm); (case qN => k_asm); (case qT => k_asm); (case qhk => first | exact rfl | assumption); (case qhd => ktr_room); (case qhu => ktr_units)); (case qhl => (first | (with_reducible assumption) | omega | assumption)); (case qhl2 => (first | (with_reducible assumption) | omega | assumption)); k_whole); intro t' h' tk' F' N'; (try k_sweep))) | (with_reducible (k_here; (with_reducible show wpAny _ _ (call (Value.ref 28) [Value.int _ _]) _ _ _); k_dflt (refine' int2ap_tells ?qB ?qF ?qX ?qN ?qT ?qhk ?qhd ?qhu ?qhk1 ?_; (  (case qB => k_asm); (case qF => k_asm); (case qX => k_asm); (case qN => k_asm); (case qT => k_asm); (case qhk => first | exact rfl | assumption); (case qhd => ktr_room); (case qhu => ktr_units)); (case qhk1 => (first | (with_reducible assumption) | omega | assumption)); k_whole); intro t' h' tk' F' N'; (try k_sweep))) | (with_reducible ((with_reducible show wpAny _ _ (eval (PySem.Expr.Name _ _) _) _ _ _); (k_dflt (refine' ld ?qk1 ?qk2 ?_; (case qk1 => k_asm); (case qk2 => exact rfl); k_whole)))) | walk1 | (dsimp only; walk1)))
  (with_reducible rename Fr _ _ _ _ => F1)
  (refine gen_exec ?_); intro P8 hP8
  k_dflt refine' for_go F1 rfl rfl ?_
  (repeat' ((fail_if_success (with_reducible first | show wpAny _ _ (pyIter _) _ _ _ | show wpAny _ _ (exec (Stmt.While _ _ _ _) _) _ _ _ | show wpAny _ _ (exec (Stmt.For _ _ _ _ _) _) _ _ _ | show TurnEnd _ _ _ _ _ _ _ | show TurnPost _ _ _ _ _ _ _ _ _ | show WhileStep _ _ _ _ _ _ _ | show WhileStep2 _ _ _ _ _ _ _ _ | show wpAny _ _ (eval (Expr.ListComp _ _ _ _) _) _ _ _ | show wpAny _ _ (exec (Stmt.Assign _ (Expr.ListComp _ _ _ _) _) _) _ _ _ | show wpAny _ _ (call (Value.builtin "sorted") _) _ _ _ | show wpAny _ _ (call (Value.builtin "sum") _) _ _ _ | show wpAny _ _ (call (Value.type "enumerate") _) _ _ _ | show wpAny _ _ (call (Value.type "range") _) _ _ _ | show wpAny _ _ (binaryOp _ (Value.ref _) (Value.ref _)) _ _ _ | show wpAny _ _ (call (Value.ref _) (Value.ref _ :: _)) _ _ _ | show wpAny _ _ (call (Value.ref 178) _) _ _ _)); first | ((with_reducible refine' isq_back ?e9 ?_); (case e9 => with_reducible assumption); (try dsimp only)) | ((with_reducible show wpAny _ _ (exec _ _) _ _ _); (refine gen_exec ?_); intro P9 hP9; walk1) | (k_unfold; (try dsimp only)) | (with_reducible ((with_reducible show wpAny _ _ (call (Value.builtin "bytes.decode") _) _ _ _); (k_here; (refine decode_hex (by assumption) ?_); intro _ _))) | (with_reducible (k_here; (with_reducible show wpAny _ _ (call (Value.ref 171) [Value.str _ _]) _ _ _); k_dflt (refine' normpath_tells ?qB ?qF ?qX ?qN ?qT ?qhk ?qhd ?qhu ?qhl ?qh0 ?qh1 ?qh2 ?qhsp ?qhseg ?qhsl ?_; (  (case qB => k_asm); (case qF => k_asm); (case qX => k_asm); (case qN => k_asm); (case qT => k_asm); (case qhk => first | exact rfl | assumption); (case qhd => ktr_room); (case qhu => ktr_units)); (case qhl => (first | (with_reducible assumption) | omega | assumption)); (case qh0 => (first | (with_reducible assumption) | omega | assumption)); (case qh1 => (first | (with_reducible assumption) | omega | assumption)); (case qh2 => (first | (with_reducible assumption) | omega | assumption)); (case qhsp => (first | (with_reducible assumption) | omega | assumption)); (case qhseg => (first | (with_reducible assumption) | omega | assumption)); (case qhsl => (first | (with_reducible assumption) | omega | assumption)); k_whole); intro t' h' tk' F' N'; (try k_sweep))) | (with_reducible (k_here; (with_reducible show wpAny _ _ (call (Value.ref 150) [Value.str _ _, Value.str _ _]) _ _ _); k_dflt (refine' join_tells ?qB ?qF ?qX ?qN ?qT ?qhk ?qhd ?qhu ?qhl ?qhl2 ?_; (  (case qB => k_asm); (case qF => k_asm); (case qX => k_asm); (case qN => k_asm); (case qT => k_asm); (case qhk => first | exact rfl | assumption); (case qhd => ktr_room); (case qhu => ktr_units)); (case qhl => (first | (with_reducible assumption) | omega | assumption)); (case qhl2 => (first | (with_reducible assumption) | omega | assumption)); k_whole); intro t' h' tk' F' N'; (try k_sweep))) | (with_reducible (k_here; (with_reducible show wpAny _ _ (call (Value.ref 28) [Value.int _ _]) _ _ _); k_dflt (refine' int2ap_tells ?qB ?qF ?qX ?qN ?qT ?qhk ?qhd ?qhu ?qhk1 ?_; (  (case qB => k_asm); (case qF => k_asm); (case qX => k_asm); (case qN => k_asm); (case qT => k_asm); (case qhk => first | exact rfl | assumption); (case qhd => ktr_room); (case qhu => ktr_units)); (case qhk1 => (first | (with_reducible assumption) | omega | assumption)); k_whole); intro t' h' tk' F' N'; (try k_sweep))) | (with_reducible ((with_reducible show wpAny _ _ (eval (PySem.Expr.Name _ _) _) _ _ _); (k_dflt (refine' ld ?qk1 ?qk2 ?_; (case qk1 => k_asm); (case qk2 => exact rfl); k_whole)))) | walk1 | (dsimp only; walk1)))
  (with_reducible rename Fr _ _ _ _ => F1)
  (with_reducible rename News _ _ _ _ => N1)
  have hx := hexL_in 12 k.natAbs hk1
  have hx47 : ∀ c ∈ hexL k.natAbs, c ≠ 47 := fun c hc e => by have := hx c hc; omega
  have hxl := hexL_len 12 k.natAbs hk1
  obtain ⟨hs, hhs⟩ : ∃ hs, hs = hexL k.natAbs := ⟨_, rfl⟩
  rw [← hhs] at hx hx47 hxl ⊢
  k_dflt refine' iter_strM (x := Str.ofString "sign") (fun m0 i m₁ nx => nx = news ∧ ∃ t, m₁ (Str.ofString "path") = some (.str (mkS (crook (hs.take i))) t)) ?hh F1 N1 ?hj ?turn ?done
  case hh => exact rfl
  case hj => exact ⟨rfl, _, congrArg (fun z => some (Value.str z _)) s_crook⟩
  case turn =>
    rintro i c u m₁ news₁ h tk own I hi hc ⟨rfl, t, hm⟩ hown hne hlt F2 N2
    have F3 := fr_known (x := Str.ofString "path") F2 ((if_neg (by decide)).trans hm)
    clear F2
    have hc' : hs[i]? = some c := by rw [← Array.getElem?_toList, mkS_list] at hc; exact hc
    have hc47 := hx47 c (List.mem_of_getElem? hc')
    have ht47 : ∀ c ∈ hs.take i, c ≠ 47 := fun c hc => hx47 c (List.mem_of_mem_take hc)
    have hpl : (mkS (crook (hs.take i))).length ≤ 1000 := by rw [mkS_len, crook_len, List.length_take]; omega
    have hql : (⟨#[c]⟩ : Str).length ≤ 1000 := show 1 ≤ 1000 by decide
    have hj2 : joinT (mkS (crook (hs.take i))) ⟨#[c]⟩ = mkS (crook (hs.take (i + 1))) := by
      rw [List.take_add_one, hc']; exact crook_join ht47 hc47
    (repeat' ((fail_if_success (with_reducible first | show wpAny _ _ (pyIter _) _ _ _ | show wpAny _ _ (exec (Stmt.While _ _ _ _) _) _ _ _ | show wpAny _ _ (exec (Stmt.For _ _ _ _ _) _) _ _ _ | show TurnEnd _ _ _ _ _ _ _ | show TurnPost _ _ _ _ _ _ _ _ _ | show WhileStep _ _ _ _ _ _ _ | show WhileStep2 _ _ _ _ _ _ _ _ | show wpAny _ _ (eval (Expr.ListComp _ _ _ _) _) _ _ _ | show wpAny _ _ (exec (Stmt.Assign _ (Expr.ListComp _ _ _ _) _) _) _ _ _ | show wpAny _ _ (call (Value.builtin "sorted") _) _ _ _ | show wpAny _ _ (call (Value.builtin "sum") _) _ _ _ | show wpAny _ _ (call (Value.type "enumerate") _) _ _ _ | show wpAny _ _ (call (Value.type "range") _) _ _ _ | show wpAny _ _ (binaryOp _ (Value.ref _) (Value.ref _)) _ _ _ | show wpAny _ _ (call (Value.ref _) (Value.ref _ :: _)) _ _ _ | show wpAny _ _ (call (Value.ref 178) _) _ _ _)); first | ((with_reducible refine' isq_back ?e9 ?_); (case e9 => with_reducible assumption); (try dsimp only)) | ((with_reducible show wpAny _ _ (exec _ _) _ _ _); (refine gen_exec ?_); intro P9 hP9; walk1) | (k_unfold; (try dsimp only)) | (with_reducible ((with_reducible show wpAny _ _ (call (Value.builtin "bytes.decode") _) _ _ _); (k_here; (refine decode_hex (by assumption) ?_); intro _ _))) | (with_reducible (k_here; (with_reducible show wpAny _ _ (call (Value.ref 171) [Value.str _ _]) _ _ _); k_dflt (refine' normpath_tells ?qB ?qF ?qX ?qN ?qT ?qhk ?qhd ?qhu ?qhl ?qh0 ?qh1 ?qh2 ?qhsp ?qhseg ?qhsl ?_; (  (case qB => k_asm); (case qF => k_asm); (case qX => k_asm); (case qN => k_asm); (case qT => k_asm); (case qhk => first | exact rfl | assumption); (case qhd => ktr_room); (case qhu => ktr_units)); (case qhl => (first | (with_reducible assumption) | omega | assumption)); (case qh0 => (first | (with_reducible assumption) | omega | assumption)); (case qh1 => (first | (with_reducible assumption) | omega | assumption)); (case qh2 => (first | (with_reducible assumption) | omega | assumption)); (case qhsp => (first | (with_reducible assumption) | omega | assumption)); (case qhseg => (first | (with_reducible assumption) | omega | assumption)); (case qhsl => (first | (with_reducible assumption) | omega | assumption)); k_whole); intro t' h' tk' F' N'; (try k_sweep))) | (with_reducible (k_here; (with_reducible show wpAny _ _ (call (Value.ref 150) [Value.str _ _, Value.str _ _]) _ _ _); k_dflt (refine' join_tells ?qB ?qF ?qX ?qN ?qT ?qhk ?qhd ?qhu ?qhl ?qhl2 ?_; (  (case qB => k_asm); (case qF => k_asm); (case qX => k_asm); (case qN => k_asm); (case qT => k_asm); (case qhk => first | exact rfl | assumption); (case qhd => ktr_room); (case qhu => ktr_units)); (case qhl => (first | (with_reducible assumption) | omega | assumption)); (case qhl2 => (first | (with_reducible assumption) | omega | assumption)); k_whole); intro t' h' tk' F' N'; (try k_sweep))) | (with_reducible (k_here; (with_reducible show wpAny _ _ (call (Value.ref 28) [Value.int _ _]) _ _ _); k_dflt (refine' int2ap_tells ?qB ?qF ?qX ?qN ?qT ?qhk ?qhd ?qhu ?qhk1 ?_; (  (case qB => k_asm); (case qF => k_asm); (case qX => k_asm); (case qN => k_asm); (case qT => k_asm); (case qhk => first | exact rfl | assumption); (case qhd => ktr_room); (case qhu => ktr_units)); (case qhk1 => (first | (with_reducible assumption) | omega | assumption)); k_whole); intro t' h' tk' F' N'; (try k_sweep))) | (with_reducible ((with_reducible show wpAny _ _ (eval (PySem.Expr.Name _ _) _) _ _ _); (k_dflt (refine' ld ?qk1 ?qk2 ?_; (case qk1 => k_asm); (case qk2 => exact rfl); k_whole)))) | walk1 | (dsimp only; walk1)))
    (with_reducible rename Fr _ _ _ _ => F6)
    (with_reducible rename News _ _ _ _ => N6)
    exact TurnEnd.intro F6 (news_swap N6) (fun p hp => hne p hp) ⟨rfl, _, congrArg (fun z => some (Value.str z _)) hj2⟩
  case done =>
    rintro m₁ news₁ h tk ⟨rfl, t, hm⟩ F2 N2
    have e : hs.take (mkS hs).cps.size = hs := by rw [← Array.length_toList, mkS_list, List.take_length]
    rw [e] at hm
    have F3 := fr_known F2 hm
    clear F2
    have q1 : (mkS (crook hs)).length ≤ 1000 := by rw [mkS_len, crook_len]; omega
    have q2 : ((mkS (crook hs)).length : Int) ≠ 0 := by rw [mkS_len, crook_len]; omega
    have q3 := crook_h1 hs
    have q4 := crook_h2 hs
    have q5 := crook_split hx47
    have q6 : ∀ c ∈ hs.map (fun c => mkS [c]), c.length = 1 ∧ c ≠ Str.ofString "." := by
      intro c hc
      obtain ⟨d, hd, rfl⟩ := List.mem_map.mp hc
      refine ⟨rfl, fun e => ?_⟩
      rw [s_dot] at e
      have e2 : d = 46 := by simpa using mkS_inj e
      have := hx d hd
      omega
    have q7 : (hs.map (fun c => mkS [c])).length ≤ 20 := by rw [List.length_map]; omega
    (repeat' ((fail_if_success (with_reducible first | show wpAny _ _ (pyIter _) _ _ _ | show wpAny _ _ (exec (Stmt.While _ _ _ _) _) _ _ _ | show wpAny _ _ (exec (Stmt.For _ _ _ _ _) _) _ _ _ | show TurnEnd _ _ _ _ _ _ _ | show TurnPost _ _ _ _ _ _ _ _ _ | show WhileStep _ _ _ _ _ _ _ | show WhileStep2 _ _ _ _ _ _ _ _ | show wpAny _ _ (eval (Expr.ListComp _ _ _ _) _) _ _ _ | show wpAny _ _ (exec (Stmt.Assign _ (Expr.ListComp _ _ _ _) _) _) _ _ _ | show wpAny _ _ (call (Value.builtin "sorted") _) _ _ _ | show wpAny _ _ (call (Value.builtin "sum") _) _ _ _ | show wpAny _ _ (call (Value.type "enumerate") _) _ _ _ | show wpAny _ _ (call (Value.type "range") _) _ _ _ | show wpAny _ _ (binaryOp _ (Value.ref _) (Value.ref _)) _ _ _ | show wpAny _ _ (call (Value.ref _) (Value.ref _ :: _)) _ _ _ | show wpAny _ _ (call (Value.ref 178) _) _ _ _)); first | ((with_reducible refine' isq_back ?e9 ?_); (case e9 => with_reducible assumption); (try dsimp only)) | ((with_reducible show wpAny _ _ (exec _ _) _ _ _); (refine gen_exec ?_); intro P9 hP9; walk1) | (k_unfold; (try dsimp only)) | (with_reducible ((with_reducible show wpAny _ _ (call (Value.builtin "bytes.decode") _) _ _ _); (k_here; (refine decode_hex (by assumption) ?_); intro _ _))) | (with_reducible (k_here; (with_reducible show wpAny _ _ (call (Value.ref 171) [Value.str _ _]) _ _ _); k_dflt (refine' normpath_tells ?qB ?qF ?qX ?qN ?qT ?qhk ?qhd ?qhu ?qhl ?qh0 ?qh1 ?qh2 ?qhsp ?qhseg ?qhsl ?_; (  (case qB => k_asm); (case qF => k_asm); (case qX => k_asm); (case qN => k_asm); (case qT => k_asm); (case qhk => first | exact rfl | assumption); (case qhd => ktr_room); (case qhu => ktr_units)); (case qhl => (first | (with_reducible assumption) | omega | assumption)); (case qh0 => (first | (with_reducible assumption) | omega | assumption)); (case qh1 => (first | (with_reducible assumption) | omega | assumption)); (case qh2 => (first | (with_reducible assumption) | omega | assumption)); (case qhsp => (first | (with_reducible assumption) | omega | assumption)); (case qhseg => (first | (with_reducible assumption) | omega | assumption)); (case qhsl => (first | (with_reducible assumption) | omega | assumption)); k_whole); intro t' h' tk' F' N'; (try k_sweep))) | (with_reducible (k_here; (with_reducible show wpAny _ _ (call (Value.ref 150) [Value.str _ _, Value.str _ _]) _ _ _); k_dflt (refine' join_tells ?qB ?qF ?qX ?qN ?qT ?qhk ?qhd ?qhu ?qhl ?qhl2 ?_; (  (case qB => k_asm); (case qF => k_asm); (case qX => k_asm); (case qN => k_asm); (case qT => k_asm); (case qhk => first | exact rfl | assumption); (case qhd => ktr_room); (case qhu => ktr_units)); (case qhl => (first | (with_reducible assumption) | omega | assumption)); (case qhl2 => (first | (with_reducible assumption) | omega | assumption)); k_whole); intro t' h' tk' F' N'; (try k_sweep))) | (with_reducible (k_here; (with_reducible show wpAny _ _ (call (Value.ref 28) [Value.int _ _]) _ _ _); k_dflt (refine' int2ap_tells ?qB ?qF ?qX ?qN ?qT ?qhk ?qhd ?qhu ?qhk1 ?_; (  (case qB => k_asm); (case qF => k_asm); (case qX => k_asm); (case qN => k_asm); (case qT => k_asm); (case qhk => first | exact rfl | assumption); (case qhd => ktr_room); (case qhu => ktr_units)); (case qhk1 => (first | (with_reducible assumption) | omega | assumption)); k_whole); intro t' h' tk' F' N'; (try k_sweep))) | (with_reducible ((with_reducible show wpAny _ _ (eval (PySem.Expr.Name _ _) _) _ _ _); (k_dflt (refine' ld ?qk1 ?qk2 ?_; (case qk1 => k_asm); (case qk2 => exact rfl); k_whole)))) | walk1 | (dsimp only; walk1)))
    refine ret_str (Q := Q) (s := s) hret ?_ (by k_asm) (by ((first | with_reducible assumption | (refine' cb_drop ?cbN ?cbS; (case cbN => assumption); (case cbS => kcj_all)))))
    rw [show wayS k.natAbs = mkS (47 :: 109 :: segsL hs) from by rw [hhs]; rfl]
    exact crook_norm hs
end
end

/-! C6 -/
section
open PySem.Calls PyProof.Rows.LCg
section
variable {prog : Program} {w : World} {A : Around} {E : Value → Shared → Prop} {s : Shared} {env : Env} {h₀ : Heap} {L : Addr} {m : Str → Option Value}

noncomputable def tst (ifs : List PySem.Expr) (env : Env) : Sem Bool := forIn ifs true fun c r => if r = true then do let ok ← isTrue c env (eval c env); pure (ForInStep.yield ok) else pure (ForInStep.yield r)
theorem tst_nil {Q : Bool → Shared → Prop} (h : Q true s) : wpAny (model prog w) A (tst [] env) Q E s := wpAny_tests_nil h
theorem tst_one {c : PySem.Expr} {Q : Bool → Shared → Prop} (h : wpAny (model prog w) A (isTrue c env (eval c env)) Q E s) : wpAny (model prog w) A (tst [c] env) Q E s := wpAny_tests_one h

theorem comp_loop {elt target iter : PySem.Expr} {ifs : List PySem.Expr} {scope : Scope} {pos : Pos} {it acc : Value} {env : Env} {R : Result → Shared → Prop} (I : Nat → Shared → Prop)
    (turn : ∀ n s, I n s → wpAny (model prog w) A (pyNext it) (fun r s₁ => match r with
      | none => R (.ok .next) s₁
      | some v => wpAny (model prog w) A (letOwnedTupleGo target it v) (fun _ s₀ => wpAny (model prog w) A (assign target env v) (fun _ s₂ =>
          wpAny (model prog w) A (tst ifs env) (fun ok s₃ => if ok = true then wpAny (model prog w) A (eval elt env) (fun x s₄ =>
            wpAny (model prog w) A (call (.builtin "list.append") [acc, x]) (fun _ s₅ => ∃ m, m < n ∧ I m s₅) (notedBy (model prog w) A env fun e s' => R (.error e) s') s₄) (notedBy (model prog w) A env fun e s' => R (.error e) s') s₃
            else ∃ m, m < n ∧ I m s₃) (notedBy (model prog w) A env fun e s' => R (.error e) s') s₂)
          (notedBy (model prog w) A env fun e s' => R (.error e) s') s₀) (notedBy (model prog w) A env fun e s' => R (.error e) s') s₁) (notedBy (model prog w) A env fun e s' => R (.error e) s') s)
    (n : Nat) (h : I n s) : codeAny (model prog w) A (.compLoop (.ListComp elt [⟨target, iter, ifs, 0⟩] scope pos) 0 it acc env) R s := by
  refine codeAny_loop rfl I (fun n s hI => ?_) n h
  show wpAny _ A ((compTurn (.ListComp elt [⟨target, iter, ifs, 0⟩] scope pos) 0 it acc env).onRaise (fun x => do noteFrame x env; theTreesLotGoes x)) _ _ s
  refine wpAny_noted ?_
  rw [compTurn_list]
  refine wpAny_bind (wpAny_standAt (wpAny_bind (wpAny_mono (turn n s hI) (fun r s₁ h₁ => ?_) fun _ _ h' => h')))
  cases r with
  | none => exact wpAny_pure h₁
  | some v =>
    refine wpAny_bind (wpAny_mono h₁ (fun _ s₀ h₀' => ?_) fun _ _ h' => h')
    refine wpAny_bind (wpAny_mono h₀' (fun _ s₂ h₂ => wpAny_bind (wpAny_mono h₂ (fun ok s₃ h₃ => ?_) fun _ _ h' => h')) fun _ _ h' => h')
    cases ok with
    | false => exact wpAny_pure ⟨rfl, h₃⟩
    | true => exact wpAny_bind (wpAny_bind (wpAny_mono h₃ (fun x s₄ h₄ => wpAny_bind (wpAny_mono h₄ (fun _ s₅ h₅ => wpAny_pure (wpAny_pure ⟨rfl, h₅⟩)) fun _ _ h' => h')) fun _ _ h' => h'))

/-- how a turn of a comprehension ends -/
noncomputable def CEnd (h₀ : Heap) (L : Addr) (m : Str → Option Value) (wr : List Addr) (own : List (Addr × Obj)) (C D : Addr) (ys : List Value) (Jn : List (Addr × Obj) → Prop) (s₁ s₂ : Shared) : Prop :=
  ∃ h' tk news' oC mC, s₂ = { s₁ with heap := h', toks := tk } ∧ Fr h₀ L h' m ∧ NsObj oC mC ∧ News h₀ L h' ((C, oC) :: (D, lst ys) :: (news' ++ own)) ∧ (∀ p ∈ news', p.1 ∉ wr ∧ p.1 ≠ C ∧ p.1 ≠ D) ∧ Jn news'
noncomputable def CStep (prog : Program) (w : World) (A : Around) (h₀ : Heap) (L : Addr) (m : Str → Option Value) (env : Env) (elt : PySem.Expr) (ifs : List PySem.Expr) (scope : Scope) (cl : List (Str × Addr)) (s : Shared) (fp wr : List Addr) (n : Nat) (J : Nat → List Value → List (Addr × Obj) → Prop) (bnd : Nat → (Str → Option Value) → Prop) : Prop :=
  ∀ i ys news₁ own h₁ tk₁ C oC mC D (E' : Value → Shared → Prop), i < n → J i ys news₁ → bnd i mC → (∀ p ∈ news₁, p.1 ∉ wr ∧ p.1 ≠ C ∧ p.1 ≠ D) → (∀ p ∈ own, p.1 ∈ fp ∧ p.1 ≠ C ∧ p.1 ≠ D) → (∀ b ∈ wr, ∃ o, (b, o) ∈ own) → C ≠ D → Fr h₀ L h₁ m → NsObj oC mC →
    News h₀ L h₁ ((C, oC) :: (D, lst ys) :: (news₁ ++ own)) →
    wpAny (model prog w) A (tst ifs (compEnvC scope cl C env)) (fun ok s₃ => if ok = true then
      wpAny (model prog w) A (eval elt (compEnvC scope cl C env)) (fun y s₄ => CEnd h₀ L m wr own C D ys (J (i + 1) (ys ++ [y])) { s with heap := h₁, toks := tk₁ } s₄) E' s₃
      else CEnd h₀ L m wr own C D ys (J (i + 1) ys) { s with heap := h₁, toks := tk₁ } s₃) E' { s with heap := h₁, toks := tk₁ }
noncomputable def CAsg (prog : Program) (w : World) (A : Around) (h₀ : Heap) (L : Addr) (env : Env) (target : PySem.Expr) (scope : Scope) (cl : List (Str × Addr)) (n : Nat) (P : Nat → Value → Heap → Prop) (J : Nat → List Value → List (Addr × Obj) → Prop) (bnd : Nat → (Str → Option Value) → Prop) : Prop :=
  ∀ i v ys news₁ (s : Shared) (C : Addr) mC (Q : Unit → Shared → Prop) (E' : Value → Shared → Prop), i < n → P i v s.heap → J i ys news₁ → News h₀ L s.heap news₁ → s.heap.Ns C mC →
    (∀ h' tk mC', bnd i mC' → h'.Ns C mC' → (∀ c o, c ≠ C → s.heap.get? c = some o → h'.get? c = some o) → Q () { s with heap := h', toks := tk }) →
    wpAny (model prog w) A (assign target (compEnvC scope cl C env) v) Q E' s

theorem mem3 {α : Type} {a b p : α} {l : List α} (h : p ∈ a :: b :: l) : p = a ∨ p = b ∨ p ∈ l := by
  rcases List.mem_cons.mp h with h | h
  · exact .inl h
  · exact .inr (List.mem_cons.mp h)

theorem comp_block {elt target iter : PySem.Expr} {ifs : List PySem.Expr} {scope : Scope} {cl : List (Str × Addr)} {pos : Pos} {s₂ : Shared} {I : Addr} {fp wr : List Addr} {n : Nat} {P Md : Nat → Value → Heap → Prop} {St : Nat → Heap → Prop} {news : List (Addr × Obj)}
    {J : Nat → List Value → List (Addr × Obj) → Prop} {bnd : Nat → (Str → Option Value) → Prop} {RR : Value → Addr → Result → Shared → Prop}
    (W : KTurns prog w A target I fp wr n P Md St) (hsz : n ≤ sizeLine) (hself : ∀ (s : Shared) (Q : Value → Shared → Prop) (E : Value → Shared → Prop), St 0 s.heap → Q (.ref I) s → wpAny (model prog w) A (pyIter (.ref I)) Q E s)
    (hcell : ∀ y ∈ scope.names, y.2 ≠ .cell) (hkind : scope.kind = .function) (hst : St 0 s₂.heap) (hIo : ∀ i h, St i h → ∀ b ∈ wr, ∃ o, h.get? b = some o) (hfp : ∀ b ∈ fp, b < s₂.heap.objs.size) (hLf : L ∉ fp) (hwr : ∀ b ∈ wr, h₀.get? b = none)
    (F : Fr h₀ L s₂.heap m) (N : News h₀ L s₂.heap news) (hnw : ∀ p ∈ news, p.1 ∉ wr) (hlen : ∀ i ys nw, J i ys nw → ys.length ≤ i)
    (h0 : J 0 [] news) (asg : CAsg prog w A h₀ L env target scope cl n P J bnd) (step : CStep prog w A h₀ L m env elt ifs scope cl s₂ fp wr n J bnd)
    (hRR : ∀ D C h tk m' ys news', Fr h₀ L h m → News h₀ L h ((D, lst ys) :: news') → (∀ p ∈ news', p.1 ≠ D) → h.Ns C m' → h₀.get? C = none → h₀.get? D = none → C ≠ L → D ≠ L → C ≠ D → (∀ p ∈ news', p.1 ≠ C) → J n ys news' → RR (.ref D) C (.ok .next) { s₂ with heap := h, toks := tk }) :
    wpAny (model prog w) A (newList []) (fun acc s₃ => wpAny (model prog w) A (newFunctionEnv scope env.globals cl [] env.qual none .none (some env)) (fun cenv s₄ =>
      codeAny (model prog w) A (.compStart (.ListComp elt [⟨target, iter, ifs, 0⟩] scope pos) 0 (.ref I) acc { cenv with scope := relabel scope env }) (RR acc cenv.locals) s₄) E s₃) E s₂ := by
  refine wpAny_newObj_type (wpAny_newFunctionEnv hcell (by intro y hy; simp at hy) (fun h₁ hns₁ hsb₁ => ?_) hkind)
  dsimp only at hns₁ hsb₁ ⊢
  generalize hH2 : s₂.heap.push { cls := .type "list", dict := none, data := .seq ([] : List Value).toArray } = H2 at hns₁ hsb₁ ⊢
  have hC : H2.objs.size = s₂.heap.objs.size + 1 := by rw [← hH2, Heap.size_push]
  have hDC : s₂.heap.objs.size ≠ H2.objs.size := by rw [hC]; exact Nat.ne_of_lt (Nat.lt_succ_self _)
  have below : ∀ b, b < s₂.heap.objs.size → b ≠ H2.objs.size ∧ b ≠ s₂.heap.objs.size := fun b hb => ⟨by rw [hC]; exact Nat.ne_of_lt (Nat.lt_succ_of_lt hb), Nat.ne_of_lt hb⟩
  have hDf : s₂.heap.objs.size ∉ fp := fun hm => Nat.lt_irrefl _ (hfp _ hm)
  have hCf : H2.objs.size ∉ fp := fun hm => by have := hfp _ hm; rw [hC] at this; exact Nat.lt_irrefl _ (Nat.lt_of_succ_lt this)
  have old : ∀ b o, s₂.heap.get? b = some o → h₁.get? b = some o := fun b o e => hsb₁.extBut b o (below b (Heap.lt_size e)).1 (Heap.get?_push_of_some _ (hH2 ▸ Heap.get?_push_of_some _ e))
  have hacc : h₁.get? s₂.heap.objs.size = some (lst []) := hsb₁.extBut _ _ hDC (Heap.get?_push_of_some _ (hH2 ▸ Heap.get?_push_size _ rfl))
  have hst₁ : St 0 h₁ := W.frame _ _ _ hst fun b _ o e => old b o e
  have fresh : ∀ a, s₂.heap.objs.size ≤ a → s₂.heap.get? a = none := fun a ha => by
    cases e : s₂.heap.get? a with
    | none => rfl
    | some o' => exact absurd (Heap.lt_size e) (Nat.not_lt.mpr ha)
  have fresh₀ : ∀ a, s₂.heap.objs.size ≤ a → h₀.get? a = none := fun a ha => by
    cases e : h₀.get? a with
    | none => rfl
    | some o' => have := F.keep a o' e; rw [fresh a ha] at this; cases this
  have hD₀ : h₀.get? s₂.heap.objs.size = none := fresh₀ _ (Nat.le_refl _)
  have hC₀ : h₀.get? H2.objs.size = none := fresh₀ _ (by rw [hC]; exact Nat.le_succ _)
  have hLlt : L < s₂.heap.objs.size := F.ns.lt
  have hDL : s₂.heap.objs.size ≠ L := Ne.symm (below L hLlt).2
  have hCL : H2.objs.size ≠ L := Ne.symm (below L hLlt).1
  have hLw : L ∉ wr := fun h => hLf (W.sub _ h)
  have hCw : H2.objs.size ∉ wr := fun h => hCf (W.sub _ h)
  have hDw : s₂.heap.objs.size ∉ wr := fun h => hDf (W.sub _ h)
  have oldw : ∀ b o, h₀.get? b = some o → b ∉ wr := fun b o e hb => by rw [hwr b hb] at e; cases e
  have off₀ : ∀ p ∈ news, p.1 ∉ wr ∧ p.1 ≠ H2.objs.size ∧ p.1 ≠ s₂.heap.objs.size := fun p hp => ⟨hnw p hp, (below _ (Heap.lt_size (N p hp).1)).1, (below _ (Heap.lt_size (N p hp).1)).2⟩
  have loop : ∀ s₃ : Shared, s₃ = { s₂ with heap := h₁, toks := s₂.toks + ([] : List (Str × Value)).length } →
      codeAny (model prog w) A (.compLoop (.ListComp elt [⟨target, iter, ifs, 0⟩] scope pos) 0 (.ref I) (.ref s₂.heap.objs.size) (compEnvC scope cl H2.objs.size env))
        (RR (.ref s₂.heap.objs.size) H2.objs.size) s₃ := by
    rintro s₃ rfl
    refine comp_loop
      (fun k s' => ∃ h' tk i ys m' news', s' = { s₂ with heap := h', toks := tk } ∧ i ≤ n ∧ k = n + 1 - i ∧ St i h' ∧ Fr h₀ L h' m ∧ h'.Ns H2.objs.size m' ∧ News h₀ L h' ((s₂.heap.objs.size, lst ys) :: news') ∧
        (∀ p ∈ news', p.1 ∉ wr ∧ p.1 ≠ H2.objs.size ∧ p.1 ≠ s₂.heap.objs.size) ∧ J i ys news') ?_ (n + 1)
      ⟨h₁, _, 0, [], _, news, rfl, Nat.zero_le _, rfl, hst₁, F.keeps old, hns₁, fun p hp => ?_, off₀, h0⟩
    · rintro k s' ⟨h', tk, i, ys, m', news', rfl, hi, rfl, hst', F', hn', N', off', hJ⟩
      have next : ∀ h₂ : Heap, (∀ b o, b ∉ wr → h'.get? b = some o → h₂.get? b = some o) → Fr h₀ L h₂ m ∧ News h₀ L h₂ ((s₂.heap.objs.size, lst ys) :: news') ∧ h₂.Ns H2.objs.size m' := fun h₂ hk₂ =>
        ⟨⟨F'.ns.at' fun o e => hk₂ _ o hLw e, fun b o e => hk₂ b o (oldw b o e) (F'.keep b o e), F'.above⟩, fun p hp => ⟨hk₂ _ _ (by
          rcases List.mem_cons.mp hp with rfl | hp
          · exact hDw
          · exact (off' p hp).1) (N' p hp).1, (N' p hp).2⟩, hn'.at' fun o e => hk₂ _ o hCw e⟩
      by_cases hlt : i < n
      · refine W.item i _ _ _ hlt hst' fun v h₂ tk₂ hMd hk₂ => ?_
        refine W.go i v _ _ _ hMd fun h₃ hP hst₃ hk₃ => ?_
        obtain ⟨F₃, N₃, hn₃⟩ := next h₃ fun b o hb x => hk₃ b o hb (hk₂ b o hb x)
        have N₃' : News h₀ L h₃ news' := fun p hp => N₃ p (List.mem_cons_of_mem _ hp)
        refine asg i v ys news' _ H2.objs.size m' _ _ hlt hP hJ N₃' hn₃ fun h₄ tk₄ mC hb hn₄ hs₄ => ?_
        have hst₄ : St (i + 1) h₄ := W.frame _ _ _ hst₃ fun b hb o e => hs₄ b o (fun q => hCf (by have q' : b = H2.objs.size := q; rw [← q']; exact hb)) e
        obtain ⟨oC, heC, hoC⟩ := ns_obj hn₄
        have F₄ : Fr h₀ L h₄ m := ⟨F₃.ns.at' fun o e => hs₄ _ o (Ne.symm hCL) e, fun c o e => hs₄ c o (fun q => by rw [q, hC₀] at e; cases e) (F₃.keep c o e), F₃.above⟩
        have Nown : News h₀ L h₄ (PyProof.Rows.ownOf h₀ fp h₄) := news_ownOf hLf
        have N₄ : News h₀ L h₄ ((H2.objs.size, oC) :: (s₂.heap.objs.size, lst ys) :: (news' ++ PyProof.Rows.ownOf h₀ fp h₄)) := fun p hp => by
          rcases mem3 hp with rfl | rfl | hp
          · exact ⟨heC, hCL, hC₀⟩
          · have z := N₃ _ (List.mem_cons_self)
            exact ⟨hs₄ _ _ hDC z.1, z.2⟩
          · rcases List.mem_append.mp hp with hp | hp
            · have z := N₃' p hp
              exact ⟨hs₄ _ _ (off' p hp).2.1 z.1, z.2⟩
            · exact Nown p hp
        have hown : ∀ p ∈ PyProof.Rows.ownOf h₀ fp h₄, p.1 ∈ fp ∧ p.1 ≠ H2.objs.size ∧ p.1 ≠ s₂.heap.objs.size := fun p hp => by
          have z := ownOf_sub p hp
          exact ⟨z, fun q => hCf (q ▸ z), fun q => hDf (q ▸ z)⟩
        have hstN : ∀ h₅ nw, Fr h₀ L h₅ m → News h₀ L h₅ (nw ++ PyProof.Rows.ownOf h₀ fp h₄) → St (i + 1) h₅ := fun h₅ nw F₅ N₅ => W.frame _ _ _ hst₄ fun b hb o e => by
          cases hn : h₀.get? b with
          | some o₀ =>
            have : o₀ = o := by have q := F₄.keep b o₀ hn; rw [e] at q; exact (Option.some.inj q).symm
            exact this ▸ F₅.keep b o₀ hn
          | none => exact (N₅ _ (List.mem_append_right _ (mem_ownOf hb hn e))).1
        have fin : ∀ ys' s₅, CEnd h₀ L m wr (PyProof.Rows.ownOf h₀ fp h₄) H2.objs.size s₂.heap.objs.size ys (J (i + 1) ys') { s₂ with heap := h₄, toks := tk₄ } s₅ → ∃ h' tk m' news', s₅ = { s₂ with heap := h', toks := tk } ∧ St (i + 1) h' ∧ Fr h₀ L h' m ∧ h'.Ns H2.objs.size m' ∧
            News h₀ L h' ((s₂.heap.objs.size, lst ys) :: news') ∧ (∀ p ∈ news', p.1 ∉ wr ∧ p.1 ≠ H2.objs.size ∧ p.1 ≠ s₂.heap.objs.size) ∧ J (i + 1) ys' news' := by
          rintro ys' s₅ ⟨h₅, tk₅, nw, oC', mC', rfl, F₅, hoC', N₅, off₅, hJ₅⟩
          refine ⟨h₅, tk₅, mC', nw, rfl, hstN h₅ nw F₅ fun p hp => N₅ p (.tail _ (.tail _ hp)), F₅, hoC'.ns (N₅ _ (.head _)).1, fun p hp => N₅ p (.tail _ ?_), off₅, hJ₅⟩
          rcases List.mem_cons.mp hp with rfl | hp
          · exact .head _
          · exact .tail _ (List.mem_append_left _ hp)
        refine wpAny_mono (step i ys news' _ h₄ tk₄ H2.objs.size oC mC s₂.heap.objs.size _ hlt hJ hb off' hown (fun b hb => by obtain ⟨o, ho⟩ := hIo _ _ hst₄ b hb; exact ⟨o, mem_ownOf (W.sub b hb) (hwr b hb) ho⟩) (Ne.symm hDC) F₄ hoC N₄) (fun ok s₅ h₅ => ?_) fun _ _ e => e
        cases ok with
        | false =>
          obtain ⟨h₆, tk₆, m₆, nw, rfl, hst₆, F₆, hn₆, N₆, off₆, hJ₆⟩ := fin _ _ h₅
          exact ⟨n + 1 - (i + 1), by omega, h₆, tk₆, i + 1, ys, m₆, nw, rfl, hlt, rfl, hst₆, F₆, hn₆, N₆, off₆, hJ₆⟩
        | true =>
          refine wpAny_mono h₅ (fun y s₆ h₆ => ?_) fun _ _ e => e
          obtain ⟨h₆, tk₆, m₆, nw, rfl, hst₆, F₆, hn₆, N₆, off₆, hJ₆⟩ := fin _ _ h₆
          refine append_at (hsz := by show ys.toArray.size ≤ sizeLine; rw [List.size_toArray]; exact Nat.le_trans (hlen _ _ _ hJ) (Nat.le_trans hi hsz)) (N₆ _ (.head _)).1 fun h₇ hs₇ hD₇ => ?_
          refine ⟨n + 1 - (i + 1), by omega, h₇, tk₆, i + 1, ys ++ [y], m₆, nw, rfl, hlt, rfl, W.frame _ _ _ hst₆ fun b hb o e => hs₇.extBut b o (fun q => hDf (q ▸ hb)) e, F₆.change hs₇ hDL hD₀, hn₆.sameBut hs₇ (Ne.symm hDC), fun p hp => ?_, off₆, hJ₆⟩
          rcases List.mem_cons.mp hp with rfl | hp
          · exact ⟨hD₇.trans (congrArg some (lst_snoc ys y)), hDL, hD₀⟩
          · exact ⟨hs₇.extBut _ _ (off₆ p hp).2.2 (N₆ p (.tail _ hp)).1, (N₆ p (.tail _ hp)).2⟩
      · obtain rfl : i = n := Nat.le_antisymm hi (Nat.not_lt.mp hlt)
        refine W.done _ _ _ hst' fun h₂ tk₂ hk₂ => ?_
        obtain ⟨F₂, N₂, hn₂⟩ := next h₂ hk₂
        exact hRR _ _ h₂ tk₂ _ ys news' F₂ N₂ (fun p hp => (off' p hp).2.2) hn₂ hC₀ hD₀ hCL hDL (Ne.symm hDC) (fun p hp => (off' p hp).2.1) hJ
    · rcases List.mem_cons.mp hp with rfl | hp
      · exact ⟨hacc, hDL, hD₀⟩
      · exact ⟨old _ _ (N p hp).1, (N p hp).2⟩
  exact codeAny_compStart_list (loop _ rfl) (hself _ _ _ hst₁ (loop _ rfl))

/-- an iterator and what a comprehension makes of it -/
noncomputable def CompAt (prog : Program) (w : World) (A : Around) (h₀ : Heap) (L : Addr) (m : Str → Option Value) (env : Env) (elt target : PySem.Expr) (ifs : List PySem.Expr) (scope : Scope) (cl : List (Str × Addr)) (Fin : Shared → List Value → List (Addr × Obj) → Prop) (it : Value) (s₂ : Shared) : Prop :=
  ∃ (I : Addr) (fp wr : List Addr) (n : Nat) (P Md : Nat → Value → Heap → Prop) (St : Nat → Heap → Prop) (news : List (Addr × Obj)) (J : Nat → List Value → List (Addr × Obj) → Prop) (bnd : Nat → (Str → Option Value) → Prop),
    it = .ref I ∧ KTurns prog w A target I fp wr n P Md St ∧ n ≤ sizeLine ∧ (∀ (s : Shared) (Q : Value → Shared → Prop) (E : Value → Shared → Prop), St 0 s.heap → Q (.ref I) s → wpAny (model prog w) A (pyIter (.ref I)) Q E s) ∧
    St 0 s₂.heap ∧ (∀ i h, St i h → ∀ b ∈ wr, ∃ o, h.get? b = some o) ∧ (∀ b ∈ fp, b < s₂.heap.objs.size) ∧ L ∉ fp ∧ (∀ b ∈ wr, h₀.get? b = none) ∧ Fr h₀ L s₂.heap m ∧ News h₀ L s₂.heap news ∧ (∀ p ∈ news, p.1 ∉ wr) ∧ (∀ i ys nw, J i ys nw → ys.length ≤ i) ∧
    J 0 [] news ∧ CAsg prog w A h₀ L env target scope cl n P J bnd ∧ CStep prog w A h₀ L m env elt ifs scope cl s₂ fp wr n J bnd ∧ ∀ ys nw, J n ys nw → Fin s₂ ys nw

noncomputable def FinV (h₀ : Heap) (L : Addr) (m : Str → Option Value) (Q : Value → Shared → Prop) (s : Shared) (ys : List Value) (news : List (Addr × Obj)) : Prop :=
  ∀ D h tk, Fr h₀ L h m → News h₀ L h ((D, lst ys) :: news) → (∀ p ∈ news, p.1 ≠ D) → Q (.ref D) { s with heap := h, toks := tk }
noncomputable def FinW (h₀ : Heap) (L : Addr) (m : Str → Option Value) (y : Str) (Q : Flow → Shared → Prop) (s : Shared) (ys : List Value) (news : List (Addr × Obj)) : Prop :=
  ∀ D h tk, Fr h₀ L h (fun z => if z = y then some (.ref D) else m z) → News h₀ L h ((D, lst ys) :: news) → (∀ p ∈ news, p.1 ≠ D) → Q .next { s with heap := h, toks := tk }

theorem comp_eval {elt target iter : PySem.Expr} {ifs : List PySem.Expr} {scope : Scope} {cl : List (Str × Addr)} {pos : Pos} {Q : Value → Shared → Prop} (_F₀ : Fr h₀ L s.heap m)
    (hclos : closureFor scope env = pure cl) (hcell : ∀ y ∈ scope.names, y.2 ≠ .cell) (hkind : scope.kind = .function)
    (hnames : ∀ y ∈ scope.names, y.2 = .local → scope.names.lookup y.1 = some .local)
    (h : wpAny (model prog w) A (eval iter env) (fun xv s₁ => wpAny (model prog w) A (pyIter xv) (CompAt prog w A h₀ L m env elt target ifs scope cl (FinV h₀ L m Q)) E s₁) E s)
    (hs : ∀ x, foldedSetIterable iter env x = pure x := by intro _; rfl) :
    wpAny (model prog w) A (eval (.ListComp elt [⟨target, iter, ifs, 0⟩] scope pos) env) Q E s := by
  rw [eval_ListComp]
  refine wpAny_comprehension_free (use := none) rfl hs hclos hkind hnames (wpAny_mono h (fun xv s₁ h₁ => wpAny_mono h₁ (fun it s₂ h₂ => ?_) fun _ _ e => e) fun _ _ e => e)
  obtain ⟨I, fp, wr, n, P, Md, St, news, J, bnd, rfl, W, hsz, hself, hst, hIo, hfp, hLf, hwr, F, N, hnw, hlen, h0, asg, step, fin⟩ := h₂
  refine comp_block W hsz hself hcell hkind hst hIo hfp hLf hwr F N hnw hlen h0 asg step ?_
  intro D C h tk m' ys news' F' N' o1 hn hC₀ hD₀ hCL hDL hCD offC hJ
  refine ⟨m', hn, fun h'' hs'' => fin _ _ hJ D h'' tk (F'.change hs'' hCL hC₀) (fun p hp => ?_) o1⟩
  refine ⟨hs''.extBut _ _ ?_ (N' p hp).1, (N' p hp).2⟩
  rcases List.mem_cons.mp hp with rfl | hp
  · exact Ne.symm hCD
  · exact offC p hp

theorem comp_assign {elt target iter : PySem.Expr} {ifs : List PySem.Expr} {y : Str} {py : Pos} {scope : Scope} {cl : List (Str × Addr)} {pos spos : Pos} {Q : Flow → Shared → Prop} (_F₀ : Fr h₀ L s.heap m) (hLe : env.locals = L)
    (hsw : swapsWith (.ListComp elt [⟨target, iter, ifs, 0⟩] scope pos) (some (.Name y py)) spos.line env = pure true)
    (hclos : closureFor scope env = pure cl) (hcell : ∀ z ∈ scope.names, z.2 ≠ .cell) (hkind : scope.kind = .function)
    (hnames : ∀ z ∈ scope.names, z.2 = .local → scope.names.lookup z.1 = some .local)
    (hy : env.kindOf y = some .local) (hp : (env.scope.kind == .class || (env.scope.kind == .module && env.locals != env.globals)) = false)
    (h : wpAny (model prog w) A (eval iter env) (fun xv s₁ => wpAny (model prog w) A (pyIter xv) (CompAt prog w A h₀ L m env elt target ifs scope cl (FinW h₀ L m y Q)) E s₁) E s)
    (hs : ∀ x, foldedSetIterable iter env x = pure x := by intro _; rfl) :
    wpAny (model prog w) A (exec (.Assign [.Name y py] (.ListComp elt [⟨target, iter, ifs, 0⟩] scope pos) spos) env) Q E s := by
  subst hLe
  rw [exec_Assign_Name_used _ _ _ _ hsw]
  refine wpAny_bind (wpAny_standAt (wpAny_bind ?_))
  show wpAny _ A (do let _ ← comprehension (.ListComp elt [⟨target, iter, ifs, 0⟩] scope pos) scope env _ (newList []) false (eval iter env) (some (assign (.Name y py) env))) _ _ s
  refine wpAny_bind (wpAny_mono (wpAny_comprehension_free (use := some (assign (.Name y py) env)) (Q := fun _ s' => Q .next s') rfl hs hclos hkind hnames
    (wpAny_mono h (fun xv s₁ h₁ => wpAny_mono h₁ (fun it s₂ h₂ => ?_) fun _ _ e => e) fun _ _ e => e)) (fun _ s' hq => wpAny_pure (wpAny_pure hq)) fun _ _ e => e)
  obtain ⟨I, fp, wr, n, P, Md, St, news, J, bnd, rfl, W, hsz, hself, hst, hIo, hfp, hLf, hwr, F, N, hnw, hlen, h0, asg, step, fin⟩ := h₂
  refine comp_block W hsz hself hcell hkind hst hIo hfp hLf hwr F N hnw hlen h0 asg step ?_
  intro D C h' tk m' ys news' F' N' o1 hn hC₀ hD₀ hCL hDL hCD offC hJ
  show wpAny _ A (assign (.Name y py) env (.ref D)) _ _ _
  refine wpAny_assign_Name (wpAny_storeName_local hy F'.ns (fun h₂ hn₂ hs₂ => ?_) hp)
  have hL₀ : h₀.get? env.locals = none := Heap.get?_none_of_le F'.above
  have F₂ : Fr h₀ env.locals h₂ (fun z => if z = y then some (.ref D) else m z) := ⟨hn₂, fun b o e => hs₂.extBut b o (fun q => by rw [q, hL₀] at e; cases e) (F'.keep b o e), F'.above⟩
  refine ⟨m', hn.sameBut hs₂ hCL, fun h'' hs'' => fin _ _ hJ D h'' _ (F₂.change hs'' hCL hC₀) (fun p hp => ?_) o1⟩
  have z : h₂.get? p.1 = some p.2 := hs₂.extBut _ _ (N' p hp).2.1 (N' p hp).1
  refine ⟨hs''.extBut _ _ ?_ z, (N' p hp).2⟩
  rcases List.mem_cons.mp hp with rfl | hp
  · exact Ne.symm hCD
  · exact offC p hp
end
end

/-! C7 -/
section
open PySem.Calls PyProof.Rows.LCg
section
variable {prog : Program} {w : World} {A : Around} {E : Value → Shared → Prop} {s : Shared} {env : Env} {h₀ : Heap} {L : Addr} {m : Str → Option Value}

noncomputable def bindAll : List (Str × Pos) → List Value → (Str → Option Value) → (Str → Option Value)
  | x :: xs, v :: vs, m => bindAll xs vs (fun z => if z = x.1 then some v else m z)
  | _, _, m => m

theorem asg_names {cenv : Env} (hp : (cenv.scope.kind == .class || (cenv.scope.kind == .module && cenv.locals != cenv.globals)) = false) : ∀ (names : List (Str × Pos)) (vs : List Value) (s : Shared) (mC : Str → Option Value) (Q : Unit → Shared → Prop),
    (∀ x ∈ names, cenv.kindOf x.1 = some .local) → names.length = vs.length → s.heap.Ns cenv.locals mC →
    (∀ h' tk, h'.Ns cenv.locals (bindAll names vs mC) → (∀ c o, c ≠ cenv.locals → s.heap.get? c = some o → h'.get? c = some o) → Q () { s with heap := h', toks := tk }) →
    wpAny (model prog w) A (assignInOrder (names.map fun x => assign (.Name x.1 x.2) cenv) vs) Q E s
  | [], [], s, mC, Q, _, _, hn, h => assignInOrder_nil (h s.heap s.toks hn fun _ _ _ e => e)
  | x :: xs, v :: vs, s, mC, Q, hk, hl, hn, h => by
    refine assignInOrder_cons ?_
    refine wpAny_assign_Name (wpAny_storeName_local (hk x (.head _)) hn (fun h₂ hn₂ hs₂ => ?_) hp)
    exact asg_names hp xs vs _ _ _ (fun y hy => hk y (.tail _ hy)) (Nat.succ.inj hl) hn₂ fun h' tk hn' hk' => h h' tk hn' fun c o hc e => hk' c o hc (hs₂.extBut c o hc e)
  | [], _ :: _, _, _, _, _, hl, _, _ => nomatch hl
  | _ :: _, [], _, _, _, _, hl, _, _ => nomatch hl

theorem asg_list {elts : List PySem.Expr} {cenv : Env} {k : Nat} {tp : Pos} {names : List (Str × Pos)} {l : Addr} {vs : List Value} {mC : Str → Option Value} {Q : Unit → Shared → Prop} (hh : A.handled = none)
    (hp : (cenv.scope.kind == .class || (cenv.scope.kind == .module && cenv.locals != cenv.globals)) = false)
    (hel : (assignEach elts cenv).map (·.2) = names.map fun x => assign (.Name x.1 x.2) cenv) (hstar : (assignEach elts cenv).findIdx? (·.1) = none) (hnl : (assignEach elts cenv).length = names.length)
    (hk : ∀ x ∈ names, cenv.kindOf x.1 = some .local) (hl : s.heap.IsList l vs.toArray) (hlen : names.length = vs.length) (hn : s.heap.Ns cenv.locals mC)
    (h : ∀ h' tk, h'.Ns cenv.locals (bindAll names vs mC) → (∀ c o, c ≠ cenv.locals → s.heap.get? c = some o → h'.get? c = some o) → Q () { s with heap := h', toks := tk }) :
    wpAny (model prog w) A (assign (.Tuple elts k tp) cenv (.ref l)) Q E s := by
  rw [arm_assign_Tuple]
  refine wpAny_bind (wpAny_standAt ?_)
  unfold unpack
  rw [show (assignEach elts cenv).length = vs.toArray.size by rw [hnl, hlen, List.size_toArray], hstar]
  refine wpAny_bind (wpAny_holding (kun_itemsOf hh hl fun h' he => ?_))
  have up : ∀ c o, s.heap.get? c = some o → h'.get? c = some o := fun c o e => he c o (Nat.ne_of_lt (Heap.lt_size e)) e
  rw [hel]
  exact asg_names hp names vs _ mC _ hk hlen (hn.at' fun o e => up _ o e) fun h₂ tk hn₂ hk₂ => h h₂ tk hn₂ fun c o hc e => hk₂ c o hc (up c o e)

theorem cenv_hp {scope : Scope} {cl : List (Str × Addr)} {C : Addr} (hkind : scope.kind = .function) : ((compEnvC scope cl C env).scope.kind == .class || ((compEnvC scope cl C env).scope.kind == .module && (compEnvC scope cl C env).locals != (compEnvC scope cl C env).globals)) = false := by
  simp [compEnvC, relabel, hkind]

/-- the target of a comprehension is one name -/
theorem casg_name {x : Str} {px : Pos} {scope : Scope} {cl : List (Str × Addr)} {n : Nat} {vs : List Value} {J : Nat → List Value → List (Addr × Obj) → Prop} (hkind : scope.kind = .function) (hx : scope.names.lookup x = some .local) :
    CAsg prog w A h₀ L env (.Name x px) scope cl n (fun i v _ => vs[i]? = some v) J (fun i mC => ∃ v, vs[i]? = some v ∧ mC x = some v) := by
  intro i v ys news₁ s C mC Q E' hi hv hJ N hn h
  exact wpAny_assign_Name (wpAny_storeName_local (env := compEnvC scope cl C env) (lookup_relabel_local hx) hn (fun h₂ hn₂ hs₂ => h h₂ _ _ ⟨v, hv, if_pos rfl⟩ hn₂ fun c o hc e => hs₂.extBut c o hc e) (cenv_hp hkind))
/-- the target is one name, over a range -/
theorem casg_int {x : Str} {px : Pos} {scope : Scope} {cl : List (Str × Addr)} {n : Nat} {J : Nat → List Value → List (Addr × Obj) → Prop} (hkind : scope.kind = .function) (hx : scope.names.lookup x = some .local) :
    CAsg prog w A h₀ L env (.Name x px) scope cl n (fun i v _ => ∃ t, v = .int ((0 : Int) + (i : Int)) t) J (fun i mC => ∃ t, mC x = some (.int (i : Int) t)) := by
  intro i v ys news₁ s C mC Q E' hi hv hJ N hn h
  obtain ⟨t, rfl⟩ := hv
  exact wpAny_assign_Name (wpAny_storeName_local (env := compEnvC scope cl C env) (lookup_relabel_local hx) hn (fun h₂ hn₂ hs₂ => h h₂ _ _ ⟨t, by rw [if_pos rfl, Int.zero_add]⟩ hn₂ fun c o hc e => hs₂.extBut c o hc e) (cenv_hp hkind))
/-- the target is a tuple of names, over a list of lists of the ledger -/
theorem casg_tup {names : List (Str × Pos)} {elts : List PySem.Expr} {k : Nat} {tp : Pos} {scope : Scope} {cl : List (Str × Addr)} {n : Nat} {vs : List Value} {J : Nat → List Value → List (Addr × Obj) → Prop} (T : Nat → List Value → Prop)
    (hh : A.handled = none) (hkind : scope.kind = .function) (hx : ∀ x ∈ names, scope.names.lookup x.1 = some .local)
    (hel : ∀ C, (assignEach elts (compEnvC scope cl C env)).map (·.2) = names.map fun x => assign (.Name x.1 x.2) (compEnvC scope cl C env)) (hstar : ∀ C, (assignEach elts (compEnvC scope cl C env)).findIdx? (·.1) = none) (hnl : ∀ C, (assignEach elts (compEnvC scope cl C env)).length = names.length)
    (hin : ∀ i v ys nw, J i ys nw → vs[i]? = some v → ∃ a o its, v = .ref a ∧ (a, o) ∈ nw ∧ o.cls = .type "list" ∧ (∃ k, o.data = .seq its.toArray k) ∧ names.length = its.length ∧ T i its) :
    CAsg prog w A h₀ L env (.Tuple elts k tp) scope cl n (fun i v _ => vs[i]? = some v) J (fun i mC => ∃ (its : List Value) (m' : Str → Option Value), T i its ∧ mC = bindAll names its m') := by
  intro i v ys news₁ s C mC Q E' hi hv hJ N hn h
  obtain ⟨a, o, its, rfl, hm, hc, ⟨kk, hd⟩, hl, hT⟩ := hin i v ys news₁ hJ hv
  exact asg_list hh (cenv_hp hkind) (hel C) (hstar C) (hnl C) (fun x hx' => lookup_relabel_local (hx x hx')) ⟨o, (N _ hm).1, hc, kk, hd⟩ hl hn fun h' tk hn' hk => h h' tk _ ⟨its, mC, hT, rfl⟩ hn' hk
/-- the target is a name and a tuple of names, over the numbered items of a list of lists -/
theorem casg_enum {x : Str} {px : Pos} {names : List (Str × Pos)} {elts : List PySem.Expr} {k k2 : Nat} {tp tp2 : Pos} {scope : Scope} {cl : List (Str × Addr)} {n : Nat} {vs : List Value} {J : Nat → List Value → List (Addr × Obj) → Prop} (T : Nat → List Value → Prop)
    (hh : A.handled = none) (hkind : scope.kind = .function) (hx0 : scope.names.lookup x = some .local) (hx : ∀ x ∈ names, scope.names.lookup x.1 = some .local)
    (hel : ∀ C, (assignEach elts (compEnvC scope cl C env)).map (·.2) = names.map fun x => assign (.Name x.1 x.2) (compEnvC scope cl C env)) (hstar : ∀ C, (assignEach elts (compEnvC scope cl C env)).findIdx? (·.1) = none) (hnl : ∀ C, (assignEach elts (compEnvC scope cl C env)).length = names.length)
    (hel2 : ∀ C, (assignEach [.Name x px, .Tuple elts k tp] (compEnvC scope cl C env)).map (·.2) = [assign (.Name x px) (compEnvC scope cl C env), assign (.Tuple elts k tp) (compEnvC scope cl C env)]) (hstar2 : ∀ C, (assignEach [.Name x px, .Tuple elts k tp] (compEnvC scope cl C env)).findIdx? (·.1) = none) (hnl2 : ∀ C, (assignEach [.Name x px, .Tuple elts k tp] (compEnvC scope cl C env)).length = 2)
    (hin : ∀ i v ys nw, J i ys nw → vs[i]? = some v → ∃ a o its, v = .ref a ∧ (a, o) ∈ nw ∧ o.cls = .type "list" ∧ (∃ k, o.data = .seq its.toArray k) ∧ names.length = its.length ∧ T i its) :
    CAsg prog w A h₀ L env (.Tuple [.Name x px, .Tuple elts k tp] k2 tp2) scope cl n (fun i v h => ∃ T t v', v = .ref T ∧ vs[i]? = some v' ∧ h.IsTuple T #[.int (i : Int) t, v']) J
      (fun i mC => ∃ (its : List Value) (m' : Str → Option Value) (t : Tok), T i its ∧ mC = bindAll names its (fun z => if z = x then some (.int (i : Int) t) else m' z)) := by
  intro i v ys news₁ s C mC Q E' hi hv hJ N hn h
  obtain ⟨TT, t, v', rfl, hv', hTT⟩ := hv
  obtain ⟨a, o, its, rfl, hm, hc, ⟨kk, hd⟩, hl, hT⟩ := hin i v' ys news₁ hJ hv'
  refine wpAny_assign_Tuple hh hTT ((hnl2 C).trans rfl) (hstar2 C) fun h₁ he => ?_
  have up : ∀ c o, s.heap.get? c = some o → h₁.get? c = some o := fun c o e => he c o (Nat.ne_of_lt (Heap.lt_size e)) e
  rw [hel2 C]
  refine assignInOrder_cons ?_
  refine wpAny_assign_Name (wpAny_storeName_local (env := compEnvC scope cl C env) (lookup_relabel_local hx0) (hn.at' fun o e => up _ o e) (fun h₂ hn₂ hs₂ => ?_) (cenv_hp hkind))
  refine assignInOrder_cons ?_
  have haC : a ≠ C := by
    rintro rfl
    obtain ⟨o', es, ep, e1, e2, _⟩ := hn
    rw [(N _ hm).1] at e1
    cases e1
    rw [hd] at e2
    cases e2
  refine asg_list hh (cenv_hp hkind) (hel C) (hstar C) (hnl C) (fun x hx' => lookup_relabel_local (hx x hx')) ⟨o, hs₂.extBut _ _ haC (up _ _ (N _ hm).1), hc, kk, hd⟩ hl hn₂ fun h' tk hn' hk => ?_
  refine assignInOrder_nil ?_
  exact h h' tk _ ⟨its, mC, t, hT, rfl⟩ hn' fun c o hc e => hk c o hc (hs₂.extBut c o hc (up c o e))

variable {elt target : PySem.Expr} {ifs : List PySem.Expr} {scope : Scope} {cl : List (Str × Addr)} {Fin : Shared → List Value → List (Addr × Obj) → Prop} {news : List (Addr × Obj)}
theorem comp_list {l : Addr} {vs : List Value} (J : Nat → List Value → List (Addr × Obj) → Prop) (bnd : Nat → (Str → Option Value) → Prop) (hh : A.handled = none) (hl : s.heap.IsList l vs.toArray) (hlL : l ≠ L) (F : Fr h₀ L s.heap m) (N : News h₀ L s.heap news)
    (hsz : vs.length ≤ sizeLine) (hlen : ∀ i ys nw, J i ys nw → ys.length ≤ i) (h0 : J 0 [] news) (asg : CAsg prog w A h₀ L env target scope cl vs.length (fun i v _ => vs[i]? = some v) J bnd)
    (step : ∀ s' I, I ≠ l → (∀ p ∈ news, p.1 < I) → CStep prog w A h₀ L m env elt ifs scope cl s' [I, l] [I] vs.length J bnd) (fin : ∀ s', s'.toks = s.toks → s' = { s with heap := s'.heap } → ∀ ys nw, J vs.length ys nw → Fin s' ys nw) :
    wpAny (model prog w) A (pyIter (.ref l)) (CompAt prog w A h₀ L m env elt target ifs scope cl Fin) E s := by
  obtain ⟨ol, hol, _⟩ := id hl
  have hlt : l < s.heap.objs.size := Heap.lt_size hol
  have hne : l ≠ s.heap.objs.size := Nat.ne_of_lt hlt
  refine wpAny_pyIter_list hl ?_
  have W := Walks.list (prog := prog) (w := w) hh s.heap.objs.size l hne vs.toArray
  simp only [List.size_toArray, List.getElem?_toArray] at W
  refine ⟨_, _, _, _, _, _, _, news, J, bnd, rfl, KTurns.ofWalks W fun i v s Q E st q => letGo_listiter st.1 q, hsz, fun s Q E st q => W.self 0 s Q E st q, ⟨⟨_, Heap.get?_push_size _ rfl, rfl, rfl⟩, hl.at fun o e => Heap.get?_push_of_some _ e⟩, ?_, ?_, ?_, ?_, F.push _, (fun p hp => ⟨Heap.get?_push_of_some _ (N p hp).1, (N p hp).2⟩), ?_, hlen, h0, asg, step _ _ (Ne.symm hne) fun p hp => Heap.lt_size (N p hp).1, fin _ rfl rfl⟩
  · intro i h st b hb
    rw [List.mem_singleton.mp hb]
    obtain ⟨o, e, _⟩ := st.1
    exact ⟨o, e⟩
  · intro b hb
    show b < (s.heap.push _).objs.size
    rw [Heap.size_push]
    rcases List.mem_cons.mp hb with rfl | hb
    · exact Nat.lt_succ_self _
    · rw [List.mem_singleton.mp hb]; exact Nat.lt_succ_of_lt hlt
  · intro hm
    rcases List.mem_cons.mp hm with e | hm
    · exact absurd F.ns.lt (e ▸ Nat.lt_irrefl _)
    · exact hlL (List.mem_singleton.mp hm).symm
  · intro b hb
    rw [List.mem_singleton.mp hb]
    exact next_is_new F
  · intro p hp hI
    exact absurd (Heap.lt_size (N p hp).1) ((List.mem_singleton.mp hI) ▸ Nat.lt_irrefl _)

theorem comp_range {x : Str} {px : Pos} {r : Addr} {n : Nat} {t u v : Tok} (J : Nat → List Value → List (Addr × Obj) → Prop) (bnd : Nat → (Str → Option Value) → Prop) (hh : A.handled = none) (hr : IsRange s.heap r 0 (n : Int) 1 t u v) (hsm : Builtin.Range.small 0 (n : Int) 1 = true) (hn : Builtin.Range.rangeSize 0 (n : Int) 1 = ((n : Nat) : Int))
    (F : Fr h₀ L s.heap m) (N : News h₀ L s.heap news) (hsz : n ≤ sizeLine) (hlen : ∀ i ys nw, J i ys nw → ys.length ≤ i) (h0 : J 0 [] news) (asg : CAsg prog w A h₀ L env (.Name x px) scope cl n (fun i v _ => ∃ t, v = .int ((0 : Int) + (i : Int)) t) J bnd)
    (step : ∀ s' I, (∀ p ∈ news, p.1 < I) → CStep prog w A h₀ L m env elt ifs scope cl s' [I] [I] n J bnd) (fin : ∀ s', s' = { s with heap := s'.heap } → ∀ ys nw, J n ys nw → Fin s' ys nw) :
    wpAny (model prog w) A (pyIter (.ref r)) (CompAt prog w A h₀ L m env elt (.Name x px) ifs scope cl Fin) E s := by
  refine wpAny_pyIter_range hr hsm ?_
  have W := range_walks (prog := prog) (w := w) (I := s.heap.objs.size) hh 0 n
  refine ⟨_, _, _, _, _, _, _, news, J, bnd, rfl, KTurns.ofWalks W fun i v s Q E st q => wpAny_of_eq rfl q, hsz, fun s Q E st q => W.self 0 s Q E st q, by show IsRangeIter _ _ _ _ _; rw [hn]; simpa using Heap.get?_push_size _ rfl, ?_, ?_, ?_, ?_, F.push _, (fun p hp => ⟨Heap.get?_push_of_some _ (N p hp).1, (N p hp).2⟩), ?_, hlen, h0, asg, step _ _ fun p hp => Heap.lt_size (N p hp).1, fin _ rfl⟩
  · intro i h st b hb
    rw [List.mem_singleton.mp hb]
    exact ⟨_, st⟩
  · intro b hb
    show b < (s.heap.push _).objs.size
    rw [Heap.size_push, List.mem_singleton.mp hb]
    exact Nat.lt_succ_self _
  · intro hm
    exact absurd F.ns.lt ((List.mem_singleton.mp hm) ▸ Nat.lt_irrefl _)
  · intro b hb
    rw [List.mem_singleton.mp hb]
    exact next_is_new F
  · intro p hp hI
    exact absurd (Heap.lt_size (N p hp).1) ((List.mem_singleton.mp hI) ▸ Nat.lt_irrefl _)

theorem ktN {a I : Nat} (k : Nat) (h : a < I) : a ≠ I + k := Nat.ne_of_lt (Nat.lt_of_lt_of_le h (Nat.le_add_right I k))
theorem comp_enum {elts : List PySem.Expr} {k : Nat} {tp : Pos} {l : Addr} {vs : List Value} (J : Nat → List Value → List (Addr × Obj) → Prop) (bnd : Nat → (Str → Option Value) → Prop) (hh : A.handled = none) (hl : s.heap.IsList l vs.toArray) (hlL : l ≠ L) (F : Fr h₀ L s.heap m) (N : News h₀ L s.heap news)
    (hsz : vs.length ≤ sizeLine) (hlen : ∀ i ys nw, J i ys nw → ys.length ≤ i) (h0 : J 0 [] news) (asg : CAsg prog w A h₀ L env (.Tuple elts k tp) scope cl vs.length (fun i v h => ∃ T t v', v = .ref T ∧ vs[i]? = some v' ∧ h.IsTuple T #[.int (i : Int) t, v']) J bnd)
    (step : ∀ s' I, (∀ p ∈ news, p.1 < I) → CStep prog w A h₀ L m env elt ifs scope cl s' [I + 1, I, l] [I + 1, I] vs.length J bnd) (fin : ∀ s', s' = { s with heap := s'.heap } → ∀ ys nw, J vs.length ys nw → Fin s' ys nw) :
    wpAny (model prog w) A (call (.type "enumerate") [.ref l]) (fun xv s₁ => wpAny (model prog w) A (pyIter xv) (CompAt prog w A h₀ L m env elt (.Tuple elts k tp) ifs scope cl Fin) E s₁) E s := by
  obtain ⟨ol, hol, _⟩ := id hl
  have hlt : l < s.heap.objs.size := Heap.lt_size hol
  have hLs : L < s.heap.objs.size := F.ns.lt
  refine call_enumerate_list hl fun h' hE hI hsz' hk => ?_
  refine wpAny_pyIter_enum hE ?_
  have W0 := (WalksT.enumerate (prog := prog) (w := w) hh (s.heap.objs.size + 1) s.heap.objs.size l (Nat.succ_ne_self _) (ktN 1 hlt) (Nat.ne_of_lt hlt) vs.toArray).toU
  simp only [List.size_toArray, List.getElem?_toArray] at W0
  have W := KTurns.ofWalksU (elts := elts) (k := k) (pos := tp) W0
  refine ⟨_, _, _, _, _, _, _, news, J, bnd, rfl, W, hsz, fun s Q E st q => ?_, ⟨⟨.none, hE⟩, hI, hl.at fun o e => hk l o e⟩, ?_, ?_, ?_, ?_, F.keeps hk, N.grown hk, ?_, hlen, h0, ?_, step _ _ fun p hp => Heap.lt_size (N p hp).1, fin _ rfl⟩
  · obtain ⟨⟨old, he⟩, _⟩ := st
    exact wpAny_pyIter_enum he q
  · rintro i h ⟨⟨old, he⟩, ⟨oi, hoi, _⟩, _⟩ b hb
    rcases List.mem_cons.mp hb with rfl | hb
    · exact ⟨_, he⟩
    · rw [List.mem_singleton.mp hb]; exact ⟨_, hoi⟩
  · intro b hb
    show b < h'.objs.size
    have hb' : b = s.heap.objs.size + 1 ∨ b = s.heap.objs.size ∨ b = l := by simpa using hb
    have e1 : s.heap.objs.size + 1 < h'.objs.size := Heap.lt_size hE
    rcases hb' with rfl | rfl | rfl
    · exact e1
    · exact Nat.lt_of_succ_lt e1
    · exact Nat.lt_trans hlt (Nat.lt_of_succ_lt e1)
  · intro hm
    have hb' : L = s.heap.objs.size + 1 ∨ L = s.heap.objs.size ∨ L = l := by simpa using hm
    rcases hb' with e | e | e
    · exact ktN 1 hLs e
    · exact Nat.ne_of_lt hLs e
    · exact hlL e.symm
  · intro b hb
    have hb' : b = s.heap.objs.size + 1 ∨ b = s.heap.objs.size := by simpa using hb
    rcases hb' with rfl | rfl
    · exact ktu_new F (Nat.le_add_right _ _)
    · exact ktu_new F (Nat.le_refl _)
  · intro p hp hI'
    have hb' : p.1 = s.heap.objs.size + 1 ∨ p.1 = s.heap.objs.size := by simpa using hI'
    have hlp := Heap.lt_size (N p hp).1
    rcases hb' with e | e
    · exact ktN 1 hlp e
    · exact Nat.ne_of_lt hlp e
  · intro i v ys news₁ s C mC Q E' hi hv hJ N hn h
    refine asg i v ys news₁ s C mC Q E' hi ?_ hJ N hn h
    obtain ⟨T, vals, rfl, ⟨t, x, hx, rfl⟩, hT⟩ := hv
    exact ⟨T, t, x, rfl, hx, hT⟩
end
end

/-! D4 -/
section
open PySem.Calls
section
variable {w : World} {mean : ExcName → Option Value} {mg mb : Str → Option Value} {dp un : Nat} {gd : Option (List Code)} {cn : Str} {cs : Scope} {a : Addr} {ccd : Value} {cl : List (Str × Addr)} {outer : List Env} {A₀ : Around} {base h₀ : Heap} {L : Addr} {m : Str → Option Value} {news : List (Addr × Obj)} {s : Shared} {Q E : Value → Shared → Prop}

theorem fd (x : Int) (k : Nat) : x.fdiv (k : Int) = x / (k : Int) := Int.fdiv_eq_ediv_of_nonneg _ (Int.natCast_nonneg k)
theorem fm (x : Int) (k : Nat) : x.fmod (k : Int) = x % (k : Int) := Int.fmod_eq_emod_of_nonneg _ (Int.natCast_nonneg k)
noncomputable def numOf (x : Int) : Int := if x % 2 = 1 then -(x / 32 % 16 ^ 12) else x / 32 % 16 ^ 12
theorem fdm (x : Int) : (x.fdiv 32).fmod (16 ^ Int.toNat 12) = x / 32 % 16 ^ 12 := by
  rw [show ((16 : Int) ^ Int.toNat 12) = ((16 ^ 12 : Nat) : Int) from rfl, fm, show (32 : Int) = ((32 : Nat) : Int) from rfl, fd]
  rfl
theorem letter_tells {x : Int} {tk : Tok}
  (B : Below A₀ base outer h₀) (F : Fr h₀ L s.heap m) (X : (_root_.Mine.hd.heap_1 w.params).In h₀) (N : News h₀ L s.heap news) (T : Top _root_.Mine.hd.view_1 (looseW _root_.Mine.hd.view_1 []) mean mg mb h₀) (hk : cs.kind = .function)
  (hd : dp + 1 < recursionLimit) (hu : un + 20 < cLine)
  (hret : ∀ a t1 t2 t3 n h' tk', Fr h₀ L h' m → News h₀ L h' ((a, listOf #[.int (x / 8 % 4) t1, .int (1 + x % 8) t2, .int (numOf x) t3] n) :: news) → (∀ p ∈ news, p.1 < a) → Q (.ref a) { s with heap := h', toks := tk' }) :
    wpAny (model PG w) (ktrTop dp un gd cn cs L a ccd cl outer) (call (.ref 178) [.int x tk]) Q E s := by
  (w_top off; have dummyFill : (∀ (_ : PySem.Challenge.rw_il0059_01 = PySem.Challenge.rw_il0059_01) (_ : _root_.Mine.hd.heap_1 = _root_.Mine.hd.heap_1), True) := (by k_fill; intros; trivial); clear dummyFill)
  refine wpAny_call ?_
  k_dflt (refine' code_def ?k1 ?k2 ?k3 ?k4 ?k5 ?kA ?kF ?kK ?k6 ?k7 ?k8 ?k9 ?kB ?_ ?c2 ?c3 ?c4 ?c5; (case kA => exact rfl); (case kF => exact rfl); (case kK => assumption); (case k1 => k_asm); (case k2 => k_asm); (case k3 => k_asm); (case k4 => k_asm); (case k5 => k_asm); (case k6 => k_is); (case k7 => k_is); (case k8 => first | exact rm0 hd | ktr_room); (case k9 => exact BindsTo.of_eq rfl); (case c5 => decide); (case kB => exact locs rfl); (case c2 => exact rfl); (case c3 => exact rfl); (case c4 => exact rfl); k_whole; intro g' L' h' FG' F' N' B' X' T'; (try dsimp only); (try k_fold))
  replace F' : Fr g' L' h' (fun y => if y = Str.ofString "x" then some (.int x tk) else none) := fr_map F' (fun y => lookup1 y)
  have e1 := fd x 8
  have e2 := fm (x / 8) 4
  have e3 := fm x 8
  have e4 := fdm x
  have e5 := fm x 2
  simp only [Int.cast_ofNat_Int] at e1 e2 e3 e5
  (repeat' ((fail_if_success (with_reducible first | show wpAny _ _ (pyIter _) _ _ _ | show wpAny _ _ (exec (Stmt.While _ _ _ _) _) _ _ _ | show wpAny _ _ (exec (Stmt.For _ _ _ _ _) _) _ _ _ | show TurnEnd _ _ _ _ _ _ _ | show TurnPost _ _ _ _ _ _ _ _ _ | show WhileStep _ _ _ _ _ _ _ | show WhileStep2 _ _ _ _ _ _ _ _ | show wpAny _ _ (eval (Expr.ListComp _ _ _ _) _) _ _ _ | show wpAny _ _ (exec (Stmt.Assign _ (Expr.ListComp _ _ _ _) _) _) _ _ _ | show wpAny _ _ (call (Value.builtin "sorted") _) _ _ _ | show wpAny _ _ (call (Value.builtin "sum") _) _ _ _ | show wpAny _ _ (call (Value.type "enumerate") _) _ _ _ | show wpAny _ _ (call (Value.type "range") _) _ _ _ | show wpAny _ _ (binaryOp _ (Value.ref _) (Value.ref _)) _ _ _ | show wpAny _ _ (call (Value.ref _) (Value.ref _ :: _)) _ _ _ | show wpAny _ _ (call (Value.ref 178) _) _ _ _)); first | ((with_reducible refine' isq_back ?e9 ?_); (case e9 => with_reducible assumption); (try dsimp only)) | ((with_reducible show wpAny _ _ (exec _ _) _ _ _); (refine gen_exec ?_); intro P9 hP9; walk1) | (k_unfold; (try dsimp only)) | (with_reducible ((with_reducible show wpAny _ _ (eval (PySem.Expr.Name _ _) _) _ _ _); (k_dflt (refine' ld ?qk1 ?qk2 ?_; (case qk1 => k_asm); (case qk2 => exact rfl); k_whole)))) | walk1 | (dsimp only; walk1)))
  all_goals (
    (with_reducible rename Fr _ _ _ _ => F1)
    (with_reducible rename News _ _ _ _ => N1)
    rw [e1, e2, e3, e4] at N1
    )
  · have q : numOf x = -(x / 32 % 16 ^ 12) := if_pos (by first | (rw [← e5]; assumption) | (rw [← e5]; simp_all))
    rw [← q] at N1
    exact hret _ _ _ _ _ _ _ F1 N1 (by assumption)
  · have q : numOf x = x / 32 % 16 ^ 12 := if_neg (by first | (rw [← e5]; assumption) | (rw [← e5]; simp_all))
    rw [← q] at N1
    exact hret _ _ _ _ _ _ _ F1 N1 (by assumption)
end
end

/-! S1 -/
section
/-! sorting: at one state, by a rank of the keys, from any place on -/
noncomputable def KR (rk : Value → Int) (xs : Array Keyed) (i : Nat) : Int := match xs[i]? with
  | some p => rk p.1
  | none => 0
noncomputable def Up (rk : Value → Int) (xs : Array Keyed) (lo hi : Nat) : Prop := ∀ i j, lo ≤ i → i ≤ j → j < hi → KR rk xs i ≤ KR rk xs j
noncomputable def Down (rk : Value → Int) (xs : Array Keyed) (lo hi : Nat) : Prop := ∀ i j, lo ≤ i → i ≤ j → j < hi → KR rk xs j ≤ KR rk xs i
noncomputable def SameTo (lo : Nat) (xs ys : Array Keyed) : Prop := ∀ k, k < lo → xs[k]? = ys[k]?
structure RBase (a₀ : Array Keyed) (pd : Array (Nat × Nat × Nat)) (st : SortSt) : Prop where
  perm : (arrOf st).Perm a₀
  kind : kindOf st = oneType'
  failed : failedOf st = none
  pend : pendingOf st = pd
noncomputable def LtOK (prog : Program) (w : World) (A : Around) (s : Shared) (rk : Value → Int) (D : Value → Prop) : Prop :=
  ∀ x y (E : Value → Shared → Prop), D x → D y → wpAny (model prog w) A (oneLt' true x y) (fun b s' => s' = s ∧ b = decide (rk x < rk y)) E s
noncomputable def AllD (D : Value → Prop) (xs : Array Keyed) : Prop := ∀ p, p ∈ xs.toList → D p.1

theorem KR_congr {rk : Value → Int} {xs ys : Array Keyed} {i j : Nat} (h : xs[i]? = ys[j]?) : KR rk xs i = KR rk ys j := by unfold KR; rw [h]
theorem KR_at {rk : Value → Int} {xs : Array Keyed} {i : Nat} {p : Keyed} (h : xs[i]? = some p) : KR rk xs i = rk p.1 := by unfold KR; rw [h]
theorem SameTo.rfl' {lo : Nat} {xs : Array Keyed} : SameTo lo xs xs := fun _ _ => rfl
theorem SameTo.trans {lo : Nat} {xs ys zs : Array Keyed} (h : SameTo lo xs ys) (h' : SameTo lo ys zs) : SameTo lo xs zs := fun k hk => (h k hk).trans (h' k hk)

theorem KR_bubble {rk : Value → Int} {xs : Array Keyed} {src d : Nat} (hs : src < xs.size) (hd : d ≤ src) (k : Nat) :
    KR rk (bubble xs src d) k = if k = src - d then KR rk xs src else if src - d < k ∧ k ≤ src then KR rk xs (k - 1) else KR rk xs k := by
  have e := getElem?_bubble hs d hd k
  by_cases h1 : k = src - d
  · rw [if_pos h1] at e ⊢; exact KR_congr e
  · rw [if_neg h1] at e ⊢
    by_cases h2 : src - d < k ∧ k ≤ src
    · rw [if_pos h2] at e ⊢; exact KR_congr e
    · rw [if_neg h2] at e ⊢; exact KR_congr e
theorem KR_mirror {rk : Value → Int} {xs : Array Keyed} {i j : Nat} (hj : j ≤ xs.size) (k : Nat) :
    KR rk (mirror xs i j ((j - i) / 2)) k = if i ≤ k ∧ k < j then KR rk xs (i + j - 1 - k) else KR rk xs k := by
  have e := getElem?_mirror_all (i := i) hj k
  by_cases h1 : i ≤ k ∧ k < j
  · rw [if_pos h1] at e ⊢; exact KR_congr e
  · rw [if_neg h1] at e ⊢; exact KR_congr e
theorem KR_mirror_equal {rk : Value → Int} {xs : Array Keyed} {i j : Nat} (hj : j ≤ xs.size) (heq : ∀ k, i ≤ k → k < j → KR rk xs k = KR rk xs (j - 1)) (k : Nat) :
    KR rk (mirror xs i j ((j - i) / 2)) k = KR rk xs k := by
  rw [KR_mirror hj]
  split
  · rw [heq _ (by (clear heq hj; lia)) (by (clear heq hj; lia)), heq k (by (clear heq hj; lia)) (by (clear heq hj; lia))]
  · rfl
theorem same_mirror {xs : Array Keyed} {lo i j : Nat} (hj : j ≤ xs.size) (hi : lo ≤ i) : SameTo lo (mirror xs i j ((j - i) / 2)) xs := fun k hk => by
  rw [getElem?_mirror_all hj k, if_neg (by (clear hj; lia))]
theorem same_bubble {xs : Array Keyed} {lo src d : Nat} (hs : src < xs.size) (hd : d ≤ src) (h : lo ≤ src - d) : SameTo lo (bubble xs src d) xs := fun k hk => by
  rw [getElem?_bubble hs d hd k, if_neg (by (clear hd hs; lia)), if_neg (by (clear hd hs; lia))]

section
variable {prog : Program} {w : World} {A : Around} {E : Value → Shared → Prop} {s : Shared} {a₀ : Array Keyed} {pd : Array (Nat × Nat × Nat)} {rk : Value → Int} {D : Value → Prop}

theorem RBase.size {st : SortSt} (h : RBase a₀ pd st) : (arrOf st).size = a₀.size := h.perm.size_eq
theorem RBase.set {st : SortSt} (h : RBase a₀ pd st) {xs : Array Keyed} (hp : xs.Perm (arrOf st)) : RBase a₀ pd (setArr st xs) := ⟨hp.trans h.perm, h.kind, h.failed, h.pend⟩
theorem RBase.at {st : SortSt} (h : RBase a₀ pd st) (h0 : AllD D a₀) {i : Nat} (hi : i < a₀.size) : ∃ p, (arrOf st)[i]? = some p ∧ D p.1 := by
  have hi' : i < (arrOf st).size := by rw [h.size]; exact hi
  have hm : (arrOf st)[i] ∈ a₀.toList := (Array.perm_iff_toList_perm.mp h.perm).mem_iff.mp (by simp)
  exact ⟨_, getElem?_pos _ i hi', h0 _ hm⟩

theorem wpS_lt {st : SortSt} {x y : Keyed} {Q : Option Bool → SortSt → Prop} (hL : LtOK prog w A s rk D) (hk : kindOf st = oneType') (hx : D x.1) (hy : D y.1) (h : Q (some (decide (rk x.1 < rk y.1))) st) :
    wpS (model prog w) A E s (lt' x y) Q st := by
  rw [lt'_eq]
  refine wpS_bind (wpS_get ?_)
  rw [hk, keyLt'_oneType]
  refine wpS_bind (wpS_lift (wpAny_attempt (wpAny_mono (hL _ _ _ hx hy) (fun b s' hb => ?_) fun _ _ e => e)))
  obtain ⟨rfl, rfl⟩ := hb
  exact ⟨rfl, wpS_pure h⟩
theorem wpS_elem {st : SortSt} {xs : Array Keyed} {i : Nat} {p : Keyed} {Q : Keyed → SortSt → Prop} (hi : xs[i]? = some p) (h : Q p st) : wpS (model prog w) A E s (elem' xs i) Q st := by
  rw [elem'_eq, hi]; exact wpS_pure h
theorem wpS_ltR {st : SortSt} {i j : Nat} {Q : Option Bool → SortSt → Prop} (hL : LtOK prog w A s rk D) (hB : RBase a₀ pd st) (h0 : AllD D a₀) (hi : i < a₀.size) (hj : j < a₀.size)
    (h : Q (some (decide (KR rk (arrOf st) i < KR rk (arrOf st) j))) st) : wpS (model prog w) A E s (ltAt' i j) Q st := by
  obtain ⟨x, e1, d1⟩ := hB.at h0 hi
  obtain ⟨y, e2, d2⟩ := hB.at h0 hj
  rw [KR_at e1, KR_at e2] at h
  rw [ltAt'_eq]
  refine wpS_bind (wpS_get ?_)
  exact wpS_bind (wpS_elem e1 (wpS_bind (wpS_elem e2 (wpS_lt hL hB.kind d1 d2 h))))

theorem wpS_rev {st : SortSt} {i j : Nat} {Q : Unit → SortSt → Prop} (h : Q () (setArr st (mirror (arrOf st) i j ((j - i) / 2)))) :
    wpS (model prog w) A E s (reverseSlice' i j) Q st := by
  rw [reverseSlice'_eq]; exact wpS_modify h

theorem wpS_binS {st : SortSt} {lo n ok : Nat} {Q : Bool → SortSt → Prop} (hL : LtOK prog w A s rk D) (h0 : AllD D a₀) (hn : lo + n ≤ a₀.size) (hok : ok ≤ n) (hB : RBase a₀ pd st) (hs : Up rk (arrOf st) lo (lo + ok))
    (h : ∀ st', RBase a₀ pd st' → SameTo lo (arrOf st') (arrOf st) → Up rk (arrOf st') lo (lo + n) → Q true st') : wpS (model prog w) A E s (binarySort' lo n ok) Q st := by
  rw [binarySort'_eq]
  refine wpS_bind (wpS_mono (wpS_forRange (I := fun k c st' => c = (none, ()) ∧ RBase a₀ pd st' ∧ SameTo lo (arrOf st') (arrOf st) ∧ Up rk (arrOf st') lo (lo + min k n))
    (Q := fun c st' => c = (none, ()) ∧ RBase a₀ pd st' ∧ SameTo lo (arrOf st') (arrOf st) ∧ Up rk (arrOf st') lo (lo + n)) ?step ?fin ?init) ?post)
  case post =>
    rintro c st' ⟨rfl, hB', hS', hs'⟩
    exact wpS_pure (h st' hB' hS' hs')
  case init =>
    refine ⟨rfl, hB, .rfl', fun i j hl hij hj => ?_⟩
    by_cases h1 : ok = 0
    · have : i = j := by (clear h hs hB hok hn h0 hL; lia)
      subst this; exact Int.le_refl _
    · exact hs i j hl hij (by (clear hij hl h hs hB hn h0 hL; lia))
  case fin =>
    rintro c st' ⟨hc, hB', hS', hs'⟩
    refine ⟨hc, hB', hS', ?_⟩
    rwa [show min (max (max ok 1) n) n = n by (clear hs' hS' hB' hc h hs hB hok hn h0 hL; lia)] at hs'
  case step =>
    rintro k c st' hak hkn ⟨rfl, hB', hS', hs'⟩
    rw [show min k n = k by (clear hs' hS' hB' hak h hs hB hok hn h0 hL; lia)] at hs'
    have hk : lo + k < a₀.size := by (clear hs' hS' hB' hak h hs hB hok h0 hL; lia)
    refine wpS_bind (wpS_mono (wpS_forRange (I := fun x c st'' => st'' = st' ∧ ∃ l r, c = (none, l, r) ∧ l ≤ r ∧ r ≤ k ∧ r - l ≤ k - x ∧
        (∀ i, lo ≤ i → i < lo + l → KR rk (arrOf st') i ≤ KR rk (arrOf st') (lo + k)) ∧ (∀ i, lo + r ≤ i → i < lo + k → KR rk (arrOf st') (lo + k) < KR rk (arrOf st') i))
      (Q := fun c st'' => st'' = st' ∧ ∃ l r, c = (none, l, r) ∧ l ≤ k ∧
        (∀ i, lo ≤ i → i < lo + l → KR rk (arrOf st') i ≤ KR rk (arrOf st') (lo + k)) ∧ (∀ i, lo + l ≤ i → i < lo + k → KR rk (arrOf st') (lo + k) < KR rk (arrOf st') i)) ?istep ?ifin ?iinit) ?ipost)
    case iinit => exact ⟨rfl, 0, k, rfl, by (clear hk hs' hS' hB' hkn hak h hs hB hok hn h0 hL; lia), by (clear hk hs' hS' hB' hkn hak h hs hB hok hn h0 hL; lia), by (clear hk hs' hS' hB' hkn hak h hs hB hok hn h0 hL; lia), fun i h1 h2 => by (clear hk hs' hS' hB' hkn hak h hs hB hok hn h0 hL; lia), fun i h1 h2 => by (clear hk hs' hS' hB' hkn hak h hs hB hok hn h0 hL; lia)⟩
    case ifin =>
      rintro c st'' ⟨rfl, l, r, rfl, hlr, hrk, hm, hlo, hhi⟩
      have : l = r := by (clear hhi hlo hrk hs' hS' hB' hk hkn hak h hs hB hok hn h0 hL; lia)
      subst this
      exact ⟨rfl, l, l, rfl, hrk, hlo, hhi⟩
    case istep =>
      rintro x c st'' _ hxk ⟨rfl, l, r, rfl, hlr, hrk, hm, hlo, hhi⟩
      dsimp only
      by_cases hge : l ≥ r
      · rw [if_pos hge]
        have : l = r := by (clear hhi hlo hm hrk hs' hS' hB' hxk hk hkn hak h hs hB hok hn h0 hL; lia)
        subst this
        exact wpS_pure ⟨rfl, l, l, rfl, hrk, hlo, hhi⟩
      · rw [if_neg hge]
        refine wpS_bind (wpS_ltR hL hB' h0 hk (by (clear hhi hlo hm hlr hs' hS' hB' hxk hkn hak h hs hB hok hn h0 hL; lia)) ?_)
        by_cases hless : KR rk (arrOf st'') (lo + k) < KR rk (arrOf st'') (lo + (l + r) / 2)
        · simp only [hless, decide_true, if_true]
          refine wpS_pure ⟨rfl, l, (l + r) / 2, rfl, by (clear hless hhi hlo hm hrk hlr hs' hS' hB' hxk hk hkn hak h hs hB hok hn h0 hL; lia), by (clear hless hhi hlo hm hlr hs' hS' hB' hxk hk hkn hak h hs hB hok hn h0 hL; lia), by (clear hless hhi hlo hrk hlr hs' hS' hB' hk hkn hak h hs hB hok hn h0 hL; lia), hlo, fun i h1 h2 => ?_⟩
          exact Int.lt_of_lt_of_le hless (hs' _ _ (by (clear h2 h1 hless hhi hlo hm hrk hlr hs' hS' hB' hxk hk hkn hak h hs hB hok hn h0 hL; lia)) h1 h2)
        · simp only [hless, decide_false, Bool.false_eq_true, if_false]
          refine wpS_pure ⟨rfl, (l + r) / 2 + 1, r, rfl, by (clear hless hhi hlo hm hrk hlr hs' hS' hB' hxk hk hkn hak h hs hB hok hn h0 hL; lia), by (clear hless hge hhi hlo hm hlr hs' hS' hB' hxk hk hkn hak h hs hB hok hn h0 hL; lia), by (clear hless hhi hlo hrk hlr hs' hS' hB' hk hkn hak h hs hB hok hn h0 hL; lia), fun i h1 h2 => ?_, hhi⟩
          exact Int.le_trans (hs' i (lo + (l + r) / 2) h1 (by (clear h1 hless hge hhi hlo hm hrk hlr hs' hS' hB' hxk hk hkn hak h hs hB hok hn h0 hL; lia)) (by (clear h2 h1 hless hhi hlo hm hlr hs' hS' hB' hxk hk hkn hak h hs hB hok hn h0 hL; lia))) (Int.not_lt.mp hless)
    case ipost =>
      rintro c st'' ⟨rfl, l, r, rfl, hlk, hlo, hhi⟩
      show wpS _ _ _ _ (do moveDown' (lo + k) (lo + l); pure (ForInStep.yield (none, ()))) _ _
      rw [moveDown'_eq]
      have hks : lo + k < (arrOf st'').size := by rw [hB'.size]; exact hk
      refine wpS_bind (wpS_modify (wpS_pure ⟨rfl, hB'.set (bubble_perm _ _ _), (same_bubble hks (by (clear hks hhi hlo hs' hS' hB' hk hkn hak h hs hB hok hn h0 hL; lia)) (by (clear hks hhi hlo hs' hS' hB' hk hkn hak h hs hB hok hn h0 hL; lia))).trans hS', ?_⟩))
      rw [show min (k + 1) n = k + 1 by (clear hks hhi hlo hlk hs' hS' hB' hk hak h hs hB hok hn h0 hL; lia)]
      intro i j hl hij hj
      show KR rk (bubble (arrOf st'') (lo + k) (lo + k - (lo + l))) i ≤ KR rk (bubble (arrOf st'') (lo + k) (lo + k - (lo + l))) j
      rw [KR_bubble hks (by (clear hj hij hl hks hhi hlo hs' hS' hB' hk hkn hak h hs hB hok hn h0 hL; lia)), KR_bubble hks (by (clear hj hij hl hks hhi hlo hs' hS' hB' hk hkn hak h hs hB hok hn h0 hL; lia)), show lo + k - (lo + k - (lo + l)) = lo + l by (clear hj hij hl hks hhi hlo hs' hS' hB' hk hkn hak h hs hB hok hn h0 hL; lia)]
      repeat' split
      all_goals first
        | (exfalso; (clear hl hks hhi hlo hlk hs' hS' hB' hk hkn hak h hs hB hok hn h0 hL; lia))
        | exact Int.le_refl _
        | exact hlo _ (by (clear hj hij hks hhi hlo hlk hs' hS' hB' hk hkn hak h hs hB hok hn h0 hL; lia)) (by (clear hl hks hhi hlo hlk hs' hS' hB' hk hkn hak h hs hB hok hn h0 hL; lia))
        | exact Int.le_of_lt (hhi _ (by (clear hj hij hl hks hhi hlo hlk hs' hS' hB' hk hkn hak h hs hB hok hn h0 hL; lia)) (by (clear hij hl hks hhi hlo hlk hs' hS' hB' hk hkn hak h hs hB hok hn h0 hL; lia)))
        | exact hs' _ _ (by (clear hj hij hks hhi hlo hlk hs' hS' hB' hk hkn hak h hs hB hok hn h0 hL; lia)) (by (clear hl hks hhi hlo hlk hs' hS' hB' hk hkn hak h hs hB hok hn h0 hL; lia)) (by (clear hij hl hks hhi hlo hs' hS' hB' hk hkn hak h hs hB hok hn h0 hL; lia))
end
end

/-! S2 -/
section
noncomputable abbrev AscT := Option (Option Nat) × Nat
noncomputable abbrev DescT := Option (Option Nat) × Nat × Nat

noncomputable def ascL (lo a nrem : Nat) : StateT SortSt Sem AscT :=
  forIn [a:nrem] ((none, a) : AscT) fun _ __s => do
    let __x ← ltAt' (lo + __s.snd) (lo + __s.snd - 1)
    match __x with
    | some smaller => if smaller = true then pure (ForInStep.done (none, __s.snd)) else pure (ForInStep.yield (none, __s.snd + 1))
    | _ => pure (ForInStep.done (some none, __s.snd))

noncomputable def tailL (lo n nrem : Nat) : StateT SortSt Sem (Option Nat) := do
  reverseSlice' lo (lo + n)
  let __s ← ascL lo n nrem
  match __s.fst with
  | some r => pure r
  | none => pure (some __s.snd)

noncomputable def descL (lo n nrem : Nat) : StateT SortSt Sem DescT :=
  forIn [n:nrem] ((none, n, 0) : DescT) fun _ __s => do
    let __x ← ltAt' (lo + __s.snd.fst) (lo + __s.snd.fst - 1)
    match __x with
    | some smaller =>
      if smaller = true then
        if __s.snd.snd > 0 then do
          reverseSlice' (lo + __s.snd.fst - (__s.snd.snd + 1)) (lo + __s.snd.fst)
          pure (ForInStep.yield (none, __s.snd.fst + 1, 0))
        else pure (ForInStep.yield (none, __s.snd.fst + 1, 0))
      else do
        let __x ← ltAt' (lo + __s.snd.fst - 1) (lo + __s.snd.fst)
        match __x with
        | some larger =>
          if larger = true then pure (ForInStep.done (none, __s.snd.fst, __s.snd.snd))
          else pure (ForInStep.yield (none, __s.snd.fst + 1, __s.snd.snd + 1))
        | _ => pure (ForInStep.done (some none, __s.snd.fst, __s.snd.snd))
    | _ => pure (ForInStep.done (some none, __s.snd.fst, __s.snd.snd))

noncomputable def descP (lo n nrem : Nat) : StateT SortSt Sem (Option Nat) := do
  liftM (rule "list.sort.descending-run")
  let __s ← descL lo (n + 1) nrem
  match __s.fst with
  | some r => pure r
  | none =>
    if __s.snd.snd > 0 then do
      reverseSlice' (lo + __s.snd.fst - (__s.snd.snd + 1)) (lo + __s.snd.fst)
      tailL lo __s.snd.fst nrem
    else tailL lo __s.snd.fst nrem

theorem countRunL_eq (lo nrem : Nat) : countRun' lo nrem = (do
    let __s ← ascL lo 1 nrem
    match __s.fst with
    | some r => pure r
    | none =>
      if (__s.snd == nrem) = true then pure (some __s.snd)
      else if __s.snd > 1 then do
        let __x ← ltAt' lo (lo + __s.snd - 1)
        match __x with
        | some rose => if rose = true then pure (some __s.snd) else do
            reverseSlice' lo (lo + __s.snd)
            descP lo __s.snd nrem
        | _ => pure none
      else descP lo __s.snd nrem) := by
  rw [countRun'_eq]
  unfold descP tailL descL ascL
  refine bind_congr fun __s => ?_
  obtain ⟨r, n⟩ := __s
  cases r with
  | some r => rfl
  | none =>
    dsimp only
    split
    · rfl
    · split
      · refine bind_congr fun x => ?_
        cases x with
        | none => rfl
        | some rose =>
          dsimp only
          split
          · rfl
          · refine bind_congr fun _r => bind_congr fun _u => bind_congr fun s2 => ?_
            obtain ⟨r2, n2, q2⟩ := s2
            cases r2 with
            | some r2 => rfl
            | none =>
              dsimp only
              split
              · refine bind_congr fun _v => bind_congr fun _w => bind_congr fun s3 => ?_
                obtain ⟨r3, n3⟩ := s3; cases r3 <;> rfl
              · refine bind_congr fun _w => bind_congr fun s3 => ?_
                obtain ⟨r3, n3⟩ := s3; cases r3 <;> rfl
      · refine bind_congr fun _u => bind_congr fun s2 => ?_
        obtain ⟨r2, n2, q2⟩ := s2
        cases r2 with
        | some r2 => rfl
        | none =>
          dsimp only
          split
          · refine bind_congr fun _v => bind_congr fun _w => bind_congr fun s3 => ?_
            obtain ⟨r3, n3⟩ := s3; cases r3 <;> rfl
          · refine bind_congr fun _w => bind_congr fun s3 => ?_
            obtain ⟨r3, n3⟩ := s3; cases r3 <;> rfl

section
variable {prog : Program} {w : World} {A : Around} {E : Value → Shared → Prop} {s : Shared} {a₀ : Array Keyed} {pd : Array (Nat × Nat × Nat)} {rk : Value → Int} {D : Value → Prop} {lo : Nat}

theorem wpS_ascL {st : SortSt} {a nrem : Nat} {Q : AscT → SortSt → Prop} (hL : LtOK prog w A s rk D) (h0 : AllD D a₀) (hn : lo + nrem ≤ a₀.size) (ha : 1 ≤ a) (han : a ≤ nrem) (hB : RBase a₀ pd st)
    (hs : Up rk (arrOf st) lo (lo + a))
    (h : ∀ n, a ≤ n → n ≤ nrem → Up rk (arrOf st) lo (lo + n) → (n = nrem ∨ KR rk (arrOf st) (lo + n) < KR rk (arrOf st) (lo + n - 1)) → Q (none, n) st) :
    wpS (model prog w) A E s (ascL lo a nrem) Q st := by
  unfold ascL
  refine wpS_forRange (I := fun x c st' => st' = st ∧ c = (none, x) ∧ Up rk (arrOf st) lo (lo + x)) ?step ?fin ⟨rfl, rfl, hs⟩
  case fin =>
    rintro c st' ⟨rfl, rfl, hs'⟩
    rw [show max a nrem = nrem by (clear hs' h hs hB ha hn h0 hL; lia)] at hs' ⊢
    exact h nrem han (Nat.le_refl _) hs' (.inl rfl)
  case step =>
    rintro x c st' hax hxn ⟨rfl, rfl, hs'⟩
    dsimp only
    refine wpS_bind (wpS_ltR hL hB h0 (by (clear hs' h hs hB hax han ha h0 hL; lia)) (by (clear hs' h hs hB han h0 hL; lia)) ?_)
    by_cases hless : KR rk (arrOf st') (lo + x) < KR rk (arrOf st') (lo + x - 1)
    · simp only [hless, decide_true, if_true]
      exact wpS_pure (h x hax (by (clear hless hs' h hs hB hax han ha hn h0 hL; lia)) hs' (.inr hless))
    · simp only [hless, decide_false, Bool.false_eq_true, if_false]
      refine wpS_pure ⟨rfl, rfl, fun i j hl hij hj => ?_⟩
      by_cases hjx : j < lo + x
      · exact hs' i j hl hij hjx
      · have hj' : j = lo + x := by (clear hij hl hless hs' h hs hB hxn hax han ha hn h0 hL; lia)
        subst hj'
        by_cases hi' : i = lo + x
        · subst hi'; exact Int.le_refl _
        · exact Int.le_trans (hs' i (lo + x - 1) hl (by (clear hjx hj hl hless hs' h hs hB hxn hax han ha hn h0 hL; lia)) (by (clear hi' hjx hj hij hl hless hs' h hs hB hxn han hn h0 hL; lia))) (Int.not_lt.mp hless)

theorem wpS_tailL {st : SortSt} {n nrem : Nat} {Q : Option Nat → SortSt → Prop} (hL : LtOK prog w A s rk D) (h0 : AllD D a₀) (hn : lo + nrem ≤ a₀.size) (h1 : 1 ≤ n) (hnn : n ≤ nrem) (hB : RBase a₀ pd st)
    (hs : Down rk (arrOf st) lo (lo + n)) (h : ∀ m st', RBase a₀ pd st' → SameTo lo (arrOf st') (arrOf st) → 1 ≤ m → m ≤ nrem → Up rk (arrOf st') lo (lo + m) → Q (some m) st') :
    wpS (model prog w) A E s (tailL lo n nrem) Q st := by
  unfold tailL
  have hsz : lo + n ≤ (arrOf st).size := by rw [hB.size]; (clear h hs hB h1 h0 hL; lia)
  refine wpS_bind (wpS_rev ?_)
  have hB' : RBase a₀ pd (setArr st (mirror (arrOf st) lo (lo + n) ((lo + n - lo) / 2))) := hB.set (mirror_perm _ _ _ _)
  refine wpS_bind (wpS_ascL hL h0 hn h1 hnn hB' ?_ fun m hm1 hm2 hsm _ => wpS_pure (h m _ hB' (same_mirror hsz (Nat.le_refl _)) (by (clear hsm hm2 hB' hsz h hs hB hnn hn h0 hL; lia)) hm2 hsm))
  intro i j hl hij hj
  show KR rk (mirror (arrOf st) lo (lo + n) ((lo + n - lo) / 2)) i ≤ KR rk (mirror (arrOf st) lo (lo + n) ((lo + n - lo) / 2)) j
  rw [KR_mirror hsz, KR_mirror hsz, if_pos (by (clear hB' hsz h hs hB hnn h1 hn h0 hL; lia)), if_pos (by (clear hB' hsz h hs hB hnn h1 hn h0 hL; lia))]
  exact hs _ _ (by (clear hij hl hB' hsz h hs hB hnn h1 hn h0 hL; lia)) (by (clear hl hB' hsz h hs hB hnn h1 hn h0 hL; lia)) (by (clear hij hB' hsz h hs hB hnn h1 hn h0 hL; lia))

theorem wpS_descL {st : SortSt} {n nrem : Nat} {Q : DescT → SortSt → Prop} (hL : LtOK prog w A s rk D) (h0 : AllD D a₀) (hn : lo + nrem ≤ a₀.size) (h1 : 1 ≤ n) (hnn : n ≤ nrem) (hB : RBase a₀ pd st)
    (hs : Down rk (arrOf st) lo (lo + n))
    (h : ∀ m neq st', RBase a₀ pd st' → SameTo lo (arrOf st') (arrOf st) → n ≤ m → m ≤ nrem → Down rk (arrOf st') lo (lo + m) → neq + 1 ≤ m → (∀ i, lo + m - (neq + 1) ≤ i → i < lo + m → KR rk (arrOf st') i = KR rk (arrOf st') (lo + m - 1)) → Q (none, m, neq) st') :
    wpS (model prog w) A E s (descL lo n nrem) Q st := by
  unfold descL
  refine wpS_forRange (I := fun x c st' => ∃ neq, c = (none, x, neq) ∧ RBase a₀ pd st' ∧ SameTo lo (arrOf st') (arrOf st) ∧ Down rk (arrOf st') lo (lo + x) ∧ neq + 1 ≤ x ∧
      (∀ i, lo + x - (neq + 1) ≤ i → i < lo + x → KR rk (arrOf st') i = KR rk (arrOf st') (lo + x - 1))) ?step ?fin ⟨0, rfl, hB, .rfl', hs, by (clear h hs hB hnn hn h0 hL; lia), fun i h1 h2 => by congr 1; (clear h hs hB hnn hn h0 hL; lia)⟩
  case fin =>
    rintro c st' ⟨neq, rfl, hB', hS', hs', hq, he⟩
    rw [show max n nrem = nrem by (clear he hq hs' hS' hB' h hs hB h1 hn h0 hL; lia)] at hs' hq he ⊢
    exact h nrem neq st' hB' hS' hnn (Nat.le_refl _) hs' hq he
  case step =>
    rintro x c st' hax hxn ⟨neq, rfl, hB', hS', hs', hq, he⟩
    dsimp only
    have hsz : lo + x ≤ (arrOf st').size := by rw [hB'.size]; (clear he hq hs' hS' hB' hax h hs hB hnn h1 h0 hL; lia)
    refine wpS_bind (wpS_ltR hL hB' h0 (by (clear hsz he hq hs' hS' hB' hax h hs hB hnn h1 h0 hL; lia)) (by (clear hsz he hs' hS' hB' hax h hs hB hnn h1 h0 hL; lia)) ?_)
    by_cases hless : KR rk (arrOf st') (lo + x) < KR rk (arrOf st') (lo + x - 1)
    · simp only [hless, decide_true, if_true]
      have step1 : ∀ xs : Array Keyed, (∀ k, KR rk xs k = KR rk (arrOf st') k) → Down rk xs lo (lo + (x + 1)) := by
        intro xs hk i j hl hij hj
        rw [hk, hk]
        by_cases hjx : j < lo + x
        · exact hs' i j hl hij hjx
        · have hj' : j = lo + x := by (clear hij hl hk hless hsz he hq hs' hS' hB' hxn hax h hs hB hnn h1 hn h0 hL; lia)
          subst hj'
          by_cases hi' : i = lo + x
          · subst hi'; exact Int.le_refl _
          · exact Int.le_trans (Int.le_of_lt hless) (hs' i (lo + x - 1) hl (by (clear hjx hj hl hk hless hsz he hq hs' hS' hB' hxn hax h hs hB hnn h1 hn h0 hL; lia)) (by (clear hi' hjx hj hij hl hk hless hsz he hq hs' hS' hB' hxn h hs hB hnn hn h0 hL; lia)))
      by_cases hneq : neq > 0
      · rw [if_pos hneq]
        refine wpS_bind (wpS_rev (wpS_pure ⟨0, rfl, hB'.set (mirror_perm _ _ _ _), (same_mirror hsz (by (clear hneq step1 hless hsz he hs' hS' hB' hxn hax h hs hB hnn h1 hn h0 hL; lia))).trans hS', step1 _ (KR_mirror_equal hsz he), by (clear hneq step1 hless hsz he hq hs' hS' hB' hxn hax h hs hB hnn h1 hn h0 hL; lia), fun i h1 h2 => by congr 1; (clear hneq step1 hless hsz he hq hs' hS' hB' hxn h hs hB hnn hn h0 hL; lia)⟩))
      · rw [if_neg hneq]
        exact wpS_pure ⟨0, rfl, hB', hS', step1 _ (fun _ => rfl), by (clear hneq step1 hless hsz he hq hs' hS' hB' hxn hax h hs hB hnn h1 hn h0 hL; lia), fun i h1 h2 => by congr 1; (clear hneq step1 hless hsz he hq hs' hS' hB' hxn h hs hB hnn hn h0 hL; lia)⟩
    · simp only [hless, decide_false, Bool.false_eq_true, if_false]
      refine wpS_bind (wpS_ltR hL hB' h0 (by (clear hless hsz he hs' hS' hB' hax h hs hB hnn h1 h0 hL; lia)) (by (clear hless hsz he hq hs' hS' hB' hax h hs hB hnn h1 h0 hL; lia)) ?_)
      by_cases hlarger : KR rk (arrOf st') (lo + x - 1) < KR rk (arrOf st') (lo + x)
      · simp only [hlarger, decide_true, if_true]
        exact wpS_pure (h x neq st' hB' hS' hax (by (clear hlarger hless hsz he hq hs' hS' hB' hax h hs hB hnn h1 hn h0 hL; lia)) hs' hq he)
      · simp only [hlarger, decide_false, Bool.false_eq_true, if_false]
        have heqx : KR rk (arrOf st') (lo + x) = KR rk (arrOf st') (lo + x - 1) := by (clear hsz he hq hs' hS' hB' hxn hax h hs hB hnn h1 hn h0 hL; lia)
        refine wpS_pure ⟨neq + 1, rfl, hB', hS', fun i j hl hij hj => ?_, by (clear heqx hlarger hless hsz he hs' hS' hB' hxn hax h hs hB hnn h1 hn h0 hL; lia), fun i h1 h2 => ?_⟩
        · by_cases hjx : j < lo + x
          · exact hs' i j hl hij hjx
          · have hj' : j = lo + x := by (clear hij hl heqx hlarger hless hsz he hq hs' hS' hB' hxn hax h hs hB hnn h1 hn h0 hL; lia)
            subst hj'
            by_cases hi' : i = lo + x
            · subst hi'; exact Int.le_refl _
            · rw [heqx]; exact hs' i (lo + x - 1) hl (by (clear hjx hj hl heqx hlarger hless hsz he hq hs' hS' hB' hxn hax h hs hB hnn h1 hn h0 hL; lia)) (by (clear hi' hjx hj hij hl heqx hlarger hless hsz he hq hs' hS' hB' hxn h hs hB hnn hn h0 hL; lia))
        · rw [show lo + (x + 1) - 1 = lo + x by (clear h2 h1 heqx hlarger hless hsz he hq hs' hS' hB' hxn h hs hB hnn hn h0 hL; lia)]
          by_cases hix : i = lo + x
          · subst hix; rfl
          · rw [heqx]; exact he i (by (clear heqx hlarger hless hsz he hs' hS' hB' hxn hax h hs hB hnn hn h0 hL; lia)) (by (clear h1 heqx hlarger hless hsz he hq hs' hS' hB' hxn hax h hs hB hnn hn h0 hL; lia))

theorem wpS_descP {st : SortSt} {n nrem : Nat} {Q : Option Nat → SortSt → Prop} (hL : LtOK prog w A s rk D) (h0 : AllD D a₀) (hn : lo + nrem ≤ a₀.size) (hnn : n + 1 ≤ nrem) (hB : RBase a₀ pd st)
    (hs : Down rk (arrOf st) lo (lo + (n + 1))) (h : ∀ m st', RBase a₀ pd st' → SameTo lo (arrOf st') (arrOf st) → 1 ≤ m → m ≤ nrem → Up rk (arrOf st') lo (lo + m) → Q (some m) st') :
    wpS (model prog w) A E s (descP lo n nrem) Q st := by
  unfold descP
  refine wpS_bind (wpS_lift (wpAny_rule ⟨rfl, ?_⟩))
  refine wpS_bind (wpS_descL hL h0 hn (by (clear h hs hB hnn hn h0 hL; lia)) hnn hB hs fun m neq st' hB' hS' hm1 hm2 hs' hq he => ?_)
  dsimp only
  have hsz : lo + m ≤ (arrOf st').size := by rw [hB'.size]; (clear he hq hs' hm1 hS' hB' h hs hB hnn h0 hL; lia)
  by_cases hneq : neq > 0
  · rw [if_pos hneq]
    refine wpS_bind (wpS_rev (wpS_tailL hL h0 hn (by (clear hsz he hs' hm2 hm1 hS' hB' h hs hB hnn hn h0 hL; lia)) hm2 (hB'.set (mirror_perm _ _ _ _)) ?_ fun m2 st2 hB2 hS2 a b c => h m2 st2 hB2 (hS2.trans ((same_mirror hsz (by (clear c b a hS2 hB2 hneq hsz he hs' hm2 hm1 hS' hB' h hs hB hnn hn h0 hL; lia))).trans hS')) a b c))
    intro i j hl hij hj
    show KR rk (mirror (arrOf st') _ _ _) j ≤ KR rk (mirror (arrOf st') _ _ _) i
    rw [KR_mirror_equal hsz he, KR_mirror_equal hsz he]
    exact hs' i j hl hij hj
  · rw [if_neg hneq]
    exact wpS_tailL hL h0 hn (by (clear hsz he hs' hm2 hm1 hS' hB' h hs hB hnn hn h0 hL; lia)) hm2 hB' hs' fun m2 st2 hB2 hS2 a b c => h m2 st2 hB2 (hS2.trans hS') a b c

theorem wpS_countRunR {st : SortSt} {nrem : Nat} {Q : Option Nat → SortSt → Prop} (hL : LtOK prog w A s rk D) (h0 : AllD D a₀) (hn : lo + nrem ≤ a₀.size) (h1 : 1 ≤ nrem) (hB : RBase a₀ pd st)
    (h : ∀ m st', RBase a₀ pd st' → SameTo lo (arrOf st') (arrOf st) → 1 ≤ m → m ≤ nrem → Up rk (arrOf st') lo (lo + m) → Q (some m) st') :
    wpS (model prog w) A E s (countRun' lo nrem) Q st := by
  rw [countRunL_eq]
  refine wpS_bind (wpS_ascL hL h0 hn (Nat.le_refl 1) h1 hB (fun i j hl hij hj => by have : i = j := by (clear h hB h1 hn h0 hL; lia)
                                                                                    subst this; exact Int.le_refl _) fun n hn1 hn2 hsn hor => ?_)
  dsimp only
  by_cases hnn : n = nrem
  · rw [if_pos (by simpa using hnn)]
    exact wpS_pure (h n st hB .rfl' hn1 hn2 hsn)
  · rw [if_neg (by simpa using hnn)]
    have hlt : KR rk (arrOf st) (lo + n) < KR rk (arrOf st) (lo + n - 1) := hor.resolve_left hnn
    by_cases hgt : n > 1
    · rw [if_pos hgt]
      refine wpS_bind (wpS_ltR hL hB h0 (by (clear hgt hlt hnn hor hsn hn2 hn1 h hB h0 hL; lia)) (by (clear hlt hnn hor hsn hn1 h hB h1 h0 hL; lia)) ?_)
      by_cases hrose : KR rk (arrOf st) lo < KR rk (arrOf st) (lo + n - 1)
      · simp only [hrose, decide_true, if_true]
        exact wpS_pure (h n st hB .rfl' hn1 hn2 hsn)
      · simp only [hrose, decide_false, Bool.false_eq_true, if_false]
        have hsz : lo + n ≤ (arrOf st).size := by rw [hB.size]; (clear hrose hgt hlt hnn hor hsn hn1 h hB h1 h0 hL; lia)
        have hall : ∀ k, lo ≤ k → k < lo + n → KR rk (arrOf st) k = KR rk (arrOf st) (lo + n - 1) := by
          intro k hk0 hk
          have a1 := hsn lo k (Nat.le_refl _) hk0 hk
          have a2 := hsn k (lo + n - 1) hk0 (by (clear a1 hk0 hsz hrose hgt hlt hnn hor hsn hn2 hn1 h hB h1 hn h0 hL; lia)) (by (clear a1 hk hk0 hsz hrose hlt hnn hor hsn hn2 hn1 h hB h1 hn h0 hL; lia))
          (clear hk hk0 hsz hgt hlt hnn hor hsn hn2 hn1 h hB h1 hn h0 hL; lia)
        refine wpS_bind (wpS_rev (wpS_descP hL h0 hn (by (clear hall hsz hrose hgt hlt hor hsn hn1 h hB h1 hn h0 hL; lia)) (hB.set (mirror_perm _ _ _ _)) ?_ fun m2 st2 hB2 hS2 a b c => h m2 st2 hB2 (hS2.trans (same_mirror hsz (Nat.le_refl _))) a b c))
        intro i j hl hij hj
        show KR rk (mirror (arrOf st) _ _ _) j ≤ KR rk (mirror (arrOf st) _ _ _) i
        rw [KR_mirror_equal hsz hall, KR_mirror_equal hsz hall]
        by_cases hjn : j < lo + n
        · rw [hall i hl (by (clear hj hl hall hsz hrose hgt hlt hnn hor hsn hn2 hn1 h hB h1 hn h0 hL; lia)), hall j (by (clear hjn hj hall hsz hrose hgt hlt hnn hor hsn hn2 hn1 h hB h1 hn h0 hL; lia)) hjn]; exact Int.le_refl _
        · have hj' : j = lo + n := by (clear hij hl hall hsz hrose hgt hlt hnn hor hsn hn2 hn1 h hB h1 hn h0 hL; lia)
          subst hj'
          by_cases hi' : i = lo + n
          · subst hi'; exact Int.le_refl _
          · rw [hall i hl (by (clear hjn hj hl hall hsz hrose hgt hlt hnn hor hsn hn2 hn1 h hB h1 hn h0 hL; lia))]; exact Int.le_of_lt hlt
    · rw [if_neg hgt]
      have hn1' : n = 1 := by (clear hlt hnn hor hsn hn2 h hB h1 hn h0 hL; lia)
      subst hn1'
      refine wpS_descP hL h0 hn (by (clear hgt hlt hor hsn hn2 hn1 h hB hn h0 hL; lia)) hB ?_ h
      intro i j hl hij hj
      by_cases hi' : i = j
      · subst hi'; exact Int.le_refl _
      · have hi0 : i = lo := by (clear hgt hlt hnn hor hsn hn2 hn1 h hB h1 hn h0 hL; lia)
        have hj1 : j = lo + 1 := by (clear hl hgt hlt hnn hor hsn hn2 hn1 h hB h1 hn h0 hL; lia)
        subst hi0; subst hj1
        exact Int.le_of_lt hlt
end
end

/-! S3 -/
section
noncomputable def gallop' : Bool → Keyed → Array Keyed → Nat → Nat → Nat → StateT SortSt Sem (Option Nat) := sortPriv% PySem.Builtin.gallop
theorem gallop'_eq (left : Bool) (key : Keyed) (arr : Array Keyed) (base n hint : Nat) : gallop' left key arr base n hint = (do
  let beyond (i : Nat) : StateT SortSt Sem (Option Bool) := do
    let x ← elem' arr (base + i)
    if left then lt' x key else return (← lt' key x).map (!·)
  let mut lastofs := 0
  let mut ofs := 1
  let mut lo := 0
  let mut hi := 0
  let some right ← beyond hint | return none
  if right then
    let maxofs := n - hint
    for _ in [0:n] do
      if ofs ≥ maxofs then break
      let some more ← beyond (hint + ofs) | return none
      if !more then break
      lastofs := ofs
      ofs := 2 * ofs + 1
    lo := hint + lastofs + 1
    hi := hint + min ofs maxofs
  else
    let maxofs := hint + 1
    for _ in [0:n] do
      if ofs ≥ maxofs then break
      let some found ← beyond (hint - ofs) | return none
      if found then break
      lastofs := ofs
      ofs := 2 * ofs + 1
    lo := hint + 1 - min ofs maxofs
    hi := hint - lastofs
  for _ in [0:n] do
    if lo ≥ hi then break
    let m := lo + (hi - lo) / 2
    let some more ← beyond m | return none
    if more then lo := m + 1 else hi := m
  return some hi) := rfl

noncomputable abbrev GSt := Option (Option Nat) × Nat × Nat
noncomputable def gFin (beyond : Nat → StateT SortSt Sem (Option Bool)) (n lo hi : Nat) : StateT SortSt Sem (Option Nat) := do
  let __s ← forIn [:n] ((none, lo, hi) : GSt) fun _ __s =>
    if __s.snd.fst ≥ __s.snd.snd then pure (ForInStep.done (none, __s.snd.fst, __s.snd.snd))
    else do
      let __x ← beyond (__s.snd.fst + (__s.snd.snd - __s.snd.fst) / 2)
      match __x with
      | some more => if more = true then pure (ForInStep.yield (none, __s.snd.fst + (__s.snd.snd - __s.snd.fst) / 2 + 1, __s.snd.snd)) else pure (ForInStep.yield (none, __s.snd.fst, __s.snd.fst + (__s.snd.snd - __s.snd.fst) / 2))
      | _ => pure (ForInStep.done (some none, __s.snd.fst, __s.snd.snd))
  match __s.fst with
  | some r => pure r
  | none => pure (some __s.snd.snd)
/-- the steps that double -/
noncomputable def gDbl (beyond : Nat → StateT SortSt Sem (Option Bool)) (stop : Bool → Bool) (n maxofs : Nat) (at_ : Nat → Nat) (k : Nat → Nat → StateT SortSt Sem (Option Nat)) : StateT SortSt Sem (Option Nat) := do
  let __s ← forIn [:n] ((none, 0, 1) : GSt) fun _ __s =>
    if __s.snd.snd ≥ maxofs then pure (ForInStep.done (none, __s.snd.fst, __s.snd.snd))
    else do
      let __x ← beyond (at_ __s.snd.snd)
      match __x with
      | some b => if stop b = true then pure (ForInStep.done (none, __s.snd.fst, __s.snd.snd)) else pure (ForInStep.yield (none, __s.snd.snd, 2 * __s.snd.snd + 1))
      | _ => pure (ForInStep.done (some none, __s.snd.fst, __s.snd.snd))
  match __s.fst with
  | some r => pure r
  | none => k __s.snd.fst __s.snd.snd
noncomputable def bey' (left : Bool) (key : Keyed) (arr : Array Keyed) (base i : Nat) : StateT SortSt Sem (Option Bool) := do
  let x ← elem' arr (base + i)
  if left then lt' x key else return (← lt' key x).map (!·)
theorem gallop'_eq2 (left : Bool) (key : Keyed) (arr : Array Keyed) (base n hint : Nat) : gallop' left key arr base n hint = (do
  let __x ← bey' left key arr base hint
  match __x with
  | some right =>
    if right = true then gDbl (bey' left key arr base) (fun b => !b) n (n - hint) (fun o => hint + o) (fun lastofs ofs => gFin (bey' left key arr base) n (hint + lastofs + 1) (hint + min ofs (n - hint)))
    else gDbl (bey' left key arr base) (fun b => b) n (hint + 1) (fun o => hint - o) (fun lastofs ofs => gFin (bey' left key arr base) n (hint + 1 - min ofs (hint + 1)) (hint - lastofs))
  | _ => pure none) := by
  rw [gallop'_eq]
  refine bind_congr fun __x => ?_
  cases __x with
  | none => rfl
  | some right =>
    unfold gDbl gFin
    dsimp only
    split
    · refine bind_congr fun __s => ?_
      obtain ⟨r, l, o⟩ := __s
      cases r with
      | some r => rfl
      | none =>
        dsimp only
        refine bind_congr fun __s2 => ?_
        obtain ⟨r2, l2, o2⟩ := __s2
        cases r2 <;> rfl
    · refine bind_congr fun __s => ?_
      obtain ⟨r, l, o⟩ := __s
      cases r with
      | some r => rfl
      | none =>
        dsimp only
        refine bind_congr fun __s2 => ?_
        obtain ⟨r2, l2, o2⟩ := __s2
        cases r2 <;> rfl

section
variable {prog : Program} {w : World} {A : Around} {E : Value → Shared → Prop} {s : Shared} {rk : Value → Int} {D : Value → Prop}
variable {st : SortSt} {beyond : Nat → StateT SortSt Sem (Option Bool)} {bey : Nat → Bool} {n : Nat}

theorem wpS_gFin {Q : Option Nat → SortSt → Prop} (hb : ∀ i (Q : Option Bool → SortSt → Prop), i < n → Q (some (bey i)) st → wpS (model prog w) A E s (beyond i) Q st) (mono : ∀ i j, i ≤ j → j < n → bey j = true → bey i = true)
    {lo hi : Nat} (hlh : lo ≤ hi) (hhn : hi ≤ n) (h1 : ∀ i, i < lo → bey i = true) (h2 : ∀ i, hi ≤ i → i < n → bey i = false)
    (h : ∀ k, k ≤ n → (∀ i, i < k → bey i = true) → (∀ i, k ≤ i → i < n → bey i = false) → Q (some k) st) : wpS (model prog w) A E s (gFin beyond n lo hi) Q st := by
  unfold gFin
  refine wpS_bind (wpS_mono (wpS_forRange
    (I := fun x c st' => st' = st ∧ ∃ lo hi, c = (none, lo, hi) ∧ lo ≤ hi ∧ hi ≤ n ∧ hi - lo ≤ n - x ∧ (∀ i, i < lo → bey i = true) ∧ (∀ i, hi ≤ i → i < n → bey i = false))
    (Q := fun c st' => st' = st ∧ ∃ k, c = (none, k, k) ∧ k ≤ n ∧ (∀ i, i < k → bey i = true) ∧ (∀ i, k ≤ i → i < n → bey i = false)) ?step ?fin ⟨rfl, lo, hi, rfl, hlh, hhn, by (clear h h2 h1 mono hb; omega), h1, h2⟩) ?post)
  case fin =>
    rintro c st' ⟨rfl, lo, hi, rfl, a, b, c, d, e⟩
    have : lo = hi := by (clear e d b h hb h2 h1 hhn hlh mono; omega)
    subst this
    exact ⟨rfl, lo, rfl, b, d, e⟩
  case post =>
    rintro c st' ⟨rfl, k, rfl, a, b, c⟩
    exact wpS_pure (h k a b c)
  case step =>
    rintro x c st' _ hx ⟨rfl, lo, hi, rfl, a, b, c, d, e⟩
    dsimp only
    by_cases hge : lo ≥ hi
    · rw [if_pos hge]
      have : lo = hi := by (clear e d c b h hb hx h2 h1 hhn hlh mono; omega)
      subst this
      exact wpS_pure ⟨rfl, lo, rfl, b, d, e⟩
    · rw [if_neg hge]
      refine wpS_bind (hb _ _ (by (clear e d c a h hb hx h2 h1 hhn hlh mono; omega)) ?_)
      dsimp only
      cases hm : bey (lo + (hi - lo) / 2)
      · rw [if_neg (by decide)]
        refine wpS_pure ⟨rfl, _, _, rfl, by (clear hm hge e d c b a h hb hx h2 h1 hhn hlh mono; omega), by (clear hm e d c a h hb hx h2 h1 hhn hlh mono; omega), by (clear hm e d b a h hb h2 h1 hhn hlh mono; omega), d, fun i hi1 hi2 => ?_⟩
        cases hz : bey i
        · rfl
        · exact absurd (mono _ _ hi1 hi2 hz) (by rw [hm]; decide)
      · rw [if_pos rfl]
        refine wpS_pure ⟨rfl, _, _, rfl, by (clear hm e d c b a h hb hx h2 h1 hhn hlh mono; omega), by (clear hm hge e d c a h hb hx h2 h1 hhn hlh mono; omega), by (clear hm e d b a h hb h2 h1 hhn hlh mono; omega), fun i hi1 => ?_, e⟩
        exact mono i _ (by (clear hm hge e d c b a h hb hx h2 h1 hhn hlh mono; omega)) (by (clear hi1 hm e d c a h hb hx h2 h1 hhn hlh mono; omega)) hm

theorem wpS_gDbl {Q : Option Nat → SortSt → Prop} {stop : Bool → Bool} {maxofs : Nat} {at_ : Nat → Nat} {k : Nat → Nat → StateT SortSt Sem (Option Nat)}
    (hb : ∀ i (Q : Option Bool → SortSt → Prop), i < n → Q (some (bey i)) st → wpS (model prog w) A E s (beyond i) Q st) (hat : ∀ o, o < maxofs → at_ o < n) (hmx : maxofs ≤ n)
    (h0 : stop (bey (at_ 0)) = false) (hm0 : 0 < maxofs)
    (h : ∀ lastofs ofs, lastofs < ofs → lastofs < maxofs → stop (bey (at_ lastofs)) = false → (maxofs ≤ ofs ∨ (ofs < maxofs ∧ stop (bey (at_ ofs)) = true)) → wpS (model prog w) A E s (k lastofs ofs) Q st) :
    wpS (model prog w) A E s (gDbl beyond stop n maxofs at_ k) Q st := by
  unfold gDbl
  refine wpS_bind (wpS_mono (wpS_forRange
    (I := fun x c st' => st' = st ∧ ∃ l o, c = (none, l, o) ∧ l < o ∧ l < maxofs ∧ x < o ∧ stop (bey (at_ l)) = false)
    (Q := fun c st' => st' = st ∧ ∃ l o, c = (none, l, o) ∧ l < o ∧ l < maxofs ∧ stop (bey (at_ l)) = false ∧ (maxofs ≤ o ∨ (o < maxofs ∧ stop (bey (at_ o)) = true))) ?step ?fin ⟨rfl, 0, 1, rfl, by (clear h hm0 h0 hmx hat hb; omega), hm0, by (clear h hm0 h0 hmx hat hb; omega), h0⟩) ?post)
  case fin =>
    rintro c st' ⟨rfl, l, o, rfl, a, b, c, d⟩
    exact ⟨rfl, l, o, rfl, a, b, d, .inl (by (clear d b a h hb hm0 h0 hat; omega))⟩
  case post =>
    rintro c st' ⟨rfl, l, o, rfl, a, b, c, d⟩
    exact h l o a b c d
  case step =>
    rintro x c st' _ hx ⟨rfl, l, o, rfl, a, b, c, d⟩
    dsimp only
    by_cases hge : o ≥ maxofs
    · rw [if_pos hge]
      exact wpS_pure ⟨rfl, l, o, rfl, a, b, d, .inl hge⟩
    · rw [if_neg hge]
      refine wpS_bind (hb _ _ (hat _ (by (clear d c b a h hb hx hm0 h0 hmx hat; omega))) ?_)
      dsimp only
      cases hm : stop (bey (at_ o))
      · rw [if_neg (by decide)]
        exact wpS_pure ⟨rfl, o, _, rfl, by (clear hm hge d c b a h hb hx hm0 h0 hmx hat; omega), by (clear hm d c b a h hb hx hm0 h0 hmx hat; omega), by (clear hm hge d b a h hb hx hm0 h0 hmx hat; omega), hm⟩
      · rw [if_pos rfl]
        exact wpS_pure ⟨rfl, l, o, rfl, a, b, d, .inr ⟨by (clear hm d c b a h hb hx hm0 h0 hmx hat; omega), hm⟩⟩

theorem wpS_bey {left : Bool} {key : Keyed} {arr : Array Keyed} {base i : Nat} {p : Keyed} {Q : Option Bool → SortSt → Prop} (hL : LtOK prog w A s rk D) (hk : kindOf st = oneType') (hD : D key.1) (hp : arr[base + i]? = some p) (hDp : D p.1)
    (h : Q (some (if left then decide (rk p.1 < rk key.1) else decide (rk p.1 ≤ rk key.1))) st) : wpS (model prog w) A E s (bey' left key arr base i) Q st := by
  unfold bey'
  refine wpS_bind (wpS_elem hp ?_)
  cases left with
  | true => exact wpS_lt hL hk hDp hD h
  | false =>
    refine wpS_bind (wpS_lt hL hk hD hDp (wpS_pure ?_))
    have e : (!decide (rk key.1 < rk p.1)) = decide (rk p.1 ≤ rk key.1) := by
      by_cases hh : rk key.1 < rk p.1
      · simp [hh, Int.not_le.mpr hh]
      · simp [hh, Int.not_lt.mp hh]
    show Q (some (!decide (rk key.1 < rk p.1))) st
    rw [e]; exact h

theorem wpS_gallop {left : Bool} {key : Keyed} {arr : Array Keyed} {base hint : Nat} {Q : Option Nat → SortSt → Prop} (hL : LtOK prog w A s rk D) (hk : kindOf st = oneType') (hD : D key.1) (hA : AllD D arr) (hsz : base + n ≤ arr.size) (hhint : hint < n) (hup : Up rk arr base (base + n))
    (h : ∀ k, k ≤ n → (∀ i, base ≤ i → i < base + k → if left then KR rk arr i < rk key.1 else KR rk arr i ≤ rk key.1) → (∀ i, base + k ≤ i → i < base + n → if left then rk key.1 ≤ KR rk arr i else rk key.1 < KR rk arr i) → Q (some k) st) :
    wpS (model prog w) A E s (gallop' left key arr base n hint) Q st := by
  have hat : ∀ i, i < n → ∃ p, arr[base + i]? = some p ∧ D p.1 := fun i hi => by
    have hi' : base + i < arr.size := by (clear h hup hhint hA hD hk hL; omega)
    exact ⟨arr[base + i], getElem?_pos arr (base + i) hi', hA _ (by simp)⟩
  obtain ⟨bey, hbey⟩ : ∃ bey : Nat → Bool, ∀ i, bey i = if left then decide (KR rk arr (base + i) < rk key.1) else decide (KR rk arr (base + i) ≤ rk key.1) := ⟨_, fun _ => rfl⟩
  have hb : ∀ i (Q : Option Bool → SortSt → Prop), i < n → Q (some (bey i)) st → wpS (model prog w) A E s (bey' left key arr base i) Q st := by
    intro i Q hi hQ
    obtain ⟨p, e, d⟩ := hat i hi
    refine wpS_bey hL hk hD e d ?_
    rw [hbey, KR_at e] at hQ
    exact hQ
  have mono : ∀ i j, i ≤ j → j < n → bey j = true → bey i = true := by
    intro i j hij hj hb'
    rw [hbey] at hb' ⊢
    have := hup (base + i) (base + j) (by (clear hb' hj hij hb hbey hat h hup hhint hsz hA hD hk hL; omega)) (by (clear hb' hj hb hbey hat h hup hhint hsz hA hD hk hL; omega)) (by (clear hb' hij hb hbey hat h hup hhint hsz hA hD hk hL; omega))
    cases left
    · simp only [Bool.false_eq_true, if_false, decide_eq_true_eq] at hb' ⊢; (clear hb hbey h hj hij hat hup hhint hsz hA hD hk hL; omega)
    · simp only [if_true, decide_eq_true_eq] at hb' ⊢; (clear hb hbey h hj hij hat hup hhint hsz hA hD hk hL; omega)
  have hfin : ∀ k, k ≤ n → (∀ i, i < k → bey i = true) → (∀ i, k ≤ i → i < n → bey i = false) → Q (some k) st := by
    intro k hkn h1 h2
    refine h k hkn (fun i hi1 hi2 => ?_) (fun i hi1 hi2 => ?_)
    · have := h1 (i - base) (by (clear h2 h1 hkn mono hb hbey hat h hup hhint hsz hA hD hk hL; omega))
      rw [hbey, show base + (i - base) = i by (clear this hi2 h2 h1 hkn mono hb hbey hat h hup hhint hsz hA hD hk hL; omega)] at this
      cases left
      · simpa using this
      · simpa using this
    · have := h2 (i - base) (by (clear hi2 h2 h1 hkn mono hb hbey hat h hup hhint hsz hA hD hk hL; omega)) (by (clear h2 h1 hkn mono hb hbey hat h hup hhint hsz hA hD hk hL; omega))
      rw [hbey, show base + (i - base) = i by (clear this hi2 h2 h1 hkn mono hb hbey hat h hup hhint hsz hA hD hk hL; omega)] at this
      cases left
      · simpa using this
      · simpa using this
  rw [gallop'_eq2]
  refine wpS_bind (hb _ _ hhint ?_)
  dsimp only
  cases hr : bey hint
  · rw [if_neg (by decide)]
    refine wpS_gDbl (bey := bey) hb (fun o ho => by (clear hr hfin mono hb hbey hat h hup hsz hA hD hk hL; omega)) (by (clear hr hfin mono hb hbey hat h hup hsz hA hD hk hL; omega)) (by simpa using hr) (by (clear hr hfin mono hb hbey hat h hup hhint hsz hA hD hk hL; omega)) fun l o hlo hlm hst hor => ?_
    refine wpS_gFin hb mono (by (clear hor hst hr hfin mono hb hbey hat h hup hhint hsz hA hD hk hL; omega)) (by (clear hor hst hlo hr hfin mono hb hbey hat h hup hsz hA hD hk hL; omega)) (fun i hi => ?_) (fun i hi1 hi2 => ?_) hfin
    · rcases hor with hor | ⟨ho, hs⟩
      · (clear hst hlm hlo hr hfin mono hb hbey hat h hup hhint hsz hA hD hk hL; omega)
      · exact mono i (hint - o) (by (clear hs hst hlm hlo hr hfin mono hb hbey hat h hup hhint hsz hA hD hk hL; omega)) (by (clear hs hi hst hlm hr hfin mono hb hbey hat h hup hsz hA hD hk hL; omega)) hs
    · cases hz : bey i
      · rfl
      · have := mono (hint - l) i hi1 hi2 hz
        rw [this] at hst; exact absurd hst (by decide)
  · rw [if_pos rfl]
    refine wpS_gDbl (bey := bey) hb (fun o ho => by (clear hr hfin mono hb hbey hat h hup hsz hA hD hk hL; omega)) (by (clear hr hfin mono hb hbey hat h hup hsz hA hD hk hL; omega)) (by simpa using hr) (by (clear hr hfin mono hb hbey hat h hup hsz hA hD hk hL; omega)) fun l o hlo hlm hst hor => ?_
    refine wpS_gFin hb mono (by (clear hor hst hr hfin mono hb hbey hat h hup hhint hsz hA hD hk hL; omega)) (by (clear hst hlm hlo hr hfin mono hb hbey hat h hup hsz hA hD hk hL; omega)) (fun i hi => ?_) (fun i hi1 hi2 => ?_) hfin
    · exact mono i (hint + l) (by (clear hor hst hlm hlo hr hfin mono hb hbey hat h hup hhint hsz hA hD hk hL; omega)) (by (clear hi hst hlo hr hfin mono hb hbey hat h hup hsz hA hD hk hL; omega)) (by simpa using hst)
    · rcases hor with hor | ⟨ho, hs⟩
      · (clear hst hlm hlo hr hfin mono hb hbey hat h hup hsz hA hD hk hL; omega)
      · cases hz : bey i
        · rfl
        · have := mono (hint + o) i (by (clear hz hs hi2 hst hlm hlo hr hfin mono hb hbey hat h hup hhint hsz hA hD hk hL; omega)) hi2 hz
          rw [this] at hs; exact absurd hs (by decide)
end
end

/-! S4 -/
section
noncomputable def setMinGallop' : Nat → StateT SortSt Sem Unit := sortPriv% PySem.Builtin.setMinGallop
theorem setMinGallop'_eq (g : Nat) : setMinGallop' g = modify fun s => SortSt.mk' (PyProof.Rows.kindOf s) (arrOf s) (pendingOf s) g (failedOf s) := rfl
noncomputable def mergeLo' : Array Keyed → Array Keyed → StateT SortSt Sem (Array Keyed) := sortPriv% PySem.Builtin.mergeLo
theorem mergeLo'_eq (a b : Array Keyed) : mergeLo' a b = (do
  rule "list.sort.merge-lo"
  let total := a.size + b.size
  let done (out : Array Keyed) (ia ib : Nat) := out ++ a.extract ia a.size ++ b.extract ib b.size
  let lastOfA (out : Array Keyed) (ia ib : Nat) := out ++ b.extract ib b.size ++ a.extract ia a.size
  let mut out : Array Keyed := #[← elem' b 0]
  let mut ia := 0
  let mut ib := 1
  if ib == b.size then return done out ia ib
  if ia + 1 == a.size then return lastOfA out ia ib
  let mut minGallop := gallopOf (← get)
  for _ in [0:total] do
    let mut acount := 0
    let mut bcount := 0
    for _ in [0:total] do
      let some bWins ← lt' (← elem' b ib) (← elem' a ia) | return done out ia ib
      if bWins then
        out := out.push (← elem' b ib); ib := ib + 1; bcount := bcount + 1; acount := 0
        if ib == b.size then return done out ia ib
        if bcount ≥ minGallop then break
      else
        out := out.push (← elem' a ia); ia := ia + 1; acount := acount + 1; bcount := 0
        if ia + 1 == a.size then return lastOfA out ia ib
        if acount ≥ minGallop then break
    rule "list.sort.gallop"
    minGallop := minGallop + 1
    for _ in [0:total] do
      if minGallop > 1 then minGallop := minGallop - 1
      setMinGallop' minGallop
      let some k ← gallop' false (← elem' b ib) a ia (a.size - ia) 0 | return done out ia ib
      acount := k
      if k > 0 then
        out := out ++ a.extract ia (ia + k); ia := ia + k
        if ia + 1 == a.size then return lastOfA out ia ib
        if ia == a.size then return done out ia ib
      out := out.push (← elem' b ib); ib := ib + 1
      if ib == b.size then return done out ia ib
      let some k ← gallop' true (← elem' a ia) b ib (b.size - ib) 0 | return done out ia ib
      bcount := k
      if k > 0 then
        out := out ++ b.extract ib (ib + k); ib := ib + k
        if ib == b.size then return done out ia ib
      out := out.push (← elem' a ia); ia := ia + 1
      if ia + 1 == a.size then return lastOfA out ia ib
      if acount < 7 && bcount < 7 then break
    minGallop := minGallop + 1
    setMinGallop' minGallop
  unsupported "internal:list.sort.merge-bound") := rfl

noncomputable abbrev ML1 := Option (Array Keyed) × Array Keyed × Nat × Nat × Nat × Nat
noncomputable abbrev ML2 := Option (Array Keyed) × Array Keyed × Nat × Nat × Nat × Nat × Nat
noncomputable abbrev ML0 := Option (Array Keyed) × Array Keyed × Nat × Nat × Nat
noncomputable def mlDone (a b out : Array Keyed) (ia ib : Nat) : Array Keyed := out ++ a.extract ia a.size ++ b.extract ib b.size
noncomputable def mlLast (a b out : Array Keyed) (ia ib : Nat) : Array Keyed := out ++ b.extract ib b.size ++ a.extract ia a.size
noncomputable def mlA (a b out : Array Keyed) (ia ib mg ac bc : Nat) : StateT SortSt Sem (ForInStep ML2) := do
  let p ← elem' a ia
  if (ia + 1 + 1 == a.size) = true then pure (ForInStep.done (some (mlLast a b (out.push p) (ia + 1) ib), out.push p, ia + 1, ib, mg, ac, bc))
  else if (decide (ac < 7) && decide (bc < 7)) = true then pure (ForInStep.done (none, out.push p, ia + 1, ib, mg, ac, bc))
  else pure (ForInStep.yield (none, out.push p, ia + 1, ib, mg, ac, bc))
noncomputable def mlB (a b out : Array Keyed) (ia ib mg ac bc : Nat) : StateT SortSt Sem (ForInStep ML2) := do
  let p ← elem' b ib
  if (ib + 1 == b.size) = true then pure (ForInStep.done (some (mlDone a b (out.push p) ia (ib + 1)), out.push p, ia, ib + 1, mg, ac, bc))
  else do
    let q ← elem' a ia
    let x ← gallop' true q b (ib + 1) (b.size - (ib + 1)) 0
    match x with
    | some k =>
      if k > 0 then
        if (ib + 1 + k == b.size) = true then pure (ForInStep.done (some (mlDone a b (out.push p ++ b.extract (ib + 1) (ib + 1 + k)) ia (ib + 1 + k)), out.push p ++ b.extract (ib + 1) (ib + 1 + k), ia, ib + 1 + k, mg, ac, k))
        else mlA a b (out.push p ++ b.extract (ib + 1) (ib + 1 + k)) ia (ib + 1 + k) mg ac k
      else mlA a b (out.push p) ia (ib + 1) mg ac k
    | x => pure (ForInStep.done (some (mlDone a b (out.push p) ia (ib + 1)), out.push p, ia, ib + 1, mg, ac, bc))
noncomputable def mlG (a b out : Array Keyed) (ia ib mg ac bc : Nat) : StateT SortSt Sem (ForInStep ML2) := do
  setMinGallop' mg
  let q ← elem' b ib
  let x ← gallop' false q a ia (a.size - ia) 0
  match x with
  | some k =>
    if k > 0 then
      if (ia + k + 1 == a.size) = true then pure (ForInStep.done (some (mlLast a b (out ++ a.extract ia (ia + k)) (ia + k) ib), out ++ a.extract ia (ia + k), ia + k, ib, mg, k, bc))
      else if (ia + k == a.size) = true then pure (ForInStep.done (some (mlDone a b (out ++ a.extract ia (ia + k)) (ia + k) ib), out ++ a.extract ia (ia + k), ia + k, ib, mg, k, bc))
      else mlB a b (out ++ a.extract ia (ia + k)) (ia + k) ib mg k bc
    else mlB a b out ia ib mg k bc
  | x => pure (ForInStep.done (some (mlDone a b out ia ib), out, ia, ib, mg, ac, bc))
noncomputable def ml2 (a b out : Array Keyed) (ia ib mg ac bc : Nat) : StateT SortSt Sem ML2 :=
  forIn [:a.size + b.size] ((none, out, ia, ib, mg, ac, bc) : ML2) fun _ s =>
    if s.2.2.2.2.1 > 1 then mlG a b s.2.1 s.2.2.1 s.2.2.2.1 (s.2.2.2.2.1 - 1) s.2.2.2.2.2.1 s.2.2.2.2.2.2
    else mlG a b s.2.1 s.2.2.1 s.2.2.2.1 s.2.2.2.2.1 s.2.2.2.2.2.1 s.2.2.2.2.2.2
noncomputable def ml1 (a b out : Array Keyed) (ia ib mg : Nat) : StateT SortSt Sem ML1 :=
  forIn [:a.size + b.size] ((none, out, ia, ib, 0, 0) : ML1) fun _ s => do
    let y ← elem' b s.2.2.2.1
    let z ← elem' a s.2.2.1
    let x ← lt' y z
    match x with
    | some bWins =>
      if bWins = true then do
        let p ← elem' b s.2.2.2.1
        if (s.2.2.2.1 + 1 == b.size) = true then pure (ForInStep.done (some (mlDone a b (s.2.1.push p) s.2.2.1 (s.2.2.2.1 + 1)), s.2.1.push p, s.2.2.1, s.2.2.2.1 + 1, 0, s.2.2.2.2.2 + 1))
        else if s.2.2.2.2.2 + 1 ≥ mg then pure (ForInStep.done (none, s.2.1.push p, s.2.2.1, s.2.2.2.1 + 1, 0, s.2.2.2.2.2 + 1))
        else pure (ForInStep.yield (none, s.2.1.push p, s.2.2.1, s.2.2.2.1 + 1, 0, s.2.2.2.2.2 + 1))
      else do
        let p ← elem' a s.2.2.1
        if (s.2.2.1 + 1 + 1 == a.size) = true then pure (ForInStep.done (some (mlLast a b (s.2.1.push p) (s.2.2.1 + 1) s.2.2.2.1), s.2.1.push p, s.2.2.1 + 1, s.2.2.2.1, s.2.2.2.2.1 + 1, 0))
        else if s.2.2.2.2.1 + 1 ≥ mg then pure (ForInStep.done (none, s.2.1.push p, s.2.2.1 + 1, s.2.2.2.1, s.2.2.2.2.1 + 1, 0))
        else pure (ForInStep.yield (none, s.2.1.push p, s.2.2.1 + 1, s.2.2.2.1, s.2.2.2.2.1 + 1, 0))
    | x => pure (ForInStep.done (some (mlDone a b s.2.1 s.2.2.1 s.2.2.2.1), s.2.1, s.2.2.1, s.2.2.2.1, s.2.2.2.2.1, s.2.2.2.2.2))
noncomputable def ml0 (a b out : Array Keyed) (mg : Nat) : StateT SortSt Sem ML0 :=
  forIn [:a.size + b.size] ((none, out, 0, 1, mg) : ML0) fun _ s => do
    let u ← ml1 a b s.2.1 s.2.2.1 s.2.2.2.1 s.2.2.2.2
    match u.1 with
    | some r => pure (ForInStep.done (some r, u.2.1, u.2.2.1, u.2.2.2.1, s.2.2.2.2))
    | none => do
      liftM (rule "list.sort.gallop")
      let v ← ml2 a b u.2.1 u.2.2.1 u.2.2.2.1 (s.2.2.2.2 + 1) u.2.2.2.2.1 u.2.2.2.2.2
      match v.1 with
      | some r => pure (ForInStep.done (some r, v.2.1, v.2.2.1, v.2.2.2.1, v.2.2.2.2.1))
      | none => do
        setMinGallop' (v.2.2.2.2.1 + 1)
        pure (ForInStep.yield (none, v.2.1, v.2.2.1, v.2.2.2.1, v.2.2.2.2.1 + 1))
theorem mergeLo'_eq2 (a b : Array Keyed) : mergeLo' a b = (do
  liftM (rule "list.sort.merge-lo")
  let p ← elem' b 0
  if (1 == b.size) = true then pure (mlDone a b #[p] 0 1)
  else if (0 + 1 == a.size) = true then pure (mlLast a b #[p] 0 1)
  else do
    let g ← get
    let t ← ml0 a b #[p] (gallopOf g)
    match t.1 with
    | some r => pure r
    | none => liftM (unsupported "internal:list.sort.merge-bound" : Sem (Array Keyed))) := by
  rw [mergeLo'_eq]
  kernel_rfl
end

/-! S5 -/
section
noncomputable def SL (rk : Value → Int) (l : List Keyed) : Prop := l.Pairwise fun x y => rk x.1 ≤ rk y.1
structure MInv (rk : Value → Int) (la lb out : List Keyed) (ia ib : Nat) : Prop where
  perm : (out ++ (la.drop ia ++ lb.drop ib)).Perm (la ++ lb)
  up : SL rk out
  le : ∀ x ∈ out, ∀ y, y ∈ la.drop ia ∨ y ∈ lb.drop ib → rk x.1 ≤ rk y.1
structure MRes (rk : Value → Int) (la lb r : List Keyed) : Prop where
  perm : r.Perm (la ++ lb)
  up : SL rk r

section
variable {rk : Value → Int} {la lb out : List Keyed} {ia ib : Nat}
theorem SL.drop {l : List Keyed} (h : SL rk l) (n : Nat) : SL rk (l.drop n) := List.Pairwise.sublist (List.drop_sublist n l) h
theorem SL.take {l : List Keyed} (h : SL rk l) (n : Nat) : SL rk (l.take n) := List.Pairwise.sublist (List.take_sublist n l) h
theorem SL.app {l r : List Keyed} (h : SL rk l) (h' : SL rk r) (hc : ∀ x ∈ l, ∀ y ∈ r, rk x.1 ≤ rk y.1) : SL rk (l ++ r) := List.pairwise_append.mpr ⟨h, h', hc⟩
theorem take_drop_eq (l : List Keyed) (i k : Nat) : (l.drop i).take k ++ l.drop (i + k) = l.drop i := by
  rw [← List.drop_drop]; exact List.take_append_drop k (l.drop i)
theorem SL.cut {l : List Keyed} (h : SL rk l) (i k : Nat) : ∀ x ∈ (l.drop i).take k, ∀ y ∈ l.drop (i + k), rk x.1 ≤ rk y.1 := by
  have := h.drop i
  rw [← take_drop_eq l i k] at this
  exact (List.pairwise_append.mp this).2.2
theorem MInv.start (la lb : List Keyed) : MInv rk la lb [] 0 0 := ⟨.refl _, .nil, fun x hx => by simp at hx⟩
theorem MInv.goA (h : MInv rk la lb out ia ib) (hla : SL rk la) (k : Nat) (hc : ∀ x ∈ (la.drop ia).take k, ∀ y ∈ lb.drop ib, rk x.1 ≤ rk y.1) :
    MInv rk la lb (out ++ (la.drop ia).take k) (ia + k) ib := by
  refine ⟨?_, h.up.app ((hla.drop ia).take k) fun x hx y hy => h.le x hx y (.inl (List.mem_of_mem_take hy)), fun x hx y hy => ?_⟩
  · have e : out ++ (la.drop ia).take k ++ (la.drop (ia + k) ++ lb.drop ib) = out ++ (la.drop ia ++ lb.drop ib) := by
      rw [List.append_assoc, ← List.append_assoc _ (la.drop (ia + k)), take_drop_eq]
    rw [e]; exact h.perm
  · rcases List.mem_append.mp hx with hx | hx
    · refine h.le x hx y (hy.imp (fun q => ?_) id)
      rw [← take_drop_eq la ia k]; exact List.mem_append_right _ q
    · rcases hy with hy | hy
      · exact hla.cut ia k x hx y hy
      · exact hc x hx y hy
theorem MInv.goB (h : MInv rk la lb out ia ib) (hlb : SL rk lb) (k : Nat) (hc : ∀ x ∈ (lb.drop ib).take k, ∀ y ∈ la.drop ia, rk x.1 ≤ rk y.1) :
    MInv rk la lb (out ++ (lb.drop ib).take k) ia (ib + k) := by
  refine ⟨?_, h.up.app ((hlb.drop ib).take k) fun x hx y hy => h.le x hx y (.inr (List.mem_of_mem_take hy)), fun x hx y hy => ?_⟩
  · refine List.Perm.trans ?_ h.perm
    rw [List.append_assoc]
    refine List.Perm.append_left _ ?_
    have e : lb.drop ib = (lb.drop ib).take k ++ lb.drop (ib + k) := (take_drop_eq lb ib k).symm
    have p1 : ((lb.drop ib).take k ++ (la.drop ia ++ lb.drop (ib + k))).Perm (la.drop ia ++ ((lb.drop ib).take k ++ lb.drop (ib + k))) := by
      rw [← List.append_assoc, ← List.append_assoc]
      exact List.Perm.append_right _ List.perm_append_comm
    rw [← e] at p1
    exact p1
  · rcases List.mem_append.mp hx with hx | hx
    · refine h.le x hx y (hy.imp id fun q => ?_)
      rw [← take_drop_eq lb ib k]; exact List.mem_append_right _ q
    · rcases hy with hy | hy
      · exact hc x hx y hy
      · exact hlb.cut ib k x hx y hy
theorem MInv.fin (h : MInv rk la lb out ia ib) (hla : SL rk la) (hlb : SL rk lb) (hc : ∀ x ∈ la.drop ia, ∀ y ∈ lb.drop ib, rk x.1 ≤ rk y.1) : MRes rk la lb (out ++ la.drop ia ++ lb.drop ib) := by
  rw [List.append_assoc]
  refine ⟨h.perm, h.up.app ((hla.drop ia).app (hlb.drop ib) hc) fun x hx y hy => h.le x hx y (List.mem_append.mp hy)⟩
theorem MInv.finL (h : MInv rk la lb out ia ib) (hla : SL rk la) (hlb : SL rk lb) (hc : ∀ x ∈ lb.drop ib, ∀ y ∈ la.drop ia, rk x.1 ≤ rk y.1) : MRes rk la lb (out ++ lb.drop ib ++ la.drop ia) := by
  rw [List.append_assoc]
  exact ⟨(List.Perm.append_left _ List.perm_append_comm).trans h.perm, h.up.app ((hlb.drop ib).app (hla.drop ia) hc) fun x hx y hy => h.le x hx y (List.mem_append.mp hy).symm⟩
end

theorem ext_list (a : Array Keyed) (i k : Nat) : (a.extract i (i + k)).toList = (a.toList.drop i).take k := by
  rw [Array.toList_extract, List.extract_eq_take_drop, show i + k - i = k by lia]
theorem ext_end (a : Array Keyed) (i : Nat) : (a.extract i a.size).toList = a.toList.drop i := by
  rw [Array.toList_extract, List.extract_eq_take_drop]
  exact List.take_of_length_le (by rw [List.length_drop]; simp)
theorem mlDone_list (a b out : Array Keyed) (ia ib : Nat) : (mlDone a b out ia ib).toList = out.toList ++ a.toList.drop ia ++ b.toList.drop ib := by
  unfold mlDone; rw [Array.toList_append, Array.toList_append, ext_end, ext_end]
theorem mlLast_list (a b out : Array Keyed) (ia ib : Nat) : (mlLast a b out ia ib).toList = out.toList ++ b.toList.drop ib ++ a.toList.drop ia := by
  unfold mlLast; rw [Array.toList_append, Array.toList_append, ext_end, ext_end]
theorem push_take {a out : Array Keyed} {i : Nat} {p : Keyed} (h : a[i]? = some p) : (out.push p).toList = out.toList ++ (a.toList.drop i).take 1 := by
  have hi : i < a.toList.length := by obtain ⟨hi, _⟩ := Array.getElem?_eq_some_iff.mp h; simpa using hi
  have e : a.toList[i] = p := by obtain ⟨_, e⟩ := Array.getElem?_eq_some_iff.mp h; simpa using e
  rw [Array.toList_push, List.drop_eq_getElem_cons hi, e]; rfl
theorem ext_take (a out : Array Keyed) (i k : Nat) : (out ++ a.extract i (i + k)).toList = out.toList ++ (a.toList.drop i).take k := by
  rw [Array.toList_append, ext_list]
theorem mem_drop_at {a : Array Keyed} {i : Nat} {x : Keyed} (h : x ∈ a.toList.drop i) : ∃ j, i ≤ j ∧ j < a.size ∧ a[j]? = some x := by
  obtain ⟨k, hk, e⟩ := List.mem_iff_getElem.mp h
  rw [List.length_drop] at hk
  rw [List.getElem_drop] at e
  refine ⟨i + k, by (clear e hk h; lia), by simp at hk; (clear e h; lia), ?_⟩
  rw [Array.getElem?_eq_some_iff]
  exact ⟨by simp at hk; (clear e h; lia), by simpa using e⟩
theorem mem_take_at {a : Array Keyed} {i k : Nat} {x : Keyed} (h : x ∈ (a.toList.drop i).take k) : ∃ j, i ≤ j ∧ j < i + k ∧ j < a.size ∧ a[j]? = some x := by
  obtain ⟨n, hk, e⟩ := List.mem_iff_getElem.mp h
  rw [List.length_take, List.length_drop] at hk
  rw [List.getElem_take, List.getElem_drop] at e
  have h2 : i + n < a.size := by simp at hk; (clear e h; lia)
  refine ⟨i + n, by (clear h2 e hk h; lia), by (clear h2 e h; lia), h2, ?_⟩
  rw [Array.getElem?_eq_some_iff]
  exact ⟨h2, by simpa using e⟩
theorem up_SL {rk : Value → Int} {a : Array Keyed} (h : Up rk a 0 a.size) : SL rk a.toList := by
  unfold SL
  rw [List.pairwise_iff_getElem]
  intro i j hi hj hij
  have hi' : i < a.size := by simpa using hi
  have hj' : j < a.size := by simpa using hj
  have := h i j (Nat.zero_le _) (Nat.le_of_lt hij) hj'
  rw [KR_at (getElem?_pos a i hi'), KR_at (getElem?_pos a j hj')] at this
  simpa using this
theorem SL_up {rk : Value → Int} {a : Array Keyed} (h : SL rk a.toList) : Up rk a 0 a.size := by
  intro i j _ hij hj
  by_cases e : i = j
  · subst e; exact Int.le_refl _
  · have hi' : i < a.size := by (clear e h; lia)
    rw [KR_at (getElem?_pos a i hi'), KR_at (getElem?_pos a j hj)]
    have := List.pairwise_iff_getElem.mp h i j (by simpa using hi') (by simpa using hj) (by (clear hi' hj h; lia))
    simpa using this

/-- what a merge leaves as it was -/
noncomputable def GSame (st st' : SortSt) : Prop := PyProof.Rows.kindOf st' = PyProof.Rows.kindOf st ∧ arrOf st' = arrOf st ∧ pendingOf st' = pendingOf st ∧ failedOf st' = failedOf st
theorem GSame.rfl' {st : SortSt} : GSame st st := ⟨rfl, rfl, rfl, rfl⟩
theorem GSame.trans {a b c : SortSt} (h : GSame a b) (h' : GSame b c) : GSame a c := ⟨h'.1.trans h.1, h'.2.1.trans h.2.1, h'.2.2.1.trans h.2.2.1, h'.2.2.2.trans h.2.2.2⟩

section
variable {prog : Program} {w : World} {A : Around} {E : Value → Shared → Prop} {s : Shared} {rk : Value → Int} {D : Value → Prop} {a b out : Array Keyed} {ia ib : Nat} {st : SortSt}

theorem wpS_setG {g : Nat} {Q : Unit → SortSt → Prop} (h : ∀ st', GSame st st' → Q () st') : wpS (model prog w) A E s (setMinGallop' g) Q st := by
  rw [setMinGallop'_eq]; exact wpS_modify (h _ ⟨rfl, rfl, rfl, rfl⟩)

/-- what holds of two runs that are merged -/
structure MPre (prog : Program) (w : World) (A : Around) (s : Shared) (rk : Value → Int) (D : Value → Prop) (a b : Array Keyed) : Prop where
  lt : LtOK prog w A s rk D
  da : AllD D a
  db : AllD D b
  ua : Up rk a 0 a.size
  ub : Up rk b 0 b.size
  last : ∀ i, i < b.size → KR rk b i ≤ KR rk a (a.size - 1)

noncomputable def MRun (rk : Value → Int) (a b out : Array Keyed) (ia ib : Nat) : Prop := MInv rk a.toList b.toList out.toList ia ib ∧ ia + 1 < a.size ∧ ib < b.size
noncomputable def P2 (rk : Value → Int) (a b : Array Keyed) (st : SortSt) (rem : Nat) (r : ForInStep ML2) (st' : SortSt) : Prop :=
  GSame st st' ∧ match r with
  | .done (some r, _) => MRes rk a.toList b.toList r.toList
  | .done (none, out, ia, ib, _) => MRun rk a b out ia ib ∧ a.size - ia + (b.size - ib) < rem
  | .yield (o, out, ia, ib, _) => o = none ∧ MRun rk a b out ia ib ∧ a.size - ia + (b.size - ib) < rem

theorem MPre.atA (h : MPre prog w A s rk D a b) {i : Nat} (hi : i < a.size) : ∃ p, a[i]? = some p ∧ D p.1 ∧ KR rk a i = rk p.1 := ⟨a[i], getElem?_pos a i hi, h.da _ (by simp), KR_at (getElem?_pos a i hi)⟩
theorem MPre.atB (h : MPre prog w A s rk D a b) {i : Nat} (hi : i < b.size) : ∃ p, b[i]? = some p ∧ D p.1 ∧ KR rk b i = rk p.1 := ⟨b[i], getElem?_pos b i hi, h.db _ (by simp), KR_at (getElem?_pos b i hi)⟩
theorem MPre.goA (h : MPre prog w A s rk D a b) (hI : MInv rk a.toList b.toList out.toList ia ib) (k : Nat) (hc : ∀ i j, ia ≤ i → i < ia + k → i < a.size → ib ≤ j → j < b.size → KR rk a i ≤ KR rk b j) :
    MInv rk a.toList b.toList (out.toList ++ (a.toList.drop ia).take k) (ia + k) ib := hI.goA (up_SL h.ua) k fun x hx y hy => by
  obtain ⟨i, i1, i2, i3, e⟩ := mem_take_at hx
  obtain ⟨j, j1, j2, e'⟩ := mem_drop_at hy
  have := hc i j i1 i2 i3 j1 j2
  rwa [KR_at e, KR_at e'] at this
theorem MPre.goB (h : MPre prog w A s rk D a b) (hI : MInv rk a.toList b.toList out.toList ia ib) (k : Nat) (hc : ∀ i j, ib ≤ i → i < ib + k → i < b.size → ia ≤ j → j < a.size → KR rk b i ≤ KR rk a j) :
    MInv rk a.toList b.toList (out.toList ++ (b.toList.drop ib).take k) ia (ib + k) := hI.goB (up_SL h.ub) k fun x hx y hy => by
  obtain ⟨i, i1, i2, i3, e⟩ := mem_take_at hx
  obtain ⟨j, j1, j2, e'⟩ := mem_drop_at hy
  have := hc i j i1 i2 i3 j1 j2
  rwa [KR_at e, KR_at e'] at this
theorem MPre.done (h : MPre prog w A s rk D a b) (hI : MInv rk a.toList b.toList out.toList ia ib) (hc : a.size ≤ ia ∨ b.size ≤ ib) : MRes rk a.toList b.toList (mlDone a b out ia ib).toList := by
  rw [mlDone_list]
  refine hI.fin (up_SL h.ua) (up_SL h.ub) fun x hx y hy => ?_
  obtain ⟨i, i1, i2, e⟩ := mem_drop_at hx
  obtain ⟨j, j1, j2, e'⟩ := mem_drop_at hy
  (clear e' e hy hx hI h; lia)
theorem MPre.lastA (h : MPre prog w A s rk D a b) (hI : MInv rk a.toList b.toList out.toList ia ib) (hc : ia + 1 = a.size) : MRes rk a.toList b.toList (mlLast a b out ia ib).toList := by
  rw [mlLast_list]
  refine hI.finL (up_SL h.ua) (up_SL h.ub) fun x hx y hy => ?_
  obtain ⟨i, i1, i2, e⟩ := mem_drop_at hx
  obtain ⟨j, j1, j2, e'⟩ := mem_drop_at hy
  have := h.last i i2
  rw [show a.size - 1 = j by (clear this e' e i2 i1 hy hx hI h; lia)] at this
  rwa [KR_at e, KR_at e'] at this

theorem wpS_mlA {mg ac bc : Nat} {rem : Nat} {st₀ : SortSt} (h : MPre prog w A s rk D a b) (hI : MInv rk a.toList b.toList out.toList ia ib) (h1 : ia + 1 < a.size) (h2 : ib < b.size)
    (hc : ∀ j, ib ≤ j → j < b.size → KR rk a ia ≤ KR rk b j) (hrem : a.size - ia + (b.size - ib) ≤ rem) (hg : GSame st₀ st) :
    wpS (model prog w) A E s (mlA a b out ia ib mg ac bc) (P2 rk a b st₀ rem) st := by
  unfold mlA
  obtain ⟨p, ep, dp, kp⟩ := h.atA (Nat.lt_of_succ_lt h1)
  refine wpS_bind (wpS_elem ep ?_)
  have hI2 : MInv rk a.toList b.toList (out.push p).toList (ia + 1) ib := by
    rw [push_take ep]
    exact h.goA hI 1 fun i j i1 i2 i3 j1 j2 => by
      have : i = ia := by (clear j2 j1 i3 kp dp ep hg hrem hc h2 h1 hI h; lia)
      subst this; exact hc j j1 j2
  split
  · rename_i he
    exact wpS_pure ⟨hg, h.lastA hI2 (by simpa using he)⟩
  · rename_i he
    have he' : ia + 1 + 1 ≠ a.size := by simpa using he
    split
    · exact wpS_pure ⟨hg, ⟨hI2, by (clear he hI2 kp dp ep hg hrem hc h2 hI h; lia), h2⟩, by (clear he hI2 kp dp ep hg hc hI h; lia)⟩
    · exact wpS_pure ⟨hg, rfl, ⟨hI2, by (clear he hI2 kp dp ep hg hrem hc h2 hI h; lia), h2⟩, by (clear he hI2 kp dp ep hg hc hI h; lia)⟩

theorem wpS_mlB {mg ac bc : Nat} {rem : Nat} {st₀ : SortSt} (h : MPre prog w A s rk D a b) (hk : PyProof.Rows.kindOf st = oneType') (hI : MInv rk a.toList b.toList out.toList ia ib) (h1 : ia + 1 < a.size) (h2 : ib < b.size)
    (hc : ∀ j, ia ≤ j → j < a.size → KR rk b ib ≤ KR rk a j) (hrem : a.size - ia + (b.size - ib) ≤ rem) (hg : GSame st₀ st) :
    wpS (model prog w) A E s (mlB a b out ia ib mg ac bc) (P2 rk a b st₀ rem) st := by
  unfold mlB
  obtain ⟨p, ep, dp, kp⟩ := h.atB h2
  refine wpS_bind (wpS_elem ep ?_)
  have hI2 : MInv rk a.toList b.toList (out.push p).toList ia (ib + 1) := by
    rw [push_take ep]
    exact h.goB hI 1 fun i j i1 i2 i3 j1 j2 => by
      have : i = ib := by (clear j2 j1 i3 kp dp ep hg hrem hc h2 h1 hI hk h; lia)
      subst this; exact hc j j1 j2
  split
  · rename_i he
    have he' : ib + 1 = b.size := by simpa using he
    exact wpS_pure ⟨hg, h.done hI2 (by (clear he hI2 kp dp ep hg hrem hc h2 h1 hI hk h; lia))⟩
  · rename_i he
    have he' : ib + 1 ≠ b.size := by simpa using he
    obtain ⟨q, eq, dq, kq⟩ := h.atA (i := ia) (by (clear he' he hI2 kp dp ep hg hrem hc h2 hI hk h; lia))
    refine wpS_bind (wpS_elem eq (wpS_bind (wpS_gallop (n := b.size - (ib + 1)) h.lt hk dq h.db (by (clear kq dq eq he' he hI2 kp dp ep hg hrem hc h1 hI hk h; lia)) (by (clear kq dq eq he hI2 kp dp ep hg hrem hc h1 hI hk h; lia)) (fun i j i1 i2 i3 => h.ub i j (Nat.zero_le _) i2 (by (clear i2 i1 kq dq eq he' he hI2 kp dp ep hg hrem hc h1 hI hk h; lia))) fun k hkn g1 g2 => ?_)))
    dsimp only
    simp only [if_true] at g1 g2
    have hI3 : MInv rk a.toList b.toList (out.push p ++ b.extract (ib + 1) (ib + 1 + k)).toList ia (ib + 1 + k) := by
      rw [ext_take]
      exact h.goB hI2 k fun i j i1 i2 i3 j1 j2 => by
        have q1 := g1 i i1 i2
        have q2 := h.ua ia j (Nat.zero_le _) j1 j2
        (clear j2 j1 i3 i2 i1 g2 g1 hkn dq eq he' he hI2 kp dp ep hg hrem hc h2 h1 hI hk h; lia)
    split
    · split
      · rename_i he2
        have he3 : ib + 1 + k = b.size := by simpa using he2
        exact wpS_pure ⟨hg, h.done hI3 (by (clear he2 hI3 g2 g1 hkn kq dq eq he' he hI2 kp dp ep hg hrem hc h2 h1 hI hk h; lia))⟩
      · rename_i he2
        have he3 : ib + 1 + k ≠ b.size := by simpa using he2
        exact wpS_mlA h hI3 h1 (by (clear he2 hI3 g2 g1 kq dq eq he' he hI2 kp dp ep hg hrem hc h1 hI hk h; lia)) (fun j j1 j2 => by have := g2 j (by (clear j2 he3 he2 hI3 g2 g1 hkn kq dq eq he' he hI2 kp dp ep hg hrem hc h2 h1 hI hk h; lia)) (by (clear he2 hI3 g2 g1 hkn kq dq eq he' he hI2 kp dp ep hg hrem hc h1 hI hk h; lia)); (clear j2 j1 he3 he2 hI3 g2 g1 hkn dq eq he' he hI2 kp dp ep hg hrem hc h2 h1 hI hk h; lia)) (by (clear he2 hI3 g2 g1 hkn kq dq eq he hI2 kp dp ep hg hc h1 hI hk h; lia)) hg
    · have hk0 : k = 0 := by (clear hI3 g2 g1 hkn kq dq eq he' he hI2 kp dp ep hg hrem hc h2 h1 hI hk h; lia)
      subst hk0
      exact wpS_mlA h hI2 h1 (by (clear hI3 g2 g1 hkn kq dq eq he hI2 kp dp ep hg hrem hc h1 hI hk h; lia)) (fun j j1 j2 => by have := g2 j (by (clear j2 hI3 g2 g1 hkn kq dq eq he' he hI2 kp dp ep hg hrem hc h2 h1 hI hk h; lia)) (by (clear j1 hI3 g2 g1 hkn kq dq eq he' he hI2 kp dp ep hg hrem hc h1 hI hk h; lia)); (clear j2 j1 hI3 g2 g1 hkn dq eq he' he hI2 kp dp ep hg hrem hc h2 h1 hI hk h; lia)) (by (clear hI3 g2 g1 hkn kq dq eq he hI2 kp dp ep hg hc h1 hI hk h; lia)) hg

theorem wpS_mlG {mg ac bc : Nat} {rem : Nat} {st₀ : SortSt} (h : MPre prog w A s rk D a b) (hk : PyProof.Rows.kindOf st = oneType') (hR : MRun rk a b out ia ib) (hrem : a.size - ia + (b.size - ib) ≤ rem) (hg : GSame st₀ st) :
    wpS (model prog w) A E s (mlG a b out ia ib mg ac bc) (P2 rk a b st₀ rem) st := by
  obtain ⟨hI, h1, h2⟩ := hR
  unfold mlG
  refine wpS_bind (wpS_setG fun st1 hg1 => ?_)
  have hk1 : PyProof.Rows.kindOf st1 = oneType' := hg1.1.trans hk
  have hg2 := hg.trans hg1
  obtain ⟨q, eq, dq, kq⟩ := h.atB h2
  refine wpS_bind (wpS_elem eq (wpS_bind (wpS_gallop (n := a.size - ia) h.lt hk1 dq h.da (by (clear kq dq eq hg2 hk1 hg1 hI hg hrem hk h; lia)) (by (clear kq dq eq hg2 hk1 hg1 hI hg hrem hk h; lia)) (fun i j i1 i2 i3 => h.ua i j (Nat.zero_le _) i2 (by (clear i2 i1 kq dq eq hg2 hk1 hg1 hI hg hrem hk h; lia))) fun k hkn g1 g2 => ?_)))
  dsimp only
  simp only [Bool.false_eq_true, if_false] at g1 g2
  have hI3 : MInv rk a.toList b.toList (out ++ a.extract ia (ia + k)).toList (ia + k) ib := by
    rw [ext_take]
    exact h.goA hI k fun i j i1 i2 i3 j1 j2 => by
      have q1 := g1 i i1 i2
      have q2 := h.ub ib j (Nat.zero_le _) j1 j2
      (clear j2 j1 i3 i2 i1 g2 g1 hkn dq eq hg2 hk1 hg1 h2 h1 hI hg hrem hk h; lia)
  split
  · split
    · rename_i he
      exact wpS_pure ⟨hg2, h.lastA hI3 (by simpa using he)⟩
    · rename_i he
      have he' : ia + k + 1 ≠ a.size := by simpa using he
      split
      · rename_i he2
        have he3 : ia + k = a.size := by simpa using he2
        exact wpS_pure ⟨hg2, h.done hI3 (by (clear he2 he' he hI3 g2 g1 hkn kq dq eq hg2 hk1 hg1 h2 h1 hI hg hrem hk h; lia))⟩
      · rename_i he2
        have he3 : ia + k ≠ a.size := by simpa using he2
        exact wpS_mlB h hk1 hI3 (by (clear he2 he hI3 g2 g1 kq dq eq hg2 hk1 hg1 hI hg hrem hk h; lia)) h2 (fun j j1 j2 => by have := g2 j (by (clear j2 he3 he2 he' he hI3 g2 g1 hkn kq dq eq hg2 hk1 hg1 h2 h1 hI hg hrem hk h; lia)) (by (clear he2 he hI3 g2 g1 hkn kq dq eq hg2 hk1 hg1 hI hg hrem hk h; lia)); (clear j2 j1 he3 he2 he' he hI3 g2 g1 hkn dq eq hg2 hk1 hg1 h2 h1 hI hg hrem hk h; lia)) (by (clear he2 he hI3 g2 g1 hkn kq dq eq hg2 hk1 hg1 hI hg hk h; lia)) hg2
  · have hk0 : k = 0 := by (clear hI3 g2 g1 hkn kq dq eq hg2 hk1 hg1 h2 h1 hI hg hrem hk h; lia)
    subst hk0
    exact wpS_mlB h hk1 hI h1 h2 (fun j j1 j2 => by have := g2 j (by (clear j2 hI3 g2 g1 hkn kq dq eq hg2 hk1 hg1 h2 h1 hI hg hrem hk h; lia)) (by (clear j1 hI3 g2 g1 hkn kq dq eq hg2 hk1 hg1 hI hg hrem hk h; lia)); (clear j2 j1 hI3 g2 g1 hkn dq eq hg2 hk1 hg1 h2 h1 hI hg hrem hk h; lia)) hrem hg2

theorem wpS_ml2 {mg ac bc : Nat} {Q : ML2 → SortSt → Prop} (h : MPre prog w A s rk D a b) (hk : PyProof.Rows.kindOf st = oneType') (hR : MRun rk a b out ia ib)
    (hr : ∀ r c st', GSame st st' → MRes rk a.toList b.toList r.toList → Q (some r, c) st')
    (hn : ∀ out' ia' ib' c st', GSame st st' → MRun rk a b out' ia' ib' → a.size - ia' + (b.size - ib') < a.size - ia + (b.size - ib) → Q (none, out', ia', ib', c) st') :
    wpS (model prog w) A E s (ml2 a b out ia ib mg ac bc) Q st := by
  unfold ml2
  refine wpS_forRange (I := fun x c st' => GSame st st' ∧ ∃ out' ia' ib' c', c = (none, out', ia', ib', c') ∧ MRun rk a b out' ia' ib' ∧ (x = 0 ∨ a.size - ia' + (b.size - ib') < a.size - ia + (b.size - ib)) ∧ a.size - ia' + (b.size - ib') ≤ a.size - ia + (b.size - ib)) ?step ?fin ⟨.rfl', out, ia, ib, _, rfl, hR, .inl rfl, Nat.le_refl _⟩
  case fin =>
    rintro c st' ⟨hg, out', ia', ib', c', rfl, hR', hx, hle⟩
    have h2 := hR.2.2
    rcases hx with hx | hx
    · (clear hle hR' hg hn hr hR hk h; lia)
    · exact hn _ _ _ _ _ hg hR' hx
  case step =>
    rintro x c st' _ hx ⟨hg, out', ia', ib', ⟨mg', ac', bc'⟩, rfl, hR', hxx, hle⟩
    dsimp only
    have fin : ∀ r st'', P2 rk a b st (a.size - ia + (b.size - ib)) r st'' → (∀ c, r = .done c → Q c st'') ∧ (∀ c, r = .yield c → GSame st st'' ∧ ∃ out' ia' ib' c'', c = (none, out', ia', ib', c'') ∧ MRun rk a b out' ia' ib' ∧ (x + 1 = 0 ∨ a.size - ia' + (b.size - ib') < a.size - ia + (b.size - ib)) ∧ a.size - ia' + (b.size - ib') ≤ a.size - ia + (b.size - ib)) := by
      rintro r st'' ⟨hg', hp⟩
      match r, hp with
      | .done (some r, c), hp => exact ⟨fun c' e => by cases e; exact hr _ _ _ hg' hp, fun c' e => by cases e⟩
      | .done (none, o, i, j, c), hp => exact ⟨fun c' e => by cases e; exact hn _ _ _ _ _ hg' hp.1 hp.2, fun c' e => by cases e⟩
      | .yield (o, o', i, j, c), hp => exact ⟨fun c' e => (by cases e), fun c' e => (by cases e; exact ⟨hg', o', i, j, c, by rw [hp.1], hp.2.1, .inr hp.2.2, Nat.le_of_lt hp.2.2⟩)⟩
    split
    · refine wpS_mono (wpS_mlG (st₀ := st) (rem := a.size - ia + (b.size - ib)) h (hg.1.trans hk) hR' hle hg) fun r st'' hp => ?_
      have := fin r st'' hp
      cases r with
      | done c => exact this.1 c rfl
      | yield c => exact this.2 c rfl
    · refine wpS_mono (wpS_mlG (st₀ := st) (rem := a.size - ia + (b.size - ib)) h (hg.1.trans hk) hR' hle hg) fun r st'' hp => ?_
      have := fin r st'' hp
      cases r with
      | done c => exact this.1 c rfl
      | yield c => exact this.2 c rfl

theorem wpS_ml1 {mg : Nat} {Q : ML1 → SortSt → Prop} (h : MPre prog w A s rk D a b) (hk : PyProof.Rows.kindOf st = oneType') (hR : MRun rk a b out ia ib)
    (hr : ∀ r c, MRes rk a.toList b.toList r.toList → Q (some r, c) st)
    (hn : ∀ out' ia' ib' c, MRun rk a b out' ia' ib' → a.size - ia' + (b.size - ib') < a.size - ia + (b.size - ib) → Q (none, out', ia', ib', c) st) :
    wpS (model prog w) A E s (ml1 a b out ia ib mg) Q st := by
  unfold ml1
  refine wpS_forRange (I := fun x c st' => st' = st ∧ ∃ out' ia' ib' c', c = (none, out', ia', ib', c') ∧ MRun rk a b out' ia' ib' ∧ (x = 0 ∨ a.size - ia' + (b.size - ib') < a.size - ia + (b.size - ib)) ∧ a.size - ia' + (b.size - ib') ≤ a.size - ia + (b.size - ib)) ?step ?fin ⟨rfl, out, ia, ib, _, rfl, hR, .inl rfl, Nat.le_refl _⟩
  case fin =>
    rintro c st' ⟨rfl, out', ia', ib', c', rfl, hR', hx, hle⟩
    have h2 := hR.2.2
    rcases hx with hx | hx
    · (clear hle hR' hn hr hk hR h; lia)
    · exact hn _ _ _ _ hR' hx
  case step =>
    rintro x c st' _ hx ⟨rfl, out', ia', ib', ⟨ac', bc'⟩, rfl, ⟨hI, h1, h2⟩, hxx, hle⟩
    dsimp only
    obtain ⟨p, ep, dp, kp⟩ := h.atB h2
    obtain ⟨q, eq, dq, kq⟩ := h.atA (i := ia') (by (clear kp dp ep hle hxx h2 hI hn hr hk hx hR h; lia))
    refine wpS_bind (wpS_elem ep (wpS_bind (wpS_elem eq (wpS_bind (wpS_lt h.lt hk dp dq ?_)))))
    rw [← kp, ← kq]
    dsimp only
    by_cases hlt : KR rk b ib' < KR rk a ia'
    · rw [if_pos (by simpa using hlt)]
      refine wpS_bind (wpS_elem ep ?_)
      have hI2 : MInv rk a.toList b.toList (out'.push p).toList ia' (ib' + 1) := by
        rw [push_take ep]
        exact h.goB hI 1 fun i j i1 i2 i3 j1 j2 => by
          have : i = ib' := by (clear j2 j1 i3 hlt kq dq eq kp dp ep hle hxx h2 h1 hI hn hr hk hx hR h; lia)
          subst this
          have := h.ua ia' j (Nat.zero_le _) j1 j2
          (clear i2 i1 ep hle hxx h2 hI j2 j1 i3 dq eq dp h1 hn hr hk hx hR h; lia)
      split
      · rename_i he
        have he' : ib' + 1 = b.size := by simpa using he
        exact wpS_pure (hr _ _ (h.done hI2 (by (clear he hI2 hlt kq dq eq kp dp ep hle hxx h2 h1 hI hn hr hk hx hR h; lia))))
      · rename_i he
        have he' : ib' + 1 ≠ b.size := by simpa using he
        split
        · exact wpS_pure (hn _ _ _ _ ⟨hI2, h1, by (clear he hI2 hlt kq dq eq kp dp ep hle hxx h1 hI hn hr hk hx hR h; lia)⟩ (by (clear he hI2 hlt kq dq eq kp dp ep hxx h1 hI hn hr hk hx hR h; lia)))
        · exact wpS_pure ⟨rfl, _, _, _, _, rfl, ⟨hI2, h1, by (clear he hI2 hlt kq dq eq kp dp ep hle hxx h1 hI hn hr hk hx hR h; lia)⟩, .inr (by (clear he hI2 hlt kq dq eq kp dp ep hxx h1 hI hn hr hk hx hR h; lia)), by (clear he hI2 hlt kq dq eq kp dp ep hxx h1 hI hn hr hk hx hR h; lia)⟩
    · rw [if_neg (by simpa using hlt)]
      refine wpS_bind (wpS_elem eq ?_)
      have hI2 : MInv rk a.toList b.toList (out'.push q).toList (ia' + 1) ib' := by
        rw [push_take eq]
        exact h.goA hI 1 fun i j i1 i2 i3 j1 j2 => by
          have : i = ia' := by (clear j2 j1 i3 hlt kq dq eq kp dp ep hle hxx h2 h1 hI hn hr hk hx hR h; lia)
          subst this
          have := h.ub ib' j (Nat.zero_le _) j1 j2
          (clear i2 i1 eq hle hxx h1 hI j2 j1 i3 dq dp ep h2 hn hr hk hx hR h; lia)
      split
      · rename_i he
        have he' : ia' + 1 + 1 = a.size := by simpa using he
        exact wpS_pure (hr _ _ (h.lastA hI2 (by (clear he hI2 hlt kq dq eq kp dp ep hle hxx h2 h1 hI hn hr hk hx hR h; lia))))
      · rename_i he
        have he' : ia' + 1 + 1 ≠ a.size := by simpa using he
        split
        · exact wpS_pure (hn _ _ _ _ ⟨hI2, by (clear he hI2 hlt kq dq eq kp dp ep hle hxx h2 hI hn hr hk hx hR h; lia), h2⟩ (by (clear he hI2 hlt kq dq eq kp dp ep hxx hI hn hr hk hx hR h; lia)))
        · exact wpS_pure ⟨rfl, _, _, _, _, rfl, ⟨hI2, by (clear he hI2 hlt kq dq eq kp dp ep hle hxx h2 hI hn hr hk hx hR h; lia), h2⟩, .inr (by (clear he hI2 hlt kq dq eq kp dp ep hxx hI hn hr hk hx hR h; lia)), by (clear he hI2 hlt kq dq eq kp dp ep hxx hI hn hr hk hx hR h; lia)⟩

theorem wpS_mergeLo {Q : Array Keyed → SortSt → Prop} (h : MPre prog w A s rk D a b) (hk : PyProof.Rows.kindOf st = oneType') (ha : 0 < a.size) (hb : 0 < b.size) (h0 : KR rk b 0 ≤ KR rk a 0)
    (hQ : ∀ r st', GSame st st' → MRes rk a.toList b.toList r.toList → Q r st') : wpS (model prog w) A E s (mergeLo' a b) Q st := by
  rw [mergeLo'_eq2]
  refine wpS_bind (wpS_lift (wpAny_rule ⟨rfl, ?_⟩))
  obtain ⟨p, ep, dp, kp⟩ := h.atB hb
  refine wpS_bind (wpS_elem ep ?_)
  have hI : MInv rk a.toList b.toList (#[p] : Array Keyed).toList 0 1 := by
    have := h.goB (out := #[]) (ia := 0) (ib := 0) (MInv.start _ _) 1 fun i j i1 i2 i3 j1 j2 => by
      have : i = 0 := by (clear j2 j1 i3 kp dp ep hQ h0 hb ha hk h; lia)
      subst this
      have := h.ua 0 j (Nat.zero_le _) (Nat.zero_le _) j2
      (clear i3 i2 i1 j2 j1 dp ep hQ hb ha hk h; lia)
    rw [← push_take ep] at this
    exact this
  split
  · rename_i he
    have he' : 1 = b.size := by simpa using he
    exact wpS_pure (hQ _ _ .rfl' (h.done hI (by (clear he hI kp dp ep hQ h0 hb ha hk h; lia))))
  · rename_i he
    have he' : 1 ≠ b.size := by simpa using he
    split
    · rename_i he2
      have he3 : 0 + 1 = a.size := by simpa using he2
      exact wpS_pure (hQ _ _ .rfl' (h.lastA hI he3))
    · rename_i he2
      have he3 : 0 + 1 ≠ a.size := by simpa using he2
      refine wpS_bind (wpS_get ?_)
      unfold ml0
      refine wpS_bind (wpS_mono (wpS_forRange
        (I := fun x c st' => GSame st st' ∧ ∃ out' ia' ib' c', c = (none, out', ia', ib', c') ∧ MRun rk a b out' ia' ib' ∧ a.size - ia' + (b.size - ib') + x < a.size + b.size)
        (Q := fun c st' => GSame st st' ∧ ∃ r c', c = (some r, c') ∧ MRes rk a.toList b.toList r.toList) ?step ?fin ⟨.rfl', _, _, _, _, rfl, ⟨hI, by (clear he2 he' he hI kp dp ep hQ h0 hb hk h; lia), by (clear he2 he hI kp dp ep hQ h0 hk h; lia)⟩, by (clear he3 he2 he' he hI kp dp ep hQ h0 hk h; lia)⟩) ?post)
      case fin =>
        rintro c st' ⟨hg, out', ia', ib', c', rfl, hR', hx⟩
        (clear hR' hg he3 he2 he' he hI kp dp ep hQ h0 hk h; lia)
      case post =>
        rintro c st' ⟨hg, r, c', rfl, hr⟩
        exact wpS_pure (hQ _ _ hg hr)
      case step =>
        rintro x c st' _ hx ⟨hg, out', ia', ib', mg', rfl, hR', hxx⟩
        dsimp only
        refine wpS_bind (wpS_ml1 h (hg.1.trans hk) hR' (fun r c hr => ?_) fun out2 ia2 ib2 c hR2 hlt => ?_)
        · exact wpS_pure ⟨hg, _, _, rfl, hr⟩
        · obtain ⟨ac2, bc2⟩ := c
          dsimp only
          refine wpS_bind (wpS_lift (wpAny_rule ⟨rfl, ?_⟩))
          refine wpS_bind (wpS_ml2 h (hg.1.trans hk) hR2 (fun r c st3 hg3 hr => ?_) fun out3 ia3 ib3 c st3 hg3 hR3 hlt3 => ?_)
          · exact wpS_pure ⟨hg.trans hg3, _, _, rfl, hr⟩
          · obtain ⟨mg3, ac3, bc3⟩ := c
            dsimp only
            refine wpS_bind (wpS_setG fun st4 hg4 => wpS_pure ⟨(hg.trans hg3).trans hg4, _, _, _, _, rfl, hR3, by (clear hg4 hR3 hg3 hR2 hR' hg hx he3 he2 he' he hI kp dp ep hQ h0 hb ha hk h; lia)⟩)
end
end

/-! S6 -/
section
noncomputable def mergeHi' : Array Keyed → Array Keyed → StateT SortSt Sem (Array Keyed) := sortPriv% PySem.Builtin.mergeHi
theorem mergeHi'_eq (a b : Array Keyed) : mergeHi' a b = (do
  rule "list.sort.merge-hi"
  let total := a.size + b.size
  let done (out : Array Keyed) (na nb : Nat) := a.extract 0 na ++ b.extract 0 nb ++ out.reverse
  let firstOfB (out : Array Keyed) (na nb : Nat) := b.extract 0 nb ++ a.extract 0 na ++ out.reverse
  let mut na := a.size - 1
  let mut nb := b.size
  let mut out : Array Keyed := #[← elem' a na]
  if na == 0 then return done out na nb
  if nb == 1 then return firstOfB out na nb
  let mut minGallop := gallopOf (← get)
  for _ in [0:total] do
    let mut acount := 0
    let mut bcount := 0
    for _ in [0:total] do
      let some aWins ← lt' (← elem' b (nb - 1)) (← elem' a (na - 1)) | return done out na nb
      if aWins then
        na := na - 1; out := out.push (← elem' a na); acount := acount + 1; bcount := 0
        if na == 0 then return done out na nb
        if acount ≥ minGallop then break
      else
        nb := nb - 1; out := out.push (← elem' b nb); bcount := bcount + 1; acount := 0
        if nb == 1 then return firstOfB out na nb
        if bcount ≥ minGallop then break
    rule "list.sort.gallop"
    minGallop := minGallop + 1
    for _ in [0:total] do
      if minGallop > 1 then minGallop := minGallop - 1
      setMinGallop' minGallop
      let some at_ ← gallop' false (← elem' b (nb - 1)) a 0 na (na - 1) | return done out na nb
      let k := na - at_
      acount := k
      if k > 0 then
        out := out ++ (a.extract at_ na).reverse; na := at_
        if na == 0 then return done out na nb
      nb := nb - 1; out := out.push (← elem' b nb)
      if nb == 1 then return firstOfB out na nb
      let some at_ ← gallop' true (← elem' a (na - 1)) b 0 nb (nb - 1) | return done out na nb
      let k := nb - at_
      bcount := k
      if k > 0 then
        out := out ++ (b.extract at_ nb).reverse; nb := at_
        if nb == 1 then return firstOfB out na nb
        if nb == 0 then return done out na nb
      na := na - 1; out := out.push (← elem' a na)
      if na == 0 then return done out na nb
      if acount < 7 && bcount < 7 then break
    minGallop := minGallop + 1
    setMinGallop' minGallop
  unsupported "internal:list.sort.merge-bound") := rfl

noncomputable def mhDone (a b out : Array Keyed) (na nb : Nat) : Array Keyed := a.extract 0 na ++ b.extract 0 nb ++ out.reverse
noncomputable def mhFirst (a b out : Array Keyed) (na nb : Nat) : Array Keyed := b.extract 0 nb ++ a.extract 0 na ++ out.reverse
noncomputable abbrev MH0 := Option (Array Keyed) × Nat × Nat × Array Keyed × Nat
noncomputable abbrev MH1 := Option (Array Keyed) × Nat × Nat × Array Keyed × Nat × Nat
noncomputable abbrev MH2 := Option (Array Keyed) × Nat × Nat × Array Keyed × Nat × Nat × Nat
noncomputable def mhA (a b out : Array Keyed) (na nb mg ac bc : Nat) : StateT SortSt Sem (ForInStep MH2) := do
  let p ← elem' a (na - 1)
  if (na - 1 == 0) = true then pure (ForInStep.done (some (mhDone a b (out.push p) (na - 1) nb), na - 1, nb, out.push p, mg, ac, bc))
  else if (decide (ac < 7) && decide (bc < 7)) = true then pure (ForInStep.done (none, na - 1, nb, out.push p, mg, ac, bc))
  else pure (ForInStep.yield (none, na - 1, nb, out.push p, mg, ac, bc))
noncomputable def mhB (a b out : Array Keyed) (na nb mg ac bc : Nat) : StateT SortSt Sem (ForInStep MH2) := do
  let p ← elem' b (nb - 1)
  if (nb - 1 == 1) = true then pure (ForInStep.done (some (mhFirst a b (out.push p) na (nb - 1)), na, nb - 1, out.push p, mg, ac, bc))
  else do
    let q ← elem' a (na - 1)
    let x ← gallop' true q b 0 (nb - 1) (nb - 1 - 1)
    match x with
    | some at_ =>
      if nb - 1 - at_ > 0 then
        if (at_ == 1) = true then pure (ForInStep.done (some (mhFirst a b (out.push p ++ (b.extract at_ (nb - 1)).reverse) na at_), na, at_, out.push p ++ (b.extract at_ (nb - 1)).reverse, mg, ac, nb - 1 - at_))
        else if (at_ == 0) = true then pure (ForInStep.done (some (mhDone a b (out.push p ++ (b.extract at_ (nb - 1)).reverse) na at_), na, at_, out.push p ++ (b.extract at_ (nb - 1)).reverse, mg, ac, nb - 1 - at_))
        else mhA a b (out.push p ++ (b.extract at_ (nb - 1)).reverse) na at_ mg ac (nb - 1 - at_)
      else mhA a b (out.push p) na (nb - 1) mg ac (nb - 1 - at_)
    | x => pure (ForInStep.done (some (mhDone a b (out.push p) na (nb - 1)), na, nb - 1, out.push p, mg, ac, bc))
noncomputable def mhG (a b out : Array Keyed) (na nb mg ac bc : Nat) : StateT SortSt Sem (ForInStep MH2) := do
  setMinGallop' mg
  let q ← elem' b (nb - 1)
  let x ← gallop' false q a 0 na (na - 1)
  match x with
  | some at_ =>
    if na - at_ > 0 then
      if (at_ == 0) = true then pure (ForInStep.done (some (mhDone a b (out ++ (a.extract at_ na).reverse) at_ nb), at_, nb, out ++ (a.extract at_ na).reverse, mg, na - at_, bc))
      else mhB a b (out ++ (a.extract at_ na).reverse) at_ nb mg (na - at_) bc
    else mhB a b out na nb mg (na - at_) bc
  | x => pure (ForInStep.done (some (mhDone a b out na nb), na, nb, out, mg, ac, bc))
noncomputable def mh2 (a b out : Array Keyed) (na nb mg ac bc : Nat) : StateT SortSt Sem MH2 :=
  forIn [:a.size + b.size] ((none, na, nb, out, mg, ac, bc) : MH2) fun _ s =>
    if s.2.2.2.2.1 > 1 then mhG a b s.2.2.2.1 s.2.1 s.2.2.1 (s.2.2.2.2.1 - 1) s.2.2.2.2.2.1 s.2.2.2.2.2.2
    else mhG a b s.2.2.2.1 s.2.1 s.2.2.1 s.2.2.2.2.1 s.2.2.2.2.2.1 s.2.2.2.2.2.2
noncomputable def mh1 (a b out : Array Keyed) (na nb mg : Nat) : StateT SortSt Sem MH1 :=
  forIn [:a.size + b.size] ((none, na, nb, out, 0, 0) : MH1) fun _ s => do
    let y ← elem' b (s.2.2.1 - 1)
    let z ← elem' a (s.2.1 - 1)
    let x ← lt' y z
    match x with
    | some aWins =>
      if aWins = true then do
        let p ← elem' a (s.2.1 - 1)
        if (s.2.1 - 1 == 0) = true then pure (ForInStep.done (some (mhDone a b (s.2.2.2.1.push p) (s.2.1 - 1) s.2.2.1), s.2.1 - 1, s.2.2.1, s.2.2.2.1.push p, s.2.2.2.2.1 + 1, 0))
        else if s.2.2.2.2.1 + 1 ≥ mg then pure (ForInStep.done (none, s.2.1 - 1, s.2.2.1, s.2.2.2.1.push p, s.2.2.2.2.1 + 1, 0))
        else pure (ForInStep.yield (none, s.2.1 - 1, s.2.2.1, s.2.2.2.1.push p, s.2.2.2.2.1 + 1, 0))
      else do
        let p ← elem' b (s.2.2.1 - 1)
        if (s.2.2.1 - 1 == 1) = true then pure (ForInStep.done (some (mhFirst a b (s.2.2.2.1.push p) s.2.1 (s.2.2.1 - 1)), s.2.1, s.2.2.1 - 1, s.2.2.2.1.push p, 0, s.2.2.2.2.2 + 1))
        else if s.2.2.2.2.2 + 1 ≥ mg then pure (ForInStep.done (none, s.2.1, s.2.2.1 - 1, s.2.2.2.1.push p, 0, s.2.2.2.2.2 + 1))
        else pure (ForInStep.yield (none, s.2.1, s.2.2.1 - 1, s.2.2.2.1.push p, 0, s.2.2.2.2.2 + 1))
    | x => pure (ForInStep.done (some (mhDone a b s.2.2.2.1 s.2.1 s.2.2.1), s.2.1, s.2.2.1, s.2.2.2.1, s.2.2.2.2.1, s.2.2.2.2.2))
noncomputable def mh0 (a b out : Array Keyed) (mg : Nat) : StateT SortSt Sem MH0 :=
  forIn [:a.size + b.size] ((none, a.size - 1, b.size, out, mg) : MH0) fun _ s => do
    let u ← mh1 a b s.2.2.2.1 s.2.1 s.2.2.1 s.2.2.2.2
    match u.1 with
    | some r => pure (ForInStep.done (some r, u.2.1, u.2.2.1, u.2.2.2.1, s.2.2.2.2))
    | none => do
      liftM (rule "list.sort.gallop")
      let v ← mh2 a b u.2.2.2.1 u.2.1 u.2.2.1 (s.2.2.2.2 + 1) u.2.2.2.2.1 u.2.2.2.2.2
      match v.1 with
      | some r => pure (ForInStep.done (some r, v.2.1, v.2.2.1, v.2.2.2.1, v.2.2.2.2.1))
      | none => do
        setMinGallop' (v.2.2.2.2.1 + 1)
        pure (ForInStep.yield (none, v.2.1, v.2.2.1, v.2.2.2.1, v.2.2.2.2.1 + 1))
theorem mergeHi'_eq2 (a b : Array Keyed) : mergeHi' a b = (do
  liftM (rule "list.sort.merge-hi")
  let p ← elem' a (a.size - 1)
  if (a.size - 1 == 0) = true then pure (mhDone a b #[p] (a.size - 1) b.size)
  else if (b.size == 1) = true then pure (mhFirst a b #[p] (a.size - 1) b.size)
  else do
    let g ← get
    let t ← mh0 a b #[p] (gallopOf g)
    match t.1 with
    | some r => pure r
    | none => liftM (unsupported "internal:list.sort.merge-bound" : Sem (Array Keyed))) := by
  rw [mergeHi'_eq]
  kernel_rfl
end

/-! S7 -/
section
structure HInv (rk : Value → Int) (la lb tl : List Keyed) (na nb : Nat) : Prop where
  perm : (la.take na ++ (lb.take nb ++ tl)).Perm (la ++ lb)
  up : SL rk tl
  le : ∀ y ∈ tl, ∀ x, x ∈ la.take na ∨ x ∈ lb.take nb → rk x.1 ≤ rk y.1
section
variable {rk : Value → Int} {la lb tl : List Keyed} {na nb : Nat}
theorem take_split (l : List Keyed) {at_ n : Nat} (h : at_ ≤ n) : l.take at_ ++ (l.take n).drop at_ = l.take n := by
  have := List.take_append_drop at_ (l.take n)
  rwa [List.take_take, Nat.min_eq_left h] at this
theorem SL.cut2 {l : List Keyed} (h : SL rk l) {at_ n : Nat} (hn : at_ ≤ n) : ∀ x ∈ l.take at_, ∀ y ∈ (l.take n).drop at_, rk x.1 ≤ rk y.1 := by
  have := h.take n
  rw [← take_split l hn] at this
  exact (List.pairwise_append.mp this).2.2
theorem HInv.start (la lb : List Keyed) : HInv rk la lb [] la.length lb.length :=
  ⟨by rw [List.take_length, List.take_length, List.append_nil], .nil, fun x hx => by simp at hx⟩
theorem HInv.goA (h : HInv rk la lb tl na nb) (hla : SL rk la) {at_ : Nat} (hn : at_ ≤ na) (hc : ∀ x ∈ (la.take na).drop at_, ∀ y ∈ lb.take nb, rk y.1 ≤ rk x.1) :
    HInv rk la lb ((la.take na).drop at_ ++ tl) at_ nb := by
  refine ⟨?_, ((hla.take na).drop at_).app h.up fun x hx y hy => h.le y hy x (.inl (List.mem_of_mem_drop hx)), fun y hy x hx => ?_⟩
  · refine List.Perm.trans ?_ h.perm
    have e : la.take na ++ (lb.take nb ++ tl) = la.take at_ ++ ((la.take na).drop at_ ++ (lb.take nb ++ tl)) := by
      rw [← List.append_assoc (la.take at_), take_split la hn]
    rw [e]
    refine List.Perm.append_left _ ?_
    rw [← List.append_assoc, ← List.append_assoc]
    exact List.Perm.append_right _ List.perm_append_comm
  · rcases List.mem_append.mp hy with hy | hy
    · rcases hx with hx | hx
      · exact hla.cut2 hn x hx y hy
      · exact hc y hy x hx
    · refine h.le y hy x (hx.imp (fun q => ?_) id)
      rw [← take_split la hn]; exact List.mem_append_left _ q
theorem HInv.goB (h : HInv rk la lb tl na nb) (hlb : SL rk lb) {at_ : Nat} (hn : at_ ≤ nb) (hc : ∀ x ∈ (lb.take nb).drop at_, ∀ y ∈ la.take na, rk y.1 ≤ rk x.1) :
    HInv rk la lb ((lb.take nb).drop at_ ++ tl) na at_ := by
  refine ⟨?_, ((hlb.take nb).drop at_).app h.up fun x hx y hy => h.le y hy x (.inr (List.mem_of_mem_drop hx)), fun y hy x hx => ?_⟩
  · refine List.Perm.trans (List.Perm.of_eq ?_) h.perm
    rw [← List.append_assoc (lb.take at_), take_split lb hn]
  · rcases List.mem_append.mp hy with hy | hy
    · rcases hx with hx | hx
      · exact hc y hy x hx
      · exact hlb.cut2 hn x hx y hy
    · refine h.le y hy x (hx.imp id fun q => ?_)
      rw [← take_split lb hn]; exact List.mem_append_left _ q
theorem HInv.fin (h : HInv rk la lb tl na nb) (hla : SL rk la) (hlb : SL rk lb) (hc : ∀ x ∈ la.take na, ∀ y ∈ lb.take nb, rk x.1 ≤ rk y.1) : MRes rk la lb (la.take na ++ lb.take nb ++ tl) := by
  refine ⟨by rw [List.append_assoc]; exact h.perm, ((hla.take na).app (hlb.take nb) hc).app h.up fun x hx y hy => h.le y hy x (List.mem_append.mp hx)⟩
theorem HInv.finF (h : HInv rk la lb tl na nb) (hla : SL rk la) (hlb : SL rk lb) (hc : ∀ x ∈ lb.take nb, ∀ y ∈ la.take na, rk x.1 ≤ rk y.1) : MRes rk la lb (lb.take nb ++ la.take na ++ tl) := by
  refine ⟨?_, ((hlb.take nb).app (hla.take na) hc).app h.up fun x hx y hy => h.le y hy x (List.mem_append.mp hx).symm⟩
  refine List.Perm.trans ?_ h.perm
  rw [← List.append_assoc]
  exact List.Perm.append_right _ List.perm_append_comm
end

theorem ext_beg (a : Array Keyed) (n : Nat) : (a.extract 0 n).toList = a.toList.take n := by
  rw [Array.toList_extract, List.extract_eq_take_drop]; rfl
theorem mhDone_list (a b out : Array Keyed) (na nb : Nat) : (mhDone a b out na nb).toList = a.toList.take na ++ b.toList.take nb ++ out.toList.reverse := by
  unfold mhDone; rw [Array.toList_append, Array.toList_append, ext_beg, ext_beg, Array.toList_reverse]
theorem mhFirst_list (a b out : Array Keyed) (na nb : Nat) : (mhFirst a b out na nb).toList = b.toList.take nb ++ a.toList.take na ++ out.toList.reverse := by
  unfold mhFirst; rw [Array.toList_append, Array.toList_append, ext_beg, ext_beg, Array.toList_reverse]
theorem push_drop {a out : Array Keyed} {n : Nat} {p : Keyed} (h : a[n - 1]? = some p) (hn : 0 < n) : (out.push p).toList.reverse = (a.toList.take n).drop (n - 1) ++ out.toList.reverse := by
  have hi : n - 1 < a.toList.length := by obtain ⟨hi, _⟩ := Array.getElem?_eq_some_iff.mp h; simpa using hi
  have e : a.toList[n - 1] = p := by obtain ⟨_, e⟩ := Array.getElem?_eq_some_iff.mp h; simpa using e
  rw [Array.toList_push, List.reverse_append, List.drop_take, List.drop_eq_getElem_cons hi, e, show n - (n - 1) = 1 by (clear e hi h; lia)]; rfl
theorem ext_drop (a out : Array Keyed) (at_ n : Nat) : (out ++ (a.extract at_ n).reverse).toList.reverse = (a.toList.take n).drop at_ ++ out.toList.reverse := by
  rw [Array.toList_append, Array.toList_reverse, List.reverse_append, List.reverse_reverse, Array.toList_extract, List.extract_eq_take_drop, List.drop_take]
theorem mem_td_at {a : Array Keyed} {at_ n : Nat} {x : Keyed} (h : x ∈ (a.toList.take n).drop at_) : ∃ j, at_ ≤ j ∧ j < n ∧ j < a.size ∧ a[j]? = some x := by
  obtain ⟨k, hk, e⟩ := List.mem_iff_getElem.mp h
  rw [List.length_drop, List.length_take] at hk
  rw [List.getElem_drop, List.getElem_take] at e
  have h2 : at_ + k < a.size := by simp at hk; (clear e h; lia)
  refine ⟨at_ + k, by (clear h2 e hk h; lia), by (clear h2 e h; lia), h2, ?_⟩
  rw [Array.getElem?_eq_some_iff]
  exact ⟨h2, by simpa using e⟩
theorem mem_t_at {a : Array Keyed} {n : Nat} {x : Keyed} (h : x ∈ a.toList.take n) : ∃ j, j < n ∧ j < a.size ∧ a[j]? = some x := by
  obtain ⟨j, _, j1, j2, e⟩ := mem_td_at (at_ := 0) h
  exact ⟨j, j1, j2, e⟩

section
variable {prog : Program} {w : World} {A : Around} {E : Value → Shared → Prop} {s : Shared} {rk : Value → Int} {D : Value → Prop} {a b out : Array Keyed} {na nb : Nat} {st : SortSt}
structure HPre (prog : Program) (w : World) (A : Around) (s : Shared) (rk : Value → Int) (D : Value → Prop) (a b : Array Keyed) : Prop extends MPre prog w A s rk D a b where
  first : ∀ i, i < a.size → KR rk b 0 ≤ KR rk a i

noncomputable def HI (rk : Value → Int) (a b out : Array Keyed) (na nb : Nat) : Prop := HInv rk a.toList b.toList out.toList.reverse na nb
noncomputable def HRun (rk : Value → Int) (a b out : Array Keyed) (na nb : Nat) : Prop := HI rk a b out na nb ∧ 0 < na ∧ 1 < nb ∧ na ≤ a.size ∧ nb ≤ b.size
noncomputable def H2 (rk : Value → Int) (a b : Array Keyed) (st : SortSt) (rem : Nat) (r : ForInStep MH2) (st' : SortSt) : Prop :=
  GSame st st' ∧ match r with
  | .done (some r, _) => MRes rk a.toList b.toList r.toList
  | .done (none, na, nb, out, _) => HRun rk a b out na nb ∧ na + nb < rem
  | .yield (o, na, nb, out, _) => o = none ∧ HRun rk a b out na nb ∧ na + nb < rem

theorem HPre.goA1 (h : HPre prog w A s rk D a b) (hI : HI rk a b out na nb) {p : Keyed} (ep : a[na - 1]? = some p) (hn : 0 < na) (hc : ∀ j, j < nb → j < b.size → KR rk b j ≤ KR rk a (na - 1)) :
    HI rk a b (out.push p) (na - 1) nb := by
  unfold HI
  rw [push_drop ep hn]
  refine hI.goA (up_SL h.ua) (by (clear hc ep hI h; lia)) fun x hx y hy => ?_
  obtain ⟨i, i1, i2, i3, e⟩ := mem_td_at hx
  obtain ⟨j, j1, j2, e'⟩ := mem_t_at hy
  have := hc j j1 j2
  rw [show na - 1 = i by (clear this e' j2 j1 e i3 hy hx hc ep hI h; lia)] at this
  rwa [KR_at e, KR_at e'] at this
theorem HPre.goB1 (h : HPre prog w A s rk D a b) (hI : HI rk a b out na nb) {p : Keyed} (ep : b[nb - 1]? = some p) (hn : 0 < nb) (hc : ∀ j, j < na → j < a.size → KR rk a j ≤ KR rk b (nb - 1)) :
    HI rk a b (out.push p) na (nb - 1) := by
  unfold HI
  rw [push_drop ep hn]
  refine hI.goB (up_SL h.ub) (by (clear hc ep hI h; lia)) fun x hx y hy => ?_
  obtain ⟨i, i1, i2, i3, e⟩ := mem_td_at hx
  obtain ⟨j, j1, j2, e'⟩ := mem_t_at hy
  have := hc j j1 j2
  rw [show nb - 1 = i by (clear this e' j2 j1 e i3 hy hx hc ep hI h; lia)] at this
  rwa [KR_at e, KR_at e'] at this
theorem HPre.goAs (h : HPre prog w A s rk D a b) (hI : HI rk a b out na nb) {at_ : Nat} (hn : at_ ≤ na) (hc : ∀ i j, at_ ≤ i → i < na → i < a.size → j < nb → j < b.size → KR rk b j ≤ KR rk a i) :
    HI rk a b (out ++ (a.extract at_ na).reverse) at_ nb := by
  unfold HI
  rw [ext_drop]
  refine hI.goA (up_SL h.ua) hn fun x hx y hy => ?_
  obtain ⟨i, i1, i2, i3, e⟩ := mem_td_at hx
  obtain ⟨j, j1, j2, e'⟩ := mem_t_at hy
  have := hc i j i1 i2 i3 j1 j2
  rwa [KR_at e, KR_at e'] at this
theorem HPre.goBs (h : HPre prog w A s rk D a b) (hI : HI rk a b out na nb) {at_ : Nat} (hn : at_ ≤ nb) (hc : ∀ i j, at_ ≤ i → i < nb → i < b.size → j < na → j < a.size → KR rk a j ≤ KR rk b i) :
    HI rk a b (out ++ (b.extract at_ nb).reverse) na at_ := by
  unfold HI
  rw [ext_drop]
  refine hI.goB (up_SL h.ub) hn fun x hx y hy => ?_
  obtain ⟨i, i1, i2, i3, e⟩ := mem_td_at hx
  obtain ⟨j, j1, j2, e'⟩ := mem_t_at hy
  have := hc i j i1 i2 i3 j1 j2
  rwa [KR_at e, KR_at e'] at this
theorem HPre.done (h : HPre prog w A s rk D a b) (hI : HI rk a b out na nb) (hc : na = 0 ∨ nb = 0) : MRes rk a.toList b.toList (mhDone a b out na nb).toList := by
  rw [mhDone_list]
  refine HInv.fin hI (up_SL h.ua) (up_SL h.ub) fun x hx y hy => ?_
  obtain ⟨i, i1, i2, e⟩ := mem_t_at hx
  obtain ⟨j, j1, j2, e'⟩ := mem_t_at hy
  (clear e' j2 e i2 hy hx hI h; lia)
theorem HPre.firstB (h : HPre prog w A s rk D a b) (hI : HI rk a b out na nb) (hc : nb ≤ 1) : MRes rk a.toList b.toList (mhFirst a b out na nb).toList := by
  rw [mhFirst_list]
  refine HInv.finF hI (up_SL h.ua) (up_SL h.ub) fun x hx y hy => ?_
  obtain ⟨i, i1, i2, e⟩ := mem_t_at hx
  obtain ⟨j, j1, j2, e'⟩ := mem_t_at hy
  have := h.first j j2
  rw [show 0 = i by (clear this e' j2 j1 e i2 hy hx hI h; lia)] at this
  rwa [KR_at e, KR_at e'] at this

theorem wpS_mhA {mg ac bc : Nat} {rem : Nat} {st₀ : SortSt} (h : HPre prog w A s rk D a b) (hI : HI rk a b out na nb) (h1 : 0 < na) (h2 : 1 < nb) (h3 : na ≤ a.size) (h4 : nb ≤ b.size)
    (hc : ∀ j, j < nb → j < b.size → KR rk b j ≤ KR rk a (na - 1)) (hrem : na + nb ≤ rem) (hg : GSame st₀ st) :
    wpS (model prog w) A E s (mhA a b out na nb mg ac bc) (H2 rk a b st₀ rem) st := by
  unfold mhA
  obtain ⟨p, ep, dp, kp⟩ := h.atA (i := na - 1) (by (clear hg hrem hc h4 h2 hI h; lia))
  refine wpS_bind (wpS_elem ep ?_)
  have hI2 := h.goA1 hI ep h1 hc
  split
  · rename_i he
    have he' : na - 1 = 0 := by simpa using he
    exact wpS_pure ⟨hg, h.done hI2 (.inl he')⟩
  · rename_i he
    have he' : na - 1 ≠ 0 := by simpa using he
    split
    · exact wpS_pure ⟨hg, ⟨hI2, by (clear he hI2 kp dp ep hg hrem hc h4 h3 h2 hI h; lia), h2, by (clear he' he hI2 kp dp ep hg hrem hc h4 h2 hI h; lia), h4⟩, by (clear he' he hI2 kp dp ep hg hc h4 h3 h2 hI h; lia)⟩
    · exact wpS_pure ⟨hg, rfl, ⟨hI2, by (clear he hI2 kp dp ep hg hrem hc h4 h3 h2 hI h; lia), h2, by (clear he' he hI2 kp dp ep hg hrem hc h4 h2 hI h; lia), h4⟩, by (clear he' he hI2 kp dp ep hg hc h4 h3 h2 hI h; lia)⟩

theorem wpS_mhB {mg ac bc : Nat} {rem : Nat} {st₀ : SortSt} (h : HPre prog w A s rk D a b) (hk : PyProof.Rows.kindOf st = oneType') (hI : HI rk a b out na nb) (h1 : 0 < na) (h2 : 1 < nb) (h3 : na ≤ a.size) (h4 : nb ≤ b.size)
    (hc : ∀ j, j < na → j < a.size → KR rk a j ≤ KR rk b (nb - 1)) (hrem : na + nb ≤ rem) (hg : GSame st₀ st) :
    wpS (model prog w) A E s (mhB a b out na nb mg ac bc) (H2 rk a b st₀ rem) st := by
  unfold mhB
  obtain ⟨p, ep, dp, kp⟩ := h.atB (i := nb - 1) (by (clear hg hrem hc h3 h1 hI hk h; lia))
  refine wpS_bind (wpS_elem ep ?_)
  have hI2 := h.goB1 hI ep (by (clear kp dp ep hg hrem hc h4 h3 h1 hI hk h; lia)) hc
  split
  · rename_i he
    have he' : nb - 1 = 1 := by simpa using he
    exact wpS_pure ⟨hg, h.firstB hI2 (by (clear he hI2 kp dp ep hg hrem hc h4 h3 h2 h1 hI hk h; lia))⟩
  · rename_i he
    have he' : nb - 1 ≠ 1 := by simpa using he
    obtain ⟨q, eq, dq, kq⟩ := h.atA (i := na - 1) (by (clear he' he hI2 kp dp ep hg hrem hc h4 h2 hI hk h; lia))
    refine wpS_bind (wpS_elem eq (wpS_bind (wpS_gallop (n := nb - 1) h.lt hk dq h.db (by (clear kq dq eq he' he hI2 kp dp ep hg hrem hc h3 h1 hI hk h; lia)) (by (clear kq dq eq he' he hI2 kp dp ep hg hrem hc h4 h3 h1 hI hk h; lia)) (fun i j i1 i2 i3 => h.ub i j (Nat.zero_le _) i2 (by (clear i2 i1 kq dq eq he' he hI2 kp dp ep hg hrem hc h3 h1 hI hk h; lia))) fun k hkn g1 g2 => ?_)))
    dsimp only
    simp only [if_true, Nat.zero_add] at g1 g2
    have hI3 := h.goBs (at_ := k) hI2 hkn fun i j i1 i2 i3 j1 j2 => by
      have q1 := g2 i i1 i2
      have q2 := h.ua j (na - 1) (Nat.zero_le _) (by (clear q1 j2 i3 i2 i1 g2 g1 hkn kq dq eq he' he hI2 kp dp ep hg hrem hc h4 h3 h2 hI hk h; lia)) (by (clear q1 j2 j1 i3 i2 i1 g2 g1 hkn kq dq eq he' he hI2 kp dp ep hg hrem hc h4 h2 hI hk h; lia))
      (clear j2 j1 i3 i2 i1 g2 g1 hkn dq eq he' he hI2 kp dp ep hg hrem hc h4 h3 h2 h1 hI hk h; lia)
    split
    · split
      · rename_i he2
        have he3 : k = 1 := by simpa using he2
        exact wpS_pure ⟨hg, h.firstB hI3 (by (clear he2 hI3 g2 g1 hkn kq dq eq he' he hI2 kp dp ep hg hrem hc h4 h3 h2 h1 hI hk h; lia))⟩
      · rename_i he2
        have he3 : k ≠ 1 := by simpa using he2
        split
        · rename_i he4
          have he5 : k = 0 := by simpa using he4
          exact wpS_pure ⟨hg, h.done hI3 (.inr he5)⟩
        · rename_i he4
          have he5 : k ≠ 0 := by simpa using he4
          exact wpS_mhA h hI3 h1 (by (clear he4 he2 hI3 g2 g1 hkn kq dq eq he' he hI2 kp dp ep hg hrem hc h4 h3 h2 h1 hI hk h; lia)) h3 (by (clear he4 he2 hI3 g2 g1 hkn kq dq eq he' he hI2 kp dp ep hg hrem hc h3 h2 h1 hI hk h; lia)) (fun j j1 j2 => by have := g1 j (by (clear j2 j1 he5 he4 he3 he2 hI3 g2 g1 hkn kq dq eq he' he hI2 kp dp ep hg hrem hc h4 h3 h2 h1 hI hk h; lia)) (by (clear j2 he5 he4 he3 he2 hI3 g2 g1 hkn kq dq eq he' he hI2 kp dp ep hg hrem hc h4 h3 h2 h1 hI hk h; lia)); (clear j2 j1 he5 he4 he3 he2 hI3 g2 g1 hkn dq eq he' he hI2 kp dp ep hg hrem hc h4 h3 h2 h1 hI hk h; lia)) (by (clear he4 he2 hI3 g2 g1 hkn kq dq eq he' he hI2 kp dp ep hg hc h4 h3 h2 h1 hI hk h; lia)) hg
    · have hk0 : k = nb - 1 := by (clear hI3 g2 g1 kq dq eq he' he hI2 kp dp ep hg hrem hc h4 h3 h1 hI hk h; lia)
      subst hk0
      exact wpS_mhA h hI2 h1 (by (clear hI3 g2 g1 hkn kq dq eq he hI2 kp dp ep hg hrem hc h4 h3 h1 hI hk h; lia)) h3 (by (clear hI3 g2 g1 hkn kq dq eq he' he hI2 kp dp ep hg hrem hc h3 h1 hI hk h; lia)) (fun j j1 j2 => by have := g1 j (by (clear j2 j1 hI3 g2 g1 hkn kq dq eq he' he hI2 kp dp ep hg hrem hc h4 h3 h2 h1 hI hk h; lia)) (by (clear j2 hI3 g2 g1 hkn kq dq eq he' he hI2 kp dp ep hg hrem hc h4 h3 h2 h1 hI hk h; lia)); (clear j2 j1 hI3 g2 g1 hkn dq eq he' he hI2 kp dp ep hg hrem hc h4 h3 h2 h1 hI hk h; lia)) (by (clear hI3 g2 g1 hkn kq dq eq he' he hI2 kp dp ep hg hc h4 h3 h1 hI hk h; lia)) hg

theorem wpS_mhG {mg ac bc : Nat} {rem : Nat} {st₀ : SortSt} (h : HPre prog w A s rk D a b) (hk : PyProof.Rows.kindOf st = oneType') (hR : HRun rk a b out na nb) (hrem : na + nb ≤ rem) (hg : GSame st₀ st) :
    wpS (model prog w) A E s (mhG a b out na nb mg ac bc) (H2 rk a b st₀ rem) st := by
  obtain ⟨hI, h1, h2, h3, h4⟩ := hR
  unfold mhG
  refine wpS_bind (wpS_setG fun st1 hg1 => ?_)
  have hk1 : PyProof.Rows.kindOf st1 = oneType' := hg1.1.trans hk
  have hg2 := hg.trans hg1
  obtain ⟨q, eq, dq, kq⟩ := h.atB (i := nb - 1) (by (clear hg2 hk1 hg1 h3 h1 hI hg hrem hk h; lia))
  refine wpS_bind (wpS_elem eq (wpS_bind (wpS_gallop (n := na) h.lt hk1 dq h.da (by (clear kq dq eq hg2 hk1 hg1 h4 h2 h1 hI hg hrem hk h; lia)) (by (clear kq dq eq hg2 hk1 hg1 h4 h3 h2 hI hg hrem hk h; lia)) (fun i j i1 i2 i3 => h.ua i j (Nat.zero_le _) i2 (by (clear i2 i1 kq dq eq hg2 hk1 hg1 h4 h2 h1 hI hg hrem hk h; lia))) fun k hkn g1 g2 => ?_)))
  dsimp only
  simp only [Bool.false_eq_true, if_false, Nat.zero_add] at g1 g2
  have hI3 := h.goAs (at_ := k) hI hkn fun i j i1 i2 i3 j1 j2 => by
    have q1 := g2 i i1 i2
    have q2 := h.ub j (nb - 1) (Nat.zero_le _) (by (clear q1 j2 i3 i2 i1 g2 g1 hkn kq dq eq hg2 hk1 hg1 h4 h3 h1 hI hg hrem hk h; lia)) (by (clear q1 j2 j1 i3 i2 i1 g2 g1 hkn kq dq eq hg2 hk1 hg1 h3 h1 hI hg hrem hk h; lia))
    (clear j2 j1 i3 i2 i1 g2 g1 hkn dq eq hg2 hk1 hg1 h4 h3 h2 h1 hI hg hrem hk h; lia)
  split
  · split
    · rename_i he
      have he' : k = 0 := by simpa using he
      exact wpS_pure ⟨hg2, h.done hI3 (.inl he')⟩
    · rename_i he
      have he' : k ≠ 0 := by simpa using he
      exact wpS_mhB h hk1 hI3 (by (clear he hI3 g2 g1 hkn kq dq eq hg2 hk1 hg1 h4 h3 h2 h1 hI hg hrem hk h; lia)) h2 (by (clear he' he hI3 g2 g1 kq dq eq hg2 hk1 hg1 h4 h2 h1 hI hg hrem hk h; lia)) h4 (fun j j1 j2 => by have := g1 j (by (clear j2 j1 he' he hI3 g2 g1 hkn kq dq eq hg2 hk1 hg1 h4 h3 h2 h1 hI hg hrem hk h; lia)) (by (clear j2 he' he hI3 g2 g1 hkn kq dq eq hg2 hk1 hg1 h4 h3 h2 h1 hI hg hrem hk h; lia)); (clear j2 j1 he' he hI3 g2 g1 hkn dq eq hg2 hk1 hg1 h4 h3 h2 h1 hI hg hrem hk h; lia)) (by (clear he' he hI3 g2 g1 kq dq eq hg2 hk1 hg1 h4 h3 h2 h1 hI hg hk h; lia)) hg2
  · have hk0 : k = na := by (clear hI3 g2 g1 kq dq eq hg2 hk1 hg1 h4 h3 h2 h1 hI hg hrem hk h; lia)
    subst hk0
    exact wpS_mhB h hk1 hI h1 h2 h3 h4 (fun j j1 j2 => by have := g1 j (by (clear j2 j1 hI3 g2 hkn h3 h1 hI hrem g1 kq dq eq hg2 hk1 hg1 h4 h2 hg hk h; lia)) (by (clear j2 hI3 g2 hkn h3 h1 hI hrem g1 kq dq eq hg2 hk1 hg1 h4 h2 hg hk h; lia)); (clear j2 j1 hI3 g2 hkn h3 h1 hI hrem g1 dq eq hg2 hk1 hg1 h4 h2 hg hk h; lia)) hrem hg2

theorem wpS_mh2 {mg ac bc : Nat} {Q : MH2 → SortSt → Prop} (h : HPre prog w A s rk D a b) (hk : PyProof.Rows.kindOf st = oneType') (hR : HRun rk a b out na nb)
    (hr : ∀ r c st', GSame st st' → MRes rk a.toList b.toList r.toList → Q (some r, c) st')
    (hn : ∀ out' na' nb' c st', GSame st st' → HRun rk a b out' na' nb' → na' + nb' < na + nb → Q (none, na', nb', out', c) st') :
    wpS (model prog w) A E s (mh2 a b out na nb mg ac bc) Q st := by
  unfold mh2
  refine wpS_forRange (I := fun x c st' => GSame st st' ∧ ∃ out' na' nb' c', c = (none, na', nb', out', c') ∧ HRun rk a b out' na' nb' ∧ (x = 0 ∨ na' + nb' < na + nb) ∧ na' + nb' ≤ na + nb) ?step ?fin ⟨.rfl', out, na, nb, _, rfl, hR, .inl rfl, Nat.le_refl _⟩
  case fin =>
    rintro c st' ⟨hg, out', na', nb', c', rfl, hR', hx, hle⟩
    have h2 := hR.2
    rcases hx with hx | hx
    · (clear hR' hg hn hr hR hk h; lia)
    · exact hn _ _ _ _ _ hg hR' hx
  case step =>
    rintro x c st' _ hx ⟨hg, out', na', nb', ⟨mg', ac', bc'⟩, rfl, hR', hxx, hle⟩
    dsimp only
    have fin : ∀ r st'', H2 rk a b st (na + nb) r st'' → (∀ c, r = .done c → Q c st'') ∧ (∀ c, r = .yield c → GSame st st'' ∧ ∃ out' na' nb' c'', c = (none, na', nb', out', c'') ∧ HRun rk a b out' na' nb' ∧ (x + 1 = 0 ∨ na' + nb' < na + nb) ∧ na' + nb' ≤ na + nb) := by
      rintro r st'' ⟨hg', hp⟩
      match r, hp with
      | .done (some r, c), hp => exact ⟨fun c' e => (by cases e; exact hr _ _ _ hg' hp), fun c' e => (by cases e)⟩
      | .done (none, i, j, o, c), hp => exact ⟨fun c' e => (by cases e; exact hn _ _ _ _ _ hg' hp.1 hp.2), fun c' e => (by cases e)⟩
      | .yield (o, i, j, o', c), hp => exact ⟨fun c' e => (by cases e), fun c' e => (by cases e; exact ⟨hg', o', i, j, c, by rw [hp.1], hp.2.1, .inr hp.2.2, Nat.le_of_lt hp.2.2⟩)⟩
    split
    · refine wpS_mono (wpS_mhG (st₀ := st) (rem := na + nb) h (hg.1.trans hk) hR' hle hg) fun r st'' hp => ?_
      have := fin r st'' hp
      cases r with
      | done c => exact this.1 c rfl
      | yield c => exact this.2 c rfl
    · refine wpS_mono (wpS_mhG (st₀ := st) (rem := na + nb) h (hg.1.trans hk) hR' hle hg) fun r st'' hp => ?_
      have := fin r st'' hp
      cases r with
      | done c => exact this.1 c rfl
      | yield c => exact this.2 c rfl

theorem wpS_mh1 {mg : Nat} {Q : MH1 → SortSt → Prop} (h : HPre prog w A s rk D a b) (hk : PyProof.Rows.kindOf st = oneType') (hR : HRun rk a b out na nb)
    (hr : ∀ r c, MRes rk a.toList b.toList r.toList → Q (some r, c) st)
    (hn : ∀ out' na' nb' c, HRun rk a b out' na' nb' → na' + nb' < na + nb → Q (none, na', nb', out', c) st) :
    wpS (model prog w) A E s (mh1 a b out na nb mg) Q st := by
  unfold mh1
  refine wpS_forRange (I := fun x c st' => st' = st ∧ ∃ out' na' nb' c', c = (none, na', nb', out', c') ∧ HRun rk a b out' na' nb' ∧ (x = 0 ∨ na' + nb' < na + nb) ∧ na' + nb' ≤ na + nb) ?step ?fin ⟨rfl, out, na, nb, _, rfl, hR, .inl rfl, Nat.le_refl _⟩
  case fin =>
    rintro c st' ⟨rfl, out', na', nb', c', rfl, hR', hx, hle⟩
    have h2 := hR.2
    rcases hx with hx | hx
    · (clear hR' hn hr hk hR h; lia)
    · exact hn _ _ _ _ hR' hx
  case step =>
    rintro x c st' _ hx ⟨rfl, out', na', nb', ⟨ac', bc'⟩, rfl, ⟨hI, h1, h2, h3, h4⟩, hxx, hle⟩
    dsimp only
    obtain ⟨p, ep, dp, kp⟩ := h.atB (i := nb' - 1) (by (clear hle hxx h3 h1 hI hn hr hk hx hR h; lia))
    obtain ⟨q, eq, dq, kq⟩ := h.atA (i := na' - 1) (by (clear kp dp ep hle hxx h4 h2 hI hn hr hk hx hR h; lia))
    refine wpS_bind (wpS_elem ep (wpS_bind (wpS_elem eq (wpS_bind (wpS_lt h.lt hk dp dq ?_)))))
    rw [← kp, ← kq]
    dsimp only
    by_cases hlt : KR rk b (nb' - 1) < KR rk a (na' - 1)
    · rw [if_pos (by simpa using hlt)]
      refine wpS_bind (wpS_elem eq ?_)
      have hI2 := h.goA1 hI eq h1 fun j j1 j2 => by
        have := h.ub j (nb' - 1) (Nat.zero_le _) (by (clear j2 hlt kq dq eq kp dp ep hle hxx h4 h3 h1 hI hn hr hk hx hR h; lia)) (by (clear j2 j1 hlt kq dq eq kp dp ep hle hxx h3 h1 hI hn hr hk hx hR h; lia))
        (clear j2 j1 dq eq dp ep hle hxx h4 h3 h2 h1 hI hn hr hk hx hR h; lia)
      split
      · rename_i he
        have he' : na' - 1 = 0 := by simpa using he
        exact wpS_pure (hr _ _ (h.done hI2 (.inl he')))
      · rename_i he
        have he' : na' - 1 ≠ 0 := by simpa using he
        split
        · exact wpS_pure (hn _ _ _ _ ⟨hI2, by (clear he hI2 hlt kq dq eq kp dp ep hle hxx h4 h3 h2 hI hn hr hk hx hR h; lia), h2, by (clear he' he hI2 hlt kq dq eq kp dp ep hle hxx h4 h2 hI hn hr hk hx hR h; lia), h4⟩ (by (clear he' he hI2 hlt kq dq eq kp dp ep hxx h4 h3 h2 hI hn hr hk hx hR h; lia)))
        · exact wpS_pure ⟨rfl, _, _, _, _, rfl, ⟨hI2, by (clear he hI2 hlt kq dq eq kp dp ep hle hxx h4 h3 h2 hI hn hr hk hx hR h; lia), h2, by (clear he' he hI2 hlt kq dq eq kp dp ep hle hxx h4 h2 hI hn hr hk hx hR h; lia), h4⟩, .inr (by (clear he' he hI2 hlt kq dq eq kp dp ep hxx h4 h3 h2 hI hn hr hk hx hR h; lia)), by (clear he' he hI2 hlt kq dq eq kp dp ep hxx h4 h3 h2 hI hn hr hk hx hR h; lia)⟩
    · rw [if_neg (by simpa using hlt)]
      refine wpS_bind (wpS_elem ep ?_)
      have hI2 := h.goB1 hI ep (by (clear hlt kq dq eq kp dp ep hle hxx h4 h3 h1 hI hn hr hk hx hR h; lia)) fun j j1 j2 => by
        have := h.ua j (na' - 1) (Nat.zero_le _) (by (clear j2 hlt kq dq eq kp dp ep hle hxx h4 h3 h2 hI hn hr hk hx hR h; lia)) (by (clear j2 j1 hlt kq dq eq kp dp ep hle hxx h4 h2 hI hn hr hk hx hR h; lia))
        (clear j2 j1 dq eq dp ep hle hxx h4 h3 h2 h1 hI hn hr hk hx hR h; lia)
      split
      · rename_i he
        have he' : nb' - 1 = 1 := by simpa using he
        exact wpS_pure (hr _ _ (h.firstB hI2 (by (clear he hI2 hlt kq dq eq kp dp ep hle hxx h4 h3 h2 h1 hI hn hr hk hx hR h; lia))))
      · rename_i he
        have he' : nb' - 1 ≠ 1 := by simpa using he
        split
        · exact wpS_pure (hn _ _ _ _ ⟨hI2, h1, by (clear he hI2 hlt kq dq eq kp dp ep hle hxx h4 h3 h1 hI hn hr hk hx hR h; lia), h3, by (clear he' he hI2 hlt kq dq eq kp dp ep hle hxx h3 h1 hI hn hr hk hx hR h; lia)⟩ (by (clear he' he hI2 hlt kq dq eq kp dp ep hxx h4 h3 h1 hI hn hr hk hx hR h; lia)))
        · exact wpS_pure ⟨rfl, _, _, _, _, rfl, ⟨hI2, h1, by (clear he hI2 hlt kq dq eq kp dp ep hle hxx h4 h3 h1 hI hn hr hk hx hR h; lia), h3, by (clear he' he hI2 hlt kq dq eq kp dp ep hle hxx h3 h1 hI hn hr hk hx hR h; lia)⟩, .inr (by (clear he' he hI2 hlt kq dq eq kp dp ep hxx h4 h3 h1 hI hn hr hk hx hR h; lia)), by (clear he' he hI2 hlt kq dq eq kp dp ep hxx h4 h3 h1 hI hn hr hk hx hR h; lia)⟩

theorem wpS_mergeHi {Q : Array Keyed → SortSt → Prop} (h : HPre prog w A s rk D a b) (hk : PyProof.Rows.kindOf st = oneType') (ha : 0 < a.size) (hb : 0 < b.size)
    (hQ : ∀ r st', GSame st st' → MRes rk a.toList b.toList r.toList → Q r st') : wpS (model prog w) A E s (mergeHi' a b) Q st := by
  rw [mergeHi'_eq2]
  refine wpS_bind (wpS_lift (wpAny_rule ⟨rfl, ?_⟩))
  obtain ⟨p, ep, dp, kp⟩ := h.atA (i := a.size - 1) (by (clear hQ hb hk h; lia))
  refine wpS_bind (wpS_elem ep ?_)
  have hI : HI rk a b #[p] (a.size - 1) b.size := by
    have h0 : HI rk a b #[] a.size b.size := by
      have := HInv.start (rk := rk) a.toList b.toList
      simpa [HI] using this
    exact h.goA1 h0 ep ha fun j j1 j2 => h.last j j2
  split
  · rename_i he
    have he' : a.size - 1 = 0 := by simpa using he
    exact wpS_pure (hQ _ _ .rfl' (h.done hI (.inl he')))
  · rename_i he
    have he' : a.size - 1 ≠ 0 := by simpa using he
    split
    · rename_i he2
      have he3 : b.size = 1 := by simpa using he2
      exact wpS_pure (hQ _ _ .rfl' (h.firstB hI (by (clear he2 he' he hI kp dp ep hQ hb ha hk h; lia))))
    · rename_i he2
      have he3 : b.size ≠ 1 := by simpa using he2
      refine wpS_bind (wpS_get ?_)
      unfold mh0
      refine wpS_bind (wpS_mono (wpS_forRange
        (I := fun x c st' => GSame st st' ∧ ∃ out' na' nb' c', c = (none, na', nb', out', c') ∧ HRun rk a b out' na' nb' ∧ na' + nb' + x < a.size + b.size)
        (Q := fun c st' => GSame st st' ∧ ∃ r c', c = (some r, c') ∧ MRes rk a.toList b.toList r.toList) ?step ?fin ⟨.rfl', _, _, _, _, rfl, ⟨hI, by (clear he2 he hI kp dp ep hQ hk h; lia), by (clear he2 he' he hI kp dp ep hQ ha hk h; lia), by (clear he3 he2 he' he hI kp dp ep hQ hb hk h; lia), by (clear he3 he2 he' he hI kp dp ep hQ hb ha hk h; lia)⟩, by (clear he3 he2 he' he hI kp dp ep hQ hb hk h; lia)⟩) ?post)
      case fin =>
        rintro c st' ⟨hg, out', na', nb', c', rfl, hR', hx⟩
        (clear hR' hg he3 he2 he' he hI kp dp ep hQ hk h; lia)
      case post =>
        rintro c st' ⟨hg, r, c', rfl, hr⟩
        exact wpS_pure (hQ _ _ hg hr)
      case step =>
        rintro x c st' _ hx ⟨hg, out', na', nb', mg', rfl, hR', hxx⟩
        dsimp only
        refine wpS_bind (wpS_mh1 h (hg.1.trans hk) hR' (fun r c hr => ?_) fun out2 na2 nb2 c hR2 hlt => ?_)
        · exact wpS_pure ⟨hg, _, _, rfl, hr⟩
        · obtain ⟨ac2, bc2⟩ := c
          dsimp only
          refine wpS_bind (wpS_lift (wpAny_rule ⟨rfl, ?_⟩))
          refine wpS_bind (wpS_mh2 h (hg.1.trans hk) hR2 (fun r c st3 hg3 hr => ?_) fun out3 na3 nb3 c st3 hg3 hR3 hlt3 => ?_)
          · exact wpS_pure ⟨hg.trans hg3, _, _, rfl, hr⟩
          · obtain ⟨mg3, ac3, bc3⟩ := c
            dsimp only
            refine wpS_bind (wpS_setG fun st4 hg4 => wpS_pure ⟨(hg.trans hg3).trans hg4, _, _, _, _, rfl, hR3, by (clear hg4 hR3 hg3 hR2 hR' hg hx he3 he2 he' he hI kp dp ep hQ hb ha hk h; lia)⟩)
end
end

/-! S8 -/
section
theorem mergeAt'_eq (i : Nat) : mergeAt' i = (do
  let s ← get
  let (some (sa, na, power), some (sb, nb, _)) := ((pendingOf s)[i]?, (pendingOf s)[i + 1]?) | unsupported "internal:list.sort.pending"
  set (setPending s (((pendingOf s).setIfInBounds i (sa, na + nb, power)).eraseIdxIfInBounds (i + 1)))
  let some k ← gallop' false (← elem' (arrOf s) sb) (arrOf s) sa na 0 | return false
  let (sa, na) := (sa + k, na - k)
  if na == 0 then return true
  let some nb ← gallop' true (← elem' (arrOf s) (sa + na - 1)) (arrOf s) sb nb (nb - 1) | return false
  if nb == 0 then return true
  let x := (arrOf s).extract sa sb
  let y := (arrOf s).extract sb (sb + nb)
  let merged ← if na ≤ nb then mergeLo' x y else mergeHi' x y
  modify fun s => setArr s (merged.toList.zipIdx.foldl (fun a (p, j) => a.setIfInBounds (sa + j) p) (arrOf s))
  return (failedOf (← get)).isNone) := rfl

noncomputable def putBack (sa : Nat) (m : List Keyed) (xs : Array Keyed) : Array Keyed := m.zipIdx.foldl (fun a (p, j) => a.setIfInBounds (sa + j) p) xs
theorem putBack_from (sa : Nat) : ∀ (m : List Keyed) (k : Nat) (xs : Array Keyed), sa + k + m.length ≤ xs.size →
    (m.zipIdx k).foldl (fun a (p, j) => a.setIfInBounds (sa + j) p) xs = (xs.toList.take (sa + k) ++ m ++ xs.toList.drop (sa + k + m.length)).toArray
  | [], k, xs, h => by
    apply Array.toList_inj.mp
    show xs.toList = _
    simp
  | p :: m, k, xs, h => by
    rw [List.zipIdx_cons, List.foldl_cons, putBack_from sa m (k + 1) _ (by rw [Array.size_setIfInBounds]; simp at h; lia)]
    have hk : sa + k < xs.toList.length := by simp at h ⊢; lia
    congr 1
    rw [Array.toList_setIfInBounds]
    have e1 : (xs.toList.set (sa + k) p).take (sa + (k + 1)) = xs.toList.take (sa + k) ++ [p] := by
      rw [show sa + (k + 1) = sa + k + 1 by (clear hk h; lia), List.take_add_one, List.take_set_of_le (Nat.le_refl _), List.getElem?_set_self hk]
      rfl
    have e2 : (xs.toList.set (sa + k) p).drop (sa + (k + 1) + m.length) = xs.toList.drop (sa + k + (p :: m).length) := by
      rw [List.drop_set_of_lt (by (clear e1 hk h; lia))]
      congr 1
      simp; (clear e1 hk h; lia)
    rw [e1, e2]
    simp
theorem putBack_list {sa : Nat} {m : List Keyed} {xs : Array Keyed} (h : sa + m.length ≤ xs.size) : (putBack sa m xs).toList = xs.toList.take sa ++ m ++ xs.toList.drop (sa + m.length) := by
  unfold putBack
  rw [putBack_from sa m 0 xs h]; rfl
theorem putBack_get {sa : Nat} {m : List Keyed} {xs : Array Keyed} (h : sa + m.length ≤ xs.size) (k : Nat) :
    (putBack sa m xs)[k]? = if sa ≤ k ∧ k < sa + m.length then m[k - sa]? else xs[k]? := by
  have hl : (xs.toList.take sa).length = sa := by rw [List.length_take]; simp; lia
  rw [← Array.getElem?_toList, putBack_list h, ← Array.getElem?_toList]
  by_cases h1 : k < sa
  · rw [if_neg (by (clear h; lia)), List.append_assoc, List.getElem?_append_left (by (clear h; lia)), List.getElem?_take_of_lt h1]
  · rw [List.append_assoc, List.getElem?_append_right (by (clear h; lia)), hl]
    by_cases h2 : k < sa + m.length
    · rw [if_pos (by (clear h; lia)), List.getElem?_append_left (by (clear h; lia))]
    · rw [if_neg (by (clear h1 h; lia)), List.getElem?_append_right (by (clear h; lia)), List.getElem?_drop]
      congr 1; (clear h1 h; lia)

section
variable {prog : Program} {w : World} {A : Around} {E : Value → Shared → Prop} {s : Shared} {a₀ : Array Keyed} {rk : Value → Int} {D : Value → Prop} {st : SortSt}

theorem KR_extract {xs : Array Keyed} {i j k : Nat} (hj : j ≤ xs.size) (h : i + k < j) : KR rk (xs.extract i j) k = KR rk xs (i + k) := by
  refine KR_congr ?_
  rw [Array.getElem?_extract, if_pos (by lia)]
theorem extract_mem {xs : Array Keyed} {i j : Nat} {p : Keyed} (hj : j ≤ xs.size) (h : p ∈ (xs.extract i j).toList) : ∃ k, i ≤ k ∧ k < j ∧ xs[k]? = some p := by
  obtain ⟨n, hn, e⟩ := List.mem_iff_getElem.mp h
  have hn' : n < (xs.extract i j).size := by rw [← Array.length_toList]; exact hn
  have e' : (xs.extract i j)[n]? = some p := by rw [Array.getElem?_eq_some_iff]; exact ⟨hn', by simpa using e⟩
  rw [Array.getElem?_extract] at e'
  split at e'
  · rename_i hlt
    exact ⟨i + n, by (clear e' hlt hn' e hn h hj; lia), by (clear e' hn' e hn h; lia), e'⟩
  · cases e'

theorem setPending_base {pd pd' : Array (Nat × Nat × Nat)} (hB : RBase a₀ pd st) : RBase a₀ pd' (setPending st pd') := ⟨hB.perm, hB.kind, hB.failed, rfl⟩

theorem wpS_mergeAt {pd : Array (Nat × Nat × Nat)} {i sa na sb nb pw pw2 : Nat} {Q : Bool → SortSt → Prop} (hL : LtOK prog w A s rk D) (h0 : AllD D a₀) (hB : RBase a₀ pd st)
    (e1 : pd[i]? = some (sa, na, pw)) (e2 : pd[i + 1]? = some (sb, nb, pw2)) (hab : sa + na = sb) (hn1 : 1 ≤ na) (hn2 : 1 ≤ nb) (hsz : sb + nb ≤ a₀.size) (hu1 : Up rk (arrOf st) sa sb) (hu2 : Up rk (arrOf st) sb (sb + nb))
    (hQ : ∀ st', RBase a₀ ((pd.setIfInBounds i (sa, na + nb, pw)).eraseIdxIfInBounds (i + 1)) st' → Up rk (arrOf st') sa (sb + nb) → (∀ k, k < sa ∨ sb + nb ≤ k → (arrOf st')[k]? = (arrOf st)[k]?) → Q true st') :
    wpS (model prog w) A E s (mergeAt' i) Q st := by
  rw [mergeAt'_eq]
  refine wpS_bind (wpS_get ?_)
  rw [hB.pend, e1, e2]
  dsimp only
  refine wpS_bind (wpS_modify ?_)
  have hB1 := setPending_base (pd' := (pd.setIfInBounds i (sa, na + nb, pw)).eraseIdxIfInBounds (i + 1)) hB
  generalize hst1 : setPending st _ = st1 at hB1 ⊢
  have harr : arrOf st1 = arrOf st := by rw [← hst1]
  rw [← harr] at hu1 hu2 hQ ⊢
  have hz := hB1.size
  have hAD : AllD D (arrOf st1) := fun p hp => h0 p ((Array.perm_iff_toList_perm.mp hB1.perm).mem_iff.mp hp)
  obtain ⟨q, eq, dq⟩ := hB1.at h0 (i := sb) (by (clear hAD harr hB1 hst1 hu1 hu2 hQ hn1 hab e2 e1 hB h0 hL; lia))
  refine wpS_bind (wpS_elem eq (wpS_bind (wpS_gallop (n := na) hL hB1.kind dq hAD (by (clear dq eq hAD harr hB1 hst1 hu1 hu2 hQ hn1 e2 e1 hB h0 hL; lia)) (by (clear dq eq hAD hz harr hB1 hst1 hu1 hu2 hQ hsz hn2 hab e2 e1 hB h0 hL; lia)) (by rw [hab]; exact hu1) fun k hkn g1 g2 => ?_)))
  dsimp only
  simp only [Bool.false_eq_true, if_false, ← KR_at (rk := rk) eq] at g1 g2
  split
  · rename_i he
    have he' : na - k = 0 := by simpa using he
    refine wpS_pure (hQ _ hB1 (fun x y x1 x2 x3 => ?_) fun _ _ => rfl)
    by_cases hy : y < sb
    · exact hu1 x y x1 x2 hy
    · by_cases hx : x < sb
      · have a1 := g1 x x1 (by (clear hy x3 x2 x1 he g2 g1 dq eq hAD hz harr hB1 hst1 hu1 hu2 hQ hsz hn2 hn1 e2 e1 hB h0 hL; lia))
        have a2 := hu2 sb y (Nat.le_refl _) (by (clear a1 hx x3 x2 x1 he' he g2 g1 hkn dq eq hAD hz harr hB1 hst1 hu1 hu2 hQ hsz hn2 hn1 hab e2 e1 hB h0 hL; lia)) x3
        (clear hx hy x3 x2 x1 he' he g2 g1 hkn dq eq hAD hz harr hB1 hst1 hu1 hu2 hQ hsz hn2 hn1 hab e2 e1 hB h0 hL; lia)
      · exact hu2 x y (by (clear hy x3 x2 x1 he' he g2 g1 hkn dq eq hAD hz harr hB1 hst1 hu1 hu2 hQ hsz hn2 hn1 hab e2 e1 hB h0 hL; lia)) x2 x3
  · rename_i he
    have he' : na - k ≠ 0 := by simpa using he
    have hi1 : sa + k + (na - k) - 1 = sb - 1 := by (clear he' he g2 g1 dq eq hAD hz harr hB1 hst1 hu1 hu2 hQ hsz hn2 e2 e1 hB h0 hL; lia)
    rw [hi1]
    obtain ⟨q2, eq2, dq2⟩ := hB1.at h0 (i := sb - 1) (by (clear hi1 he' he g2 g1 hkn dq eq hAD harr hB1 hst1 hu1 hu2 hQ hn1 hab e2 e1 hB h0 hL; lia))
    refine wpS_bind (wpS_elem eq2 (wpS_bind (wpS_gallop (n := nb) hL hB1.kind dq2 hAD (by (clear dq2 eq2 hi1 he' he g2 g1 hkn dq eq hAD harr hB1 hst1 hu1 hu2 hQ hn2 hn1 hab e2 e1 hB h0 hL; lia)) (by (clear dq2 eq2 hi1 he' he g2 g1 hkn dq eq hAD hz harr hB1 hst1 hu1 hu2 hQ hsz hn1 hab e2 e1 hB h0 hL; lia)) hu2 fun k2 hkn2 g3 g4 => ?_)))
    dsimp only
    simp only [if_true, ← KR_at (rk := rk) eq2] at g3 g4
    split
    · rename_i he2
      have he3 : k2 = 0 := by simpa using he2
      refine wpS_pure (hQ _ hB1 (fun x y x1 x2 x3 => ?_) fun _ _ => rfl)
      by_cases hy : y < sb
      · exact hu1 x y x1 x2 hy
      · by_cases hx : x < sb
        · have a1 := hu1 x (sb - 1) x1 (by (clear hy x3 x2 x1 he3 he2 g4 g3 hkn2 dq2 eq2 hi1 he' he g2 g1 hkn dq eq hAD hz harr hB1 hst1 hu1 hu2 hQ hsz hn2 hn1 hab e2 e1 hB h0 hL; lia)) (by (clear hy x3 x2 x1 he3 he2 g4 g3 hkn2 dq2 eq2 hi1 he' he g2 g1 hkn dq eq hAD hz harr hB1 hst1 hu1 hu2 hQ hsz hn2 hn1 hab e2 e1 hB h0 hL; lia))
          have a2 := g4 y (by (clear a1 hx x3 x2 x1 he2 g4 g3 hkn2 dq2 eq2 hi1 he' he g2 g1 hkn dq eq hAD hz harr hB1 hst1 hu1 hu2 hQ hsz hn2 hn1 hab e2 e1 hB h0 hL; lia)) x3
          (clear hx hy x3 x2 x1 he3 he2 g4 g3 hkn2 dq2 eq2 hi1 he' he g2 g1 hkn dq eq hAD hz harr hB1 hst1 hu1 hu2 hQ hsz hn2 hn1 hab e2 e1 hB h0 hL; lia)
        · exact hu2 x y (by (clear hy x3 x2 x1 he3 he2 g4 g3 hkn2 dq2 eq2 hi1 he' he g2 g1 hkn dq eq hAD hz harr hB1 hst1 hu1 hu2 hQ hsz hn2 hn1 hab e2 e1 hB h0 hL; lia)) x2 x3
    · rename_i he2
      have he3 : k2 ≠ 0 := by simpa using he2
      have hx1 : ((arrOf st1).extract (sa + k) sb).size = sb - (sa + k) := by rw [Array.size_extract]; (clear he3 he2 g4 g3 hkn2 dq2 eq2 hi1 he' he g2 g1 dq eq hAD harr hB1 hst1 hu1 hu2 hQ hn1 e2 e1 hB h0 hL; lia)
      have hy1 : ((arrOf st1).extract sb (sb + k2)).size = k2 := by rw [Array.size_extract]; (clear hx1 he3 he2 g4 g3 dq2 eq2 hi1 he' he g2 g1 hkn dq eq hAD harr hB1 hst1 hu1 hu2 hQ hn2 hn1 hab e2 e1 hB h0 hL; lia)
      have hP : HPre prog w A s rk D ((arrOf st1).extract (sa + k) sb) ((arrOf st1).extract sb (sb + k2)) := by
        refine ⟨⟨hL, fun p hp => ?_, fun p hp => ?_, fun x y x1 x2 x3 => ?_, fun x y x1 x2 x3 => ?_, fun x x1 => ?_⟩, fun x x1 => ?_⟩
        · obtain ⟨j, _, j2, e⟩ := extract_mem (by (clear hp hy1 hx1 he3 he2 g4 g3 hkn2 dq2 eq2 hi1 he' he g2 g1 hkn dq eq hAD harr hB1 hst1 hu1 hu2 hQ hn1 hab e2 e1 hB h0 hL; lia)) hp
          exact hAD p (by obtain ⟨hj, e⟩ := Array.getElem?_eq_some_iff.mp e; rw [← e]; simp)
        · obtain ⟨j, _, j2, e⟩ := extract_mem (by (clear hp hx1 he3 he2 g4 g3 dq2 eq2 hi1 he' he g2 g1 hkn dq eq hAD harr hB1 hst1 hu1 hu2 hQ hn2 hn1 hab e2 e1 hB h0 hL; lia)) hp
          exact hAD p (by obtain ⟨hj, e⟩ := Array.getElem?_eq_some_iff.mp e; rw [← e]; simp)
        · rw [KR_extract (by (clear x3 x2 x1 hy1 hx1 he3 he2 g4 g3 hkn2 dq2 eq2 hi1 he' he g2 g1 hkn dq eq hAD harr hB1 hst1 hu1 hu2 hQ hn1 hab e2 e1 hB h0 hL; lia)) (by (clear x1 hy1 he3 he2 g4 g3 hkn2 dq2 eq2 hi1 he' he g2 g1 dq eq hAD hz harr hB1 hst1 hu1 hu2 hQ hsz hn2 hn1 e2 e1 hB h0 hL; lia)), KR_extract (by (clear x3 x2 x1 hy1 hx1 he3 he2 g4 g3 hkn2 dq2 eq2 hi1 he' he g2 g1 hkn dq eq hAD harr hB1 hst1 hu1 hu2 hQ hn1 hab e2 e1 hB h0 hL; lia)) (by (clear x2 x1 hy1 he3 he2 g4 g3 hkn2 dq2 eq2 hi1 he' he g2 g1 dq eq hAD hz harr hB1 hst1 hu1 hu2 hQ hsz hn2 hn1 e2 e1 hB h0 hL; lia))]
          exact hu1 _ _ (by (clear x3 x2 hy1 hx1 he3 he2 g4 g3 hkn2 dq2 eq2 hi1 he' he g2 g1 hkn dq eq hAD hz harr hB1 hst1 hu1 hu2 hQ hsz hn2 hn1 hab e2 e1 hB h0 hL; lia)) (by (clear x3 x1 hy1 hx1 he3 he2 g4 g3 hkn2 dq2 eq2 hi1 he' he g2 g1 hkn dq eq hAD hz harr hB1 hst1 hu1 hu2 hQ hsz hn2 hn1 hab e2 e1 hB h0 hL; lia)) (by (clear x2 x1 hy1 he3 he2 g4 g3 hkn2 dq2 eq2 hi1 he' he g2 g1 dq eq hAD hz harr hB1 hst1 hu1 hu2 hQ hsz hn2 hn1 e2 e1 hB h0 hL; lia))
        · rw [KR_extract (by (clear x3 x2 x1 hx1 he3 he2 g4 g3 dq2 eq2 hi1 he' he g2 g1 hkn dq eq hAD harr hB1 hst1 hu1 hu2 hQ hn2 hn1 hab e2 e1 hB h0 hL; lia)) (by (clear x1 hx1 he3 he2 g4 g3 hkn2 dq2 eq2 hi1 he' he g2 g1 hkn dq eq hAD hz harr hB1 hst1 hu1 hu2 hQ hsz hn2 hn1 hab e2 e1 hB h0 hL; lia)), KR_extract (by (clear x3 x2 x1 hx1 he3 he2 g4 g3 dq2 eq2 hi1 he' he g2 g1 hkn dq eq hAD harr hB1 hst1 hu1 hu2 hQ hn2 hn1 hab e2 e1 hB h0 hL; lia)) (by (clear x2 x1 hx1 he3 he2 g4 g3 hkn2 dq2 eq2 hi1 he' he g2 g1 hkn dq eq hAD hz harr hB1 hst1 hu1 hu2 hQ hsz hn2 hn1 hab e2 e1 hB h0 hL; lia))]
          exact hu2 _ _ (by (clear x3 x2 hy1 hx1 he3 he2 g4 g3 hkn2 dq2 eq2 hi1 he' he g2 g1 hkn dq eq hAD hz harr hB1 hst1 hu1 hu2 hQ hsz hn2 hn1 hab e2 e1 hB h0 hL; lia)) (by (clear x3 x1 hy1 hx1 he3 he2 g4 g3 hkn2 dq2 eq2 hi1 he' he g2 g1 hkn dq eq hAD hz harr hB1 hst1 hu1 hu2 hQ hsz hn2 hn1 hab e2 e1 hB h0 hL; lia)) (by (clear x2 x1 hx1 he3 he2 g4 g3 dq2 eq2 hi1 he' he g2 g1 hkn dq eq hAD hz harr hB1 hst1 hu1 hu2 hQ hsz hn2 hn1 hab e2 e1 hB h0 hL; lia))
        · rw [KR_extract (by (clear x1 hx1 he3 he2 g4 g3 dq2 eq2 hi1 he' he g2 g1 hkn dq eq hAD harr hB1 hst1 hu1 hu2 hQ hn2 hn1 hab e2 e1 hB h0 hL; lia)) (by (clear hx1 he3 he2 g4 g3 hkn2 dq2 eq2 hi1 he' he g2 g1 hkn dq eq hAD hz harr hB1 hst1 hu1 hu2 hQ hsz hn2 hn1 hab e2 e1 hB h0 hL; lia)), KR_extract (by (clear x1 hy1 hx1 he3 he2 g4 g3 hkn2 dq2 eq2 hi1 he' he g2 g1 hkn dq eq hAD harr hB1 hst1 hu1 hu2 hQ hn1 hab e2 e1 hB h0 hL; lia)) (by (clear x1 he2 g4 g3 hkn2 dq2 eq2 he g2 g1 dq eq hAD hz harr hB1 hst1 hu1 hu2 hQ hsz hn2 e2 e1 hB h0 hL; lia)), hx1, show sa + k + (sb - (sa + k) - 1) = sb - 1 by (clear x1 hx1 he2 g4 g3 hkn2 dq2 eq2 he g2 g1 dq eq hAD hz harr hB1 hst1 hu1 hu2 hQ hsz hn2 e2 e1 hB h0 hL; lia)]
          exact Int.le_of_lt (g3 _ (by (clear x1 hy1 hx1 he3 he2 g4 g3 hkn2 dq2 eq2 hi1 he' he g2 g1 hkn dq eq hAD hz harr hB1 hst1 hu1 hu2 hQ hsz hn2 hn1 hab e2 e1 hB h0 hL; lia)) (by (clear hx1 he3 he2 g4 g3 hkn2 dq2 eq2 hi1 he' he g2 g1 hkn dq eq hAD hz harr hB1 hst1 hu1 hu2 hQ hsz hn2 hn1 hab e2 e1 hB h0 hL; lia)))
        · rw [KR_extract (by (clear x1 hx1 he3 he2 g4 g3 dq2 eq2 hi1 he' he g2 g1 hkn dq eq hAD harr hB1 hst1 hu1 hu2 hQ hn2 hn1 hab e2 e1 hB h0 hL; lia)) (by (clear x1 hx1 he2 g4 g3 hkn2 dq2 eq2 hi1 he' he g2 g1 dq eq hAD hz harr hB1 hst1 hu1 hu2 hQ hsz hn2 hn1 e2 e1 hB h0 hL; lia)), KR_extract (by (clear x1 hy1 hx1 he3 he2 g4 g3 hkn2 dq2 eq2 hi1 he' he g2 g1 hkn dq eq hAD harr hB1 hst1 hu1 hu2 hQ hn1 hab e2 e1 hB h0 hL; lia)) (by (clear hy1 he3 he2 g4 g3 hkn2 dq2 eq2 hi1 he' he g2 g1 dq eq hAD hz harr hB1 hst1 hu1 hu2 hQ hsz hn2 hn1 e2 e1 hB h0 hL; lia))]
          exact Int.le_of_lt (g2 _ (by (clear x1 hy1 hx1 he3 he2 g4 g3 hkn2 dq2 eq2 hi1 he' he g2 g1 hkn dq eq hAD hz harr hB1 hst1 hu1 hu2 hQ hsz hn2 hn1 hab e2 e1 hB h0 hL; lia)) (by (clear hy1 he3 he2 g4 g3 hkn2 dq2 eq2 hi1 he' he g2 g1 dq eq hAD hz harr hB1 hst1 hu1 hu2 hQ hsz hn2 hn1 e2 e1 hB h0 hL; lia)))
      have fin : ∀ (r : Array Keyed) st2, GSame st1 st2 → MRes rk ((arrOf st1).extract (sa + k) sb).toList ((arrOf st1).extract sb (sb + k2)).toList r.toList →
          wpS (model prog w) A E s (do
            modify fun s => setArr s (r.toList.zipIdx.foldl (fun a (p, j) => a.setIfInBounds (sa + k + j) p) (arrOf s))
            return (failedOf (← get)).isNone) Q st2 := by
        intro r st2 hg hr
        have hrl : r.toList.length = sb + k2 - (sa + k) := by rw [hr.perm.length_eq, List.length_append]; simp only [Array.length_toList]; (clear hr hg hP he3 he2 g4 g3 hkn2 dq2 eq2 hi1 he' he g2 g1 dq eq hAD hz harr hB1 hst1 hu1 hu2 hQ hsz hn2 hn1 e2 e1 hB h0 hL; lia)
        have hput : sa + k + r.toList.length ≤ (arrOf st2).size := by rw [hg.2.1]; (clear hr hg hP hx1 he3 he2 g4 g3 dq2 eq2 hi1 he' he g2 g1 dq eq hAD harr hB1 hst1 hu1 hu2 hQ hn2 hn1 e2 e1 hB h0 hL; lia)
        refine wpS_bind (wpS_modify (wpS_bind (wpS_get (wpS_pure ?_))))
        show Q (failedOf st2).isNone (setArr st2 (putBack (sa + k) r.toList (arrOf st2)))
        rw [hg.2.2.2, hB1.failed]
        have hl : (putBack (sa + k) r.toList (arrOf st2)).toList.Perm (arrOf st1).toList := by
          rw [putBack_list hput, hg.2.1, hrl, show sa + k + (sb + k2 - (sa + k)) = sb + k2 by (clear hput hrl hr hg hP hx1 he3 he2 g4 g3 hkn2 dq2 eq2 hi1 he' he g2 g1 dq eq hAD hz harr hB1 hst1 hu1 hu2 hQ hsz hn2 hn1 e2 e1 hB h0 hL; lia)]
          have e : (arrOf st1).toList = (arrOf st1).toList.take (sa + k) ++ (((arrOf st1).extract (sa + k) sb).toList ++ ((arrOf st1).extract sb (sb + k2)).toList) ++ (arrOf st1).toList.drop (sb + k2) := by
            have z1 : ((arrOf st1).extract (sa + k) sb).toList ++ ((arrOf st1).extract sb (sb + k2)).toList = ((arrOf st1).toList.drop (sa + k)).take (sb + k2 - (sa + k)) := by
              rw [Array.toList_extract, Array.toList_extract, List.extract_eq_take_drop, List.extract_eq_take_drop, show sb + k2 - sb = k2 by (clear hput hrl hr hg hP hx1 he3 he2 g4 g3 hkn2 dq2 eq2 hi1 he' he g2 g1 hkn dq eq hAD hz harr hB1 hst1 hu1 hu2 hQ hsz hn2 hn1 hab e2 e1 hB h0 hL; lia),
                show sb + k2 - (sa + k) = (sb - (sa + k)) + k2 by (clear hput hrl hr hg hP hx1 he3 he2 g4 g3 hkn2 dq2 eq2 hi1 he' he g2 g1 dq eq hAD hz harr hB1 hst1 hu1 hu2 hQ hsz hn2 hn1 e2 e1 hB h0 hL; lia), List.take_add, List.drop_drop, show sa + k + (sb - (sa + k)) = sb by (clear hput hrl hr hg hP hx1 he3 he2 g4 g3 hkn2 dq2 eq2 hi1 he' he g2 g1 dq eq hAD hz harr hB1 hst1 hu1 hu2 hQ hsz hn2 hn1 e2 e1 hB h0 hL; lia)]
            have z2 : (arrOf st1).toList.drop (sb + k2) = ((arrOf st1).toList.drop (sa + k)).drop (sb + k2 - (sa + k)) := by rw [List.drop_drop]; congr 1; (clear z1 hput hrl hr hg hP hx1 he3 he2 g4 g3 hkn2 dq2 eq2 hi1 he' he g2 g1 dq eq hAD hz harr hB1 hst1 hu1 hu2 hQ hsz hn2 hn1 e2 e1 hB h0 hL; lia)
            rw [z1, z2, List.append_assoc, List.take_append_drop, List.take_append_drop]
          exact ((List.Perm.append_left _ hr.perm).append_right _).trans (List.Perm.of_eq e.symm)
        refine hQ _ ⟨(Array.perm_iff_toList_perm.mpr hl).trans hB1.perm, hg.1.trans hB1.kind, hg.2.2.2.trans hB1.failed, hg.2.2.1.trans hB1.pend⟩ ?_ ?_
        · show Up rk (putBack (sa + k) r.toList (arrOf st2)) sa (sb + nb)
          have hold : ∀ x, x < sa + k ∨ sb + k2 ≤ x → KR rk (putBack (sa + k) r.toList (arrOf st2)) x = KR rk (arrOf st1) x := fun x hx => by
            refine KR_congr ?_
            rw [putBack_get hput, if_neg (by (clear hl hput hr hg hP hx1 he3 he2 g4 g3 hkn2 dq2 eq2 hi1 he' he g2 g1 hkn dq eq hAD hz harr hB1 hst1 hu1 hu2 hQ hsz hn2 hn1 e2 e1 hB h0 hL; lia)), hg.2.1]
          have hmid : ∀ x, sa + k ≤ x → x < sb + k2 → (putBack (sa + k) r.toList (arrOf st2))[x]? = r[x - (sa + k)]? := fun x x1 x2 => by
            rw [putBack_get hput, if_pos (by (clear hold hl hput hr hg hP hx1 he3 he2 g4 g3 hkn2 dq2 eq2 hi1 he' he g2 g1 hkn dq eq hAD hz harr hB1 hst1 hu1 hu2 hQ hsz hn2 hn1 e2 e1 hB h0 hL; lia)), Array.getElem?_toList]
          have hfrom : ∀ x, sa + k ≤ x → x < sb + k2 → ∃ x', sa + k ≤ x' ∧ x' < sb + k2 ∧ KR rk (putBack (sa + k) r.toList (arrOf st2)) x = KR rk (arrOf st1) x' := fun x x1 x2 => by
            have hxr : x - (sa + k) < r.size := by rw [← Array.length_toList]; (clear hmid hold hl hput hr hg hP hx1 he3 he2 g4 g3 hkn2 dq2 eq2 hi1 he' he g2 g1 dq eq hAD hz harr hB1 hst1 hu1 hu2 hQ hsz hn2 hn1 e2 e1 hB h0 hL; lia)
            have hm := hmid x x1 x2
            rw [getElem?_pos r _ hxr] at hm
            have hmem : r[x - (sa + k)] ∈ r.toList := by simp
            rcases List.mem_append.mp (hr.perm.mem_iff.mp hmem) with hm2 | hm2
            · obtain ⟨j, j1, j2, e⟩ := extract_mem (by (clear hm2 hmem hm hxr x2 x1 hmid hold hl hput hrl hr hg hP hy1 hx1 he3 he2 g4 g3 hkn2 dq2 eq2 hi1 he' he g2 g1 hkn dq eq hAD harr hB1 hst1 hu1 hu2 hQ hn1 hab e2 e1 hB h0 hL; lia)) hm2
              exact ⟨j, j1, by (clear e j1 hm2 hmem hm hxr x2 x1 hmid hold hl hput hrl hr hg hP hx1 he3 he2 g4 g3 hkn2 dq2 eq2 hi1 he' he g2 g1 hkn dq eq hAD hz harr hB1 hst1 hu1 hu2 hQ hsz hn2 hn1 hab e2 e1 hB h0 hL; lia), by rw [KR_at hm, KR_at e]⟩
            · obtain ⟨j, j1, j2, e⟩ := extract_mem (by (clear hm2 hmem hm hxr x2 x1 hmid hold hl hput hrl hr hg hP hx1 he3 he2 g4 g3 dq2 eq2 hi1 he' he g2 g1 hkn dq eq hAD harr hB1 hst1 hu1 hu2 hQ hn2 hn1 hab e2 e1 hB h0 hL; lia)) hm2
              exact ⟨j, by (clear e j2 hm2 hmem hm hxr x2 x1 hmid hold hl hput hrl hr hg hP hy1 hx1 he3 he2 g4 g3 hkn2 dq2 eq2 hi1 he' he g2 g1 dq eq hAD hz harr hB1 hst1 hu1 hu2 hQ hsz hn2 hn1 e2 e1 hB h0 hL; lia), j2, by rw [KR_at hm, KR_at e]⟩
          intro x y x1 x2 x3
          by_cases c1 : x < sa + k
          · rw [hold x (.inl c1)]
            have low : ∀ z, sa ≤ z → x ≤ z → z < sb + nb → KR rk (arrOf st1) x ≤ KR rk (arrOf st1) z := fun z z0 z1 z2 => by
              by_cases hz' : z < sb
              · exact hu1 x z x1 z1 hz'
              · have a1 := g1 x x1 (by (clear hz' z2 z1 z0 x3 x2 x1 hfrom hmid hold hl hput hrl hr hg hP hy1 hx1 he3 he2 g4 g3 hkn2 dq2 eq2 hi1 he' he g2 g1 hkn dq eq hAD hz harr hB1 hst1 hu1 hu2 hQ hsz hn2 hn1 hab e2 e1 hB h0 hL; lia))
                have a2 := hu2 sb z (Nat.le_refl _) (by (clear a1 z2 z1 z0 c1 x3 x2 x1 hfrom hmid hold hl hput hrl hr hg hP hy1 hx1 he3 he2 g4 g3 hkn2 dq2 eq2 hi1 he' he g2 g1 hkn dq eq hAD hz harr hB1 hst1 hu1 hu2 hQ hsz hn2 hn1 hab e2 e1 hB h0 hL; lia)) z2
                (clear hz' z2 z1 z0 c1 x3 x2 x1 hfrom hmid hold hl hput hrl hr hg hP hy1 hx1 he3 he2 g4 g3 hkn2 dq2 eq2 hi1 he' he g2 g1 hkn dq eq hAD hz harr hB1 hst1 hu1 hu2 hQ hsz hn2 hn1 hab e2 e1 hB h0 hL; lia)
            by_cases c2 : y < sa + k ∨ sb + k2 ≤ y
            · rw [hold y c2]; exact low y (by (clear c2 low c1 x3 hfrom hmid hold hl hput hrl hr hg hP hy1 hx1 he3 he2 g4 g3 hkn2 dq2 eq2 hi1 he' he g2 g1 hkn dq eq hAD hz harr hB1 hst1 hu1 hu2 hQ hsz hn2 hn1 e2 e1 hB h0 hL; lia)) x2 x3
            · obtain ⟨y', y1, y2, e⟩ := hfrom y (by (clear low c1 x3 x2 x1 hfrom hmid hold hl hput hrl hr hg hP hy1 hx1 he3 he2 g4 g3 hkn2 dq2 eq2 hi1 he' he g2 g1 hkn dq eq hAD hz harr hB1 hst1 hu1 hu2 hQ hsz hn2 hn1 e2 e1 hB h0 hL; lia)) (by (clear low c1 x3 x2 x1 hfrom hmid hold hl hput hrl hr hg hP hx1 he3 he2 g4 g3 hkn2 dq2 eq2 hi1 he' he g2 g1 hkn dq eq hAD hz harr hB1 hst1 hu1 hu2 hQ hsz hn2 hn1 hab e2 e1 hB h0 hL; lia))
              rw [e]; exact low y' (by (clear e y2 c2 low x3 x2 hfrom hmid hold hl hput hrl hr hg hP hy1 hx1 he3 he2 g4 g3 hkn2 dq2 eq2 hi1 he' he g2 g1 hkn dq eq hAD hz harr hB1 hst1 hu1 hu2 hQ hsz hn2 hn1 e2 e1 hB h0 hL; lia)) (by (clear e y2 c2 low x3 x2 x1 hfrom hmid hold hl hput hrl hr hg hP hy1 hx1 he3 he2 g4 g3 hkn2 dq2 eq2 hi1 he' he g2 g1 hkn dq eq hAD hz harr hB1 hst1 hu1 hu2 hQ hsz hn2 hn1 e2 e1 hB h0 hL; lia)) (by (clear e y1 c2 low c1 x3 x2 x1 hfrom hmid hold hl hput hrl hr hg hP hx1 he3 he2 g4 g3 dq2 eq2 hi1 he' he g2 g1 hkn dq eq hAD hz harr hB1 hst1 hu1 hu2 hQ hsz hn2 hn1 hab e2 e1 hB h0 hL; lia))
          · by_cases c2 : sb + k2 ≤ y
            · rw [hold y (.inr c2)]
              have high : ∀ z, sa ≤ z → z ≤ y → KR rk (arrOf st1) z ≤ KR rk (arrOf st1) y := fun z z1 z2 => by
                by_cases hz' : z < sb
                · have a1 := hu1 z (sb - 1) z1 (by (clear z2 z1 c2 c1 x3 x2 x1 hfrom hmid hold hl hput hrl hr hg hP hx1 he2 g4 g3 hkn2 dq2 eq2 hi1 he' he g2 g1 dq eq hAD hz harr hB1 hst1 hu1 hu2 hQ hsz hn2 e2 e1 hB h0 hL; lia)) (by (clear hz' z2 z1 c2 c1 x3 x2 x1 hfrom hmid hold hl hput hrl hr hg hP hx1 he2 g4 g3 hkn2 dq2 eq2 hi1 he' he g2 g1 dq eq hAD hz harr hB1 hst1 hu1 hu2 hQ hsz hn2 e2 e1 hB h0 hL; lia))
                  have a2 := g4 y c2 x3
                  (clear hz' z2 z1 c2 c1 x3 x2 x1 hfrom hmid hold hl hput hrl hr hg hP hy1 hx1 he3 he2 g4 g3 hkn2 dq2 eq2 hi1 he' he g2 g1 hkn dq eq hAD hz harr hB1 hst1 hu1 hu2 hQ hsz hn2 hn1 hab e2 e1 hB h0 hL; lia)
                · exact hu2 z y (by (clear z2 z1 c2 c1 x3 x2 x1 hfrom hmid hold hl hput hrl hr hg hP hy1 hx1 he3 he2 g4 g3 hkn2 dq2 eq2 hi1 he' he g2 g1 hkn dq eq hAD hz harr hB1 hst1 hu1 hu2 hQ hsz hn2 hn1 hab e2 e1 hB h0 hL; lia)) z2 x3
              by_cases c3 : sb + k2 ≤ x
              · rw [hold x (.inr c3)]; exact high x x1 x2
              · obtain ⟨x', xx1, xx2, e⟩ := hfrom x (by (clear c3 high c2 x3 x2 x1 hfrom hmid hold hl hput hrl hr hg hP hy1 hx1 he3 he2 g4 g3 hkn2 dq2 eq2 hi1 he' he g2 g1 hkn dq eq hAD hz harr hB1 hst1 hu1 hu2 hQ hsz hn2 hn1 e2 e1 hB h0 hL; lia)) (by (clear high c2 c1 x3 x2 x1 hfrom hmid hold hl hput hrl hr hg hP hx1 he3 he2 g4 g3 hkn2 dq2 eq2 hi1 he' he g2 g1 hkn dq eq hAD hz harr hB1 hst1 hu1 hu2 hQ hsz hn2 hn1 hab e2 e1 hB h0 hL; lia))
                rw [e]; exact high x' (by (clear e xx2 c3 high c2 c1 x3 x2 x1 hfrom hmid hold hl hput hrl hr hg hP hy1 hx1 he3 he2 g4 g3 hkn2 dq2 eq2 hi1 he' he g2 g1 hkn dq eq hAD hz harr hB1 hst1 hu1 hu2 hQ hsz hn2 hn1 e2 e1 hB h0 hL; lia)) (by (clear e xx1 c3 high c1 x3 x2 x1 hfrom hmid hold hl hput hrl hr hg hP hx1 he3 he2 g4 g3 hkn2 dq2 eq2 hi1 he' he g2 g1 hkn dq eq hAD hz harr hB1 hst1 hu1 hu2 hQ hsz hn2 hn1 hab e2 e1 hB h0 hL; lia))
            · have hm1 := hmid x (by (clear c2 x3 x2 x1 hfrom hmid hold hl hput hrl hr hg hP hy1 hx1 he3 he2 g4 g3 hkn2 dq2 eq2 hi1 he' he g2 g1 hkn dq eq hAD hz harr hB1 hst1 hu1 hu2 hQ hsz hn2 hn1 e2 e1 hB h0 hL; lia)) (by (clear c1 x3 x1 hfrom hmid hold hl hput hrl hr hg hP hx1 he3 he2 g4 g3 hkn2 dq2 eq2 hi1 he' he g2 g1 hkn dq eq hAD hz harr hB1 hst1 hu1 hu2 hQ hsz hn2 hn1 hab e2 e1 hB h0 hL; lia))
              have hm2 := hmid y (by (clear hm1 c2 x3 x1 hfrom hmid hold hl hput hrl hr hg hP hy1 hx1 he3 he2 g4 g3 hkn2 dq2 eq2 hi1 he' he g2 g1 hkn dq eq hAD hz harr hB1 hst1 hu1 hu2 hQ hsz hn2 hn1 e2 e1 hB h0 hL; lia)) (by (clear hm1 c1 x3 x2 x1 hfrom hmid hold hl hput hrl hr hg hP hx1 he3 he2 g4 g3 hkn2 dq2 eq2 hi1 he' he g2 g1 hkn dq eq hAD hz harr hB1 hst1 hu1 hu2 hQ hsz hn2 hn1 hab e2 e1 hB h0 hL; lia))
              rw [KR_congr hm1, KR_congr hm2]
              exact SL_up hr.up _ _ (Nat.zero_le _) (by (clear hm2 hm1 c2 x3 x1 hfrom hmid hold hl hput hrl hr hg hP hy1 hx1 he3 he2 g4 g3 hkn2 dq2 eq2 hi1 he' he g2 g1 hkn dq eq hAD hz harr hB1 hst1 hu1 hu2 hQ hsz hn2 hn1 e2 e1 hB h0 hL; lia)) (by rw [← Array.length_toList]; (clear hm2 hm1 x3 x1 hfrom hmid hold hl hput hr hg hP hx1 he3 he2 g4 g3 hkn2 dq2 eq2 hi1 he' he g2 g1 dq eq hAD hz harr hB1 hst1 hu1 hu2 hQ hsz hn2 hn1 e2 e1 hB h0 hL; lia))
        · intro x hx
          show (putBack (sa + k) r.toList (arrOf st2))[x]? = _
          rw [putBack_get hput, if_neg (by (clear hl hput hr hg hP hx1 he3 he2 g4 g3 dq2 eq2 hi1 he' he g2 g1 hkn dq eq hAD hz harr hB1 hst1 hu1 hu2 hQ hsz hn2 hn1 e2 e1 hB h0 hL; lia)), hg.2.1]
      have h00 : KR rk ((arrOf st1).extract sb (sb + k2)) 0 ≤ KR rk ((arrOf st1).extract (sa + k) sb) 0 := hP.first 0 (by (clear fin hP he2 g4 g3 hkn2 dq2 eq2 he g2 g1 dq eq hAD hz harr hB1 hst1 hu1 hu2 hQ hsz hn2 e2 e1 hB h0 hL; lia))
      split
      · exact wpS_bind (wpS_mergeLo hP.toMPre hB1.kind (by (clear h00 fin hP he2 g4 g3 hkn2 dq2 eq2 he g2 g1 dq eq hAD hz harr hB1 hst1 hu1 hu2 hQ hsz hn2 e2 e1 hB h0 hL; lia)) (by (clear h00 fin hP hx1 he2 g4 g3 hkn2 dq2 eq2 hi1 he' he g2 g1 dq eq hAD hz harr hB1 hst1 hu1 hu2 hQ hsz hn2 hn1 e2 e1 hB h0 hL; lia)) h00 fin)
      · exact wpS_bind (wpS_mergeHi hP hB1.kind (by (clear h00 fin hP he3 he2 g4 g3 hkn2 dq2 eq2 hi1 he' he g2 g1 dq eq hAD hz harr hB1 hst1 hu1 hu2 hQ hsz hn2 hn1 e2 e1 hB h0 hL; lia)) (by (clear h00 fin hP hx1 he2 g4 g3 hkn2 dq2 eq2 hi1 he' he g2 g1 dq eq hAD hz harr hB1 hst1 hu1 hu2 hQ hsz hn2 hn1 e2 e1 hB h0 hL; lia)) fin)
end
end

/-! S9 -/
section
noncomputable def Runs (rk : Value → Int) (xs : Array Keyed) : Nat → List (Nat × Nat × Nat) → Nat → Prop
  | a, [], b => a = b
  | a, e :: r, b => e.1 = a ∧ 1 ≤ e.2.1 ∧ Up rk xs a (a + e.2.1) ∧ Runs rk xs (a + e.2.1) r b
section
variable {rk : Value → Int} {xs ys : Array Keyed}
theorem Runs.split : ∀ {l1 l2 : List (Nat × Nat × Nat)} {a b : Nat}, Runs rk xs a (l1 ++ l2) b → ∃ c, Runs rk xs a l1 c ∧ Runs rk xs c l2 b
  | [], _, a, _, h => ⟨a, rfl, h⟩
  | e :: r, l2, a, b, h => by
    obtain ⟨c, h1, h2⟩ := Runs.split (l1 := r) h.2.2.2
    exact ⟨c, ⟨h.1, h.2.1, h.2.2.1, h1⟩, h2⟩
theorem Runs.join : ∀ {l1 l2 : List (Nat × Nat × Nat)} {a b c : Nat}, Runs rk xs a l1 c → Runs rk xs c l2 b → Runs rk xs a (l1 ++ l2) b
  | [], _, _, _, _, h, h' => by
    have e := h
    unfold Runs at e
    subst e; exact h'
  | e :: r, l2, a, b, c, h, h' => ⟨h.1, h.2.1, h.2.2.1, Runs.join h.2.2.2 h'⟩
theorem Runs.le : ∀ {l : List (Nat × Nat × Nat)} {a b : Nat}, Runs rk xs a l b → a + l.length ≤ b
  | [], a, b, h => by
    have e := h
    unfold Runs at e
    simp only [List.length_nil]; (clear h; lia)
  | e :: r, a, b, h => by
    have := Runs.le h.2.2.2
    have := h.2.1
    simp only [List.length_cons]; (clear h; lia)
theorem Runs.congr : ∀ {l : List (Nat × Nat × Nat)} {a b : Nat}, (∀ k, a ≤ k → k < b → ys[k]? = xs[k]?) → Runs rk xs a l b → Runs rk ys a l b
  | [], _, _, _, h => h
  | e :: r, a, b, hk, h => by
    have hle := Runs.le h.2.2.2
    refine ⟨h.1, h.2.1, fun i j i1 i2 i3 => ?_, Runs.congr (fun k k1 k2 => hk k (by (clear k2 hle h hk; lia)) k2) h.2.2.2⟩
    rw [KR_congr (hk i i1 (by (clear i1 h hk; lia))), KR_congr (hk j (by (clear i3 hle h hk; lia)) (by (clear i2 i1 h hk; lia)))]
    exact h.2.2.1 i j i1 i2 i3
theorem Runs.power : ∀ {l : List (Nat × Nat × Nat)} {a b : Nat} (pw : Nat) (i : Nat), Runs rk xs a l b → Runs rk xs a (l.modify i fun e => (e.1, e.2.1, pw)) b
  | [], _, _, _, i, h => by cases i <;> exact h
  | e :: r, a, b, pw, 0, h => h
  | e :: r, a, b, pw, i + 1, h => ⟨h.1, h.2.1, h.2.2.1, Runs.power pw i h.2.2.2⟩
/-- two neighbours among the runs -/
theorem Runs.pair {l : List (Nat × Nat × Nat)} {i a b : Nat} (h : Runs rk xs a l b) (hi : i + 1 < l.length) :
    ∃ sa na pw sb nb pw2, l[i]? = some (sa, na, pw) ∧ l[i + 1]? = some (sb, nb, pw2) ∧ sa + na = sb ∧ 1 ≤ na ∧ 1 ≤ nb ∧ a ≤ sa ∧ sb + nb ≤ b ∧ Up rk xs sa sb ∧ Up rk xs sb (sb + nb) ∧
      ∀ ys : Array Keyed, Up rk ys sa (sb + nb) → (∀ k, k < sa ∨ sb + nb ≤ k → ys[k]? = xs[k]?) → Runs rk ys a ((l.set i (sa, na + nb, pw)).eraseIdx (i + 1)) b := by
  obtain ⟨l1, e1, e2, l2, rfl, hl⟩ : ∃ l1 e1 e2 l2, l = l1 ++ e1 :: e2 :: l2 ∧ l1.length = i := by
    refine ⟨l.take i, l[i], l[i + 1], l.drop (i + 2), ?_, by rw [List.length_take]; (clear h; lia)⟩
    rw [← List.drop_eq_getElem_cons hi, ← List.drop_eq_getElem_cons (by (clear h; lia) : i < l.length), List.take_append_drop]
  obtain ⟨c, h1, h2⟩ := h.split
  obtain ⟨q1, q2, q3, q4, q5, q6, q7⟩ := h2
  obtain ⟨sa, na, pw⟩ := e1
  obtain ⟨sb, nb, pw2⟩ := e2
  dsimp only at q1 q2 q3 q4 q5 q6 q7
  subst q1
  subst q4
  have l1' := h1.le
  have l2' := q7.le
  refine ⟨sa, na, pw, sa + na, nb, pw2, ?_, ?_, rfl, q2, q5, by (clear l2' hi h q7 q6 q3 h1 q5 q2; lia), by (clear l1' hi h q7 q6 q3 h1 q5 q2 hl; lia), q3, q6, fun ys hu hs => ?_⟩
  · rw [← hl]; simp
  · rw [← hl, List.getElem?_append_right (by (clear l2' l1' hi h q7 q6 q3 h1 q5 q2 hl; lia))]; simp
  · have e : ((l1 ++ (sa, na, pw) :: (sa + na, nb, pw2) :: l2).set i (sa, na + nb, pw)).eraseIdx (i + 1) = l1 ++ (sa, na + nb, pw) :: l2 := by
      rw [← hl, List.set_append_right _ _ (Nat.le_refl _), Nat.sub_self, List.set_cons_zero, List.eraseIdx_append_of_length_le (by (clear hs hu l2' l1' hi h q7 q6 q3 h1 q5 q2 hl; lia)), show l1.length + 1 - l1.length = 1 by (clear hs hu l2' l1' hi h q7 q6 q3 h1 q5 q2 hl; lia)]
      rfl
    rw [e]
    refine Runs.join (h1.congr fun k _ k2 => hs k (.inl k2)) ⟨rfl, by show 1 ≤ na + nb; (clear e hs hu l2' l1' hi h q7 q6 q3 h1 hl; lia), ?_, ?_⟩
    · show Up rk ys sa (sa + (na + nb))
      rw [show sa + (na + nb) = sa + na + nb by (clear e hs hu l2' l1' hi h q7 q6 q3 h1 q5 q2 hl; lia)]; exact hu
    · show Runs rk ys (sa + (na + nb)) l2 b
      rw [show sa + (na + nb) = sa + na + nb by (clear e hs hu l2' l1' hi h q7 q6 q3 h1 q5 q2 hl; lia)]
      exact q7.congr fun k k1 _ => hs k (.inr k1)
end

section
variable {prog : Program} {w : World} {A : Around} {E : Value → Shared → Prop} {s : Shared} {a₀ : Array Keyed} {rk : Value → Int} {D : Value → Prop} {st : SortSt}

/-- one merge, among the runs -/
theorem wpS_mergeRuns {pd : Array (Nat × Nat × Nat)} {i b : Nat} {Q : Bool → SortSt → Prop} (hL : LtOK prog w A s rk D) (h0 : AllD D a₀) (hB : RBase a₀ pd st) (hR : Runs rk (arrOf st) 0 pd.toList b) (hb : b ≤ a₀.size) (hi : i + 1 < pd.size)
    (hQ : ∀ pd' st', RBase a₀ pd' st' → Runs rk (arrOf st') 0 pd'.toList b → pd'.size + 1 = pd.size → (∀ k, b ≤ k → (arrOf st')[k]? = (arrOf st)[k]?) → Q true st') :
    wpS (model prog w) A E s (mergeAt' i) Q st := by
  obtain ⟨sa, na, pw, sb, nb, pw2, e1, e2, hab, h1, h2, _, hle, hu1, hu2, hnew⟩ := hR.pair (i := i) (by simpa using hi)
  refine wpS_mergeAt hL h0 hB (by rw [← Array.getElem?_toList]; exact e1) (by rw [← Array.getElem?_toList]; exact e2) hab h1 h2 (by (clear hnew hu2 hu1 h2 h1 hab e2 e1 hQ hi hR hB h0 hL; lia)) hu1 hu2 fun st' hB' hu hs => ?_
  refine hQ _ st' hB' ?_ ?_ fun k hk => hs k (.inr (by (clear hs hu hB' hnew hu2 hu1 h2 h1 hab e2 e1 hQ hi hb hR hB h0 hL; lia)))
  · have := hnew (arrOf st') hu hs
    rw [Array.eraseIdxIfInBounds, dif_pos (by rw [Array.size_setIfInBounds]; exact hi), Array.toList_eraseIdx, Array.toList_setIfInBounds]
    exact this
  · rw [Array.eraseIdxIfInBounds, dif_pos (by rw [Array.size_setIfInBounds]; exact hi), Array.size_eraseIdx, Array.size_setIfInBounds]; (clear hs hu hB' hnew hu2 hu1 hle h2 h1 hab e2 e1 hQ hb hR hB h0 hL; lia)


noncomputable abbrev SR := Option Unit × Nat
noncomputable abbrev SU := Option Unit × Unit
noncomputable def srPush (lo n : Nat) : StateT SortSt Sem (ForInStep SR) := do
  modify fun s => setPending s ((pendingOf s).push (lo, n, 0))
  pure (ForInStep.yield (none, lo + n))
noncomputable def srTail (size lo n : Nat) : StateT SortSt Sem (ForInStep SR) := do
  let g ← get
  match (pendingOf g).back? with
  | some (s1, n1, _) => do
    let __s ← forIn [:size] ((none, ()) : SU) fun _ _ => do
      let g ← get
      match if (pendingOf g).size > 1 then (pendingOf g)[(pendingOf g).size - 2]? else none with
      | some (_, _, older) =>
        if older ≤ power' size (2 * s1 + n1) (2 * s1 + n1 + n1 + n) size then pure (ForInStep.done (none, ()))
        else do
          let ok ← mergeAt' ((pendingOf g).size - 2)
          if (!ok) = true then pure (ForInStep.done (some (), ())) else pure (ForInStep.yield (none, ()))
      | _ => pure (ForInStep.done (none, ()))
    match __s.fst with
    | some r => pure (ForInStep.done (some r, lo))
    | none => do
      modify fun s => setPending s ((pendingOf s).modify ((pendingOf s).size - 1) fun x => (x.fst, x.2.fst, power' size (2 * s1 + n1) (2 * s1 + n1 + n1 + n) size))
      srPush lo n
  | _ => srPush lo n
noncomputable def srAt (p : Array (Nat × Nat × Nat)) : Nat :=
  if Option.any (fun x => decide (x < p[p.size - 2 + 1]?.elim 0 fun x => x.snd.fst)) (if p.size - 2 > 0 then Option.map (fun x => x.snd.fst) p[p.size - 2 - 1]? else none) = true then p.size - 2 - 1 else p.size - 2
noncomputable def srEnd (size : Nat) : StateT SortSt Sem Unit := do
  let __s ← forIn [:size] ((none, ()) : SU) fun _ _ => do
    let g ← get
    if (pendingOf g).size ≤ 1 then pure (ForInStep.done (none, ()))
    else do
      let ok ← mergeAt' (srAt (pendingOf g))
      if (!ok) = true then pure (ForInStep.done (some (), ())) else pure (ForInStep.yield (none, ()))
  match __s.fst with
  | some r => pure r
  | none => pure ()
noncomputable def srRuns (size minrun : Nat) : StateT SortSt Sem SR :=
  forIn [:size] ((none, 0) : SR) fun _ s =>
    if s.2 ≥ size then pure (ForInStep.done (none, s.2))
    else do
      let f ← countRun' s.2 (size - s.2)
      match f with
      | some m =>
        if m < minrun then do
          liftM (rule "list.sort.binary-insertion")
          let ok ← binarySort' s.2 (min (size - s.2) minrun) m
          if (!ok) = true then pure (ForInStep.done (some (), s.2)) else srTail size s.2 (min (size - s.2) minrun)
        else srTail size s.2 m
      | _ => pure (ForInStep.done (some (), s.2))
theorem sortRuns'_eq2 : sortRuns' = (do
  let g ← get
  let __s ← srRuns (arrOf g).size (minRun' (arrOf g).size (arrOf g).size 0)
  match __s.fst with
  | some r => pure r
  | none => srEnd (arrOf g).size) := by
  rw [sortRuns'_eq]
  kernel_rfl

theorem modify_list {α : Type} (xs : Array α) (i : Nat) (f : α → α) : (xs.modify i f).toList = xs.toList.modify i f := by
  apply List.ext_getElem?
  intro k
  rw [Array.getElem?_toList, Array.getElem?_modify, List.getElem?_modify, Array.getElem?_toList]
  by_cases h : i = k
  · simp [h]
  · simp [h]

theorem wpS_srPush {lo n : Nat} {pd : Array (Nat × Nat × Nat)} {Q : ForInStep SR → SortSt → Prop} (hB : RBase a₀ pd st) (hR : Runs rk (arrOf st) 0 pd.toList lo) (hn : 1 ≤ n) (hu : Up rk (arrOf st) lo (lo + n))
    (hQ : ∀ pd' st', RBase a₀ pd' st' → Runs rk (arrOf st') 0 pd'.toList (lo + n) → Q (.yield (none, lo + n)) st') : wpS (model prog w) A E s (srPush lo n) Q st := by
  unfold srPush
  refine wpS_bind (wpS_modify (wpS_pure (hQ ((pendingOf st).push (lo, n, 0)) _ (setPending_base hB) ?_)))
  rw [hB.pend, Array.toList_push]
  exact hR.join ⟨rfl, hn, hu, rfl⟩

theorem wpS_srTail {lo n : Nat} {pd : Array (Nat × Nat × Nat)} {Q : ForInStep SR → SortSt → Prop} (hL : LtOK prog w A s rk D) (h0 : AllD D a₀) (hB : RBase a₀ pd st) (hR : Runs rk (arrOf st) 0 pd.toList lo) (hn : 1 ≤ n) (hle : lo + n ≤ a₀.size) (hu : Up rk (arrOf st) lo (lo + n))
    (hQ : ∀ pd' st', RBase a₀ pd' st' → Runs rk (arrOf st') 0 pd'.toList (lo + n) → Q (.yield (none, lo + n)) st') : wpS (model prog w) A E s (srTail a₀.size lo n) Q st := by
  unfold srTail
  refine wpS_bind (wpS_get ?_)
  rw [hB.pend]
  cases hback : pd.back? with
  | none => exact wpS_srPush hB hR hn hu hQ
  | some e =>
    obtain ⟨s1, n1, p1⟩ := e
    dsimp only
    generalize power' a₀.size (2 * s1 + n1) (2 * s1 + n1 + n1 + n) a₀.size = pw
    have hfin : ∀ c st', (c = (none, ()) ∧ ∃ pd', RBase a₀ pd' st' ∧ Runs rk (arrOf st') 0 pd'.toList lo ∧ Up rk (arrOf st') lo (lo + n)) → wpS (model prog w) A E s (match Prod.fst c with
        | some r => pure (ForInStep.done (some r, lo))
        | none => do
          modify fun s => setPending s ((pendingOf s).modify ((pendingOf s).size - 1) fun x => (x.fst, x.2.fst, pw))
          srPush lo n) Q st' := by
      rintro c st' ⟨rfl, pd', hB', hR', hu'⟩
      dsimp only
      refine wpS_bind (wpS_modify ?_)
      refine wpS_srPush (setPending_base hB') ?_ hn hu' hQ
      rw [hB'.pend, modify_list]
      exact hR'.power pw _
    refine wpS_bind (wpS_mono (wpS_forRange
      (I := fun x c st' => c = (none, ()) ∧ ∃ pd', RBase a₀ pd' st' ∧ Runs rk (arrOf st') 0 pd'.toList lo ∧ Up rk (arrOf st') lo (lo + n))
      (Q := fun c st' => c = (none, ()) ∧ ∃ pd', RBase a₀ pd' st' ∧ Runs rk (arrOf st') 0 pd'.toList lo ∧ Up rk (arrOf st') lo (lo + n)) ?step (fun _ _ h => h) ⟨rfl, pd, hB, hR, hu⟩) hfin)
    rintro x c st' _ hx ⟨rfl, pd', hB', hR', hu'⟩
    refine wpS_bind (wpS_get ?_)
    rw [hB'.pend]
    by_cases hsz : pd'.size > 1
    · rw [if_pos hsz]
      have hlt : pd'.size - 2 < pd'.size := by (clear hu' hR' hB' hx hfin hback hQ hu hle hn hR hB h0 hL; lia)
      rw [getElem?_pos pd' _ hlt]
      generalize pd'[pd'.size - 2] = e
      obtain ⟨a1, a2, older⟩ := e
      dsimp only
      split
      · exact wpS_pure ⟨rfl, pd', hB', hR', hu'⟩
      · refine wpS_bind (wpS_mergeRuns hL h0 hB' hR' (by (clear hlt hsz hu' hR' hB' hx hfin hback hQ hu hR hB h0 hL; lia)) (by (clear hu' hR' hB' hx hfin hback hQ hu hle hn hR hB h0 hL; lia)) fun pd2 st2 hB2 hR2 _ hs2 => ?_)
        simp only [Bool.not_true, Bool.false_eq_true, if_false]
        refine wpS_pure ⟨rfl, pd2, hB2, hR2, fun i j i1 i2 i3 => ?_⟩
        rw [KR_congr (hs2 i i1), KR_congr (hs2 j (by (clear i3 hs2 hR2 hB2 hlt hsz hu' hR' hB' hx hfin hback hQ hu hle hn hR hB h0 hL; lia)))]
        exact hu' i j i1 i2 i3
    · rw [if_neg hsz]
      exact wpS_pure ⟨rfl, pd', hB', hR', hu'⟩

theorem srAt_lt {p : Array (Nat × Nat × Nat)} (h : ¬ p.size ≤ 1) : srAt p + 1 < p.size := by
  unfold srAt
  generalize Option.any _ _ = b
  cases b
  · rw [if_neg (by decide)]; lia
  · rw [if_pos rfl]; lia

theorem wpS_srEnd {pd : Array (Nat × Nat × Nat)} {Q : Unit → SortSt → Prop} (hL : LtOK prog w A s rk D) (h0 : AllD D a₀) (hB : RBase a₀ pd st) (hR : Runs rk (arrOf st) 0 pd.toList a₀.size) (h2 : 2 ≤ a₀.size)
    (h : ∀ st', (arrOf st').Perm a₀ → failedOf st' = none → Up rk (arrOf st') 0 a₀.size → Q () st') : wpS (model prog w) A E s (srEnd a₀.size) Q st := by
  unfold srEnd
  have hle := hR.le
  simp only [Nat.zero_add, Array.length_toList] at hle
  refine wpS_bind (wpS_mono (wpS_forRange
    (I := fun x c st' => c = (none, ()) ∧ ∃ pd', RBase a₀ pd' st' ∧ Runs rk (arrOf st') 0 pd'.toList a₀.size ∧ pd'.size + x ≤ a₀.size + 1)
    (Q := fun c st' => c = (none, ()) ∧ ∃ pd', RBase a₀ pd' st' ∧ Runs rk (arrOf st') 0 pd'.toList a₀.size ∧ pd'.size ≤ 1) ?step ?fin ⟨rfl, pd, hB, hR, by (clear h h2 hR hB h0 hL; lia)⟩) ?post)
  case fin =>
    rintro c st' ⟨rfl, pd', hB', hR', hx⟩
    exact ⟨rfl, pd', hB', hR', by (clear hR' hB' hle h hR hB h0 hL; lia)⟩
  case post =>
    rintro c st' ⟨rfl, pd', hB', hR', hx⟩
    refine wpS_pure (h st' hB'.perm hB'.failed ?_)
    rw [← Array.length_toList] at hx
    match hl : pd'.toList, hR', hx with
    | [], hR', _ =>
      have e : (0 : Nat) = a₀.size := hR'
      (clear hl hR' hx hB' hle h hR hB h0 hL; lia)
    | [e], hR', _ =>
      obtain ⟨q1, q2, q3, q4⟩ := hR'
      have e' : 0 + e.2.1 = a₀.size := q4
      rw [e'] at q3
      exact q3
    | _ :: _ :: _, _, hx => simp at hx
  case step =>
    rintro x c st' _ hx ⟨rfl, pd', hB', hR', hxx⟩
    refine wpS_bind (wpS_get ?_)
    rw [hB'.pend]
    split
    · rename_i hle
      exact wpS_pure ⟨rfl, pd', hB', hR', hle⟩
    · rename_i hle
      refine wpS_bind (wpS_mergeRuns hL h0 hB' hR' (Nat.le_refl _) (srAt_lt hle) fun pd2 st2 hB2 hR2 hsz _ => ?_)
      simp only [Bool.not_true, Bool.false_eq_true, if_false]
      exact wpS_pure ⟨rfl, pd2, hB2, hR2, by (clear hR2 hB2 hle hR' hB' hx h h2 hR hB h0 hL; lia)⟩

theorem wpS_sortRunsR {Q : Unit → SortSt → Prop} (hL : LtOK prog w A s rk D) (h0 : AllD D a₀) (hB : RBase a₀ #[] st) (h2 : 2 ≤ a₀.size)
    (h : ∀ st', (arrOf st').Perm a₀ → failedOf st' = none → Up rk (arrOf st') 0 a₀.size → Q () st') : wpS (model prog w) A E s sortRuns' Q st := by
  rw [sortRuns'_eq2]
  refine wpS_bind (wpS_get ?_)
  simp only [hB.size]
  generalize minRun' a₀.size a₀.size 0 = minrun
  unfold srRuns
  refine wpS_bind (wpS_mono (wpS_forRange
    (I := fun x c st' => ∃ lo pd, c = (none, lo) ∧ RBase a₀ pd st' ∧ Runs rk (arrOf st') 0 pd.toList lo ∧ lo ≤ a₀.size ∧ min x a₀.size ≤ lo)
    (Q := fun c st' => ∃ pd, c = (none, a₀.size) ∧ RBase a₀ pd st' ∧ Runs rk (arrOf st') 0 pd.toList a₀.size) ?step ?fin ⟨0, #[], rfl, hB, rfl, Nat.zero_le _, by (clear h hB h0 hL; lia)⟩) ?post)
  case fin =>
    rintro c st' ⟨lo, pd, rfl, hB', hR, h1, h2'⟩
    have : lo = a₀.size := by (clear hR hB' h hB h0 hL; lia)
    subst this
    exact ⟨pd, rfl, hB', hR⟩
  case step =>
    rintro x c st' _ hx ⟨lo, pd, rfl, hB', hR, h1, h2'⟩
    dsimp only
    by_cases hge : lo ≥ a₀.size
    · rw [if_pos hge]
      have : lo = a₀.size := by (clear h2' hR hB' hx h h2 hB h0 hL; lia)
      subst this
      exact wpS_pure ⟨pd, rfl, hB', hR⟩
    · rw [if_neg hge]
      refine wpS_bind (wpS_countRunR hL h0 (by (clear h2' h1 hR hB' hx h h2 hB h0 hL; lia)) (by (clear h2' h1 hR hB' hx h h2 hB h0 hL; lia)) hB' fun m st2 hB2 hS2 hm1 hm2 hu2 => ?_)
      have hR2 := hR.congr fun k _ hk => hS2 k hk
      dsimp only
      by_cases hlt : m < minrun
      · rw [if_pos hlt]
        refine wpS_bind (wpS_lift (wpAny_rule ⟨rfl, ?_⟩))
        refine wpS_bind (wpS_binS hL h0 (by (clear hlt hR2 hu2 hm2 hm1 hS2 hB2 h2' h1 hR hB' hx h h2 hB h0 hL; lia)) (by (clear hR2 hu2 hm1 hS2 hB2 hge h2' h1 hR hB' hx h h2 hB h0 hL; lia)) hB2 hu2 fun st3 hB3 hS3 hu3 => ?_)
        simp only [Bool.not_true, Bool.false_eq_true, if_false]
        exact wpS_srTail hL h0 hB3 (hR2.congr fun k _ hk => hS3 k hk) (by (clear hu3 hS3 hB3 hR2 hu2 hS2 hB2 hge h2' h1 hR hB' hx h h2 hB h0 hL; lia)) (by (clear hu3 hS3 hB3 hlt hR2 hu2 hm2 hm1 hS2 hB2 h2' h1 hR hB' hx h h2 hB h0 hL; lia)) hu3 fun pd' st' hB' hR' => ⟨_, pd', rfl, hB', hR', by (clear hR' hB' hu3 hS3 hB3 hlt hR2 hu2 hm2 hm1 hS2 hB2 h2' h1 hR hx h h2 hB h0 hL; lia), by (clear hR' hB' hu3 hS3 hB3 hR2 hu2 hm2 hS2 hB2 h1 hR h h2 hB h0 hL; lia)⟩
      · rw [if_neg hlt]
        exact wpS_srTail hL h0 hB2 hR2 hm1 (by (clear hlt hR2 hu2 hm1 hS2 hB2 h2' h1 hR hB' hx h h2 hB h0 hL; lia)) hu2 fun pd' st' hB' hR' => ⟨_, pd', rfl, hB', hR', by (clear hR' hB' hlt hR2 hu2 hm1 hS2 hB2 h2' h1 hR hx h h2 hB h0 hL; lia), by (clear hR' hB' hlt hR2 hu2 hm2 hS2 hB2 h1 hR h h2 hB h0 hL; lia)⟩
  case post =>
    rintro c st' ⟨pd, rfl, hB', hR⟩
    exact wpS_srEnd hL h0 hB' hR h2 h
end
end

/-! S10 -/
section
open PySem.SeqAt PySem.MeetsSeq PySem.MeetsSeq3 PySem.SeqRoads2
open PySem.AutoSeq1 (wpAny_loadPart')
inductive Key
  | i (n : Int)
  | s (x : List Nat)
deriving DecidableEq
noncomputable def KeyV : Value → Key → Prop
  | .int n _, .i k => n = k
  | .str x _, .s y => x.cps.toList = y
  | _, _ => False
inductive KeysV : List Value → List Key → Prop
  | nil : KeysV [] []
  | cons {v k vs ks} : KeyV v k → KeysV vs ks → KeysV (v :: vs) (k :: ks)
noncomputable def kLt : Key → Key → Bool
  | .i a, .i b => decide (a < b)
  | .s a, .s b => decide (a < b)
  | .i _, .s _ => true
  | .s _, .i _ => false
noncomputable def sameK : Key → Key → Bool
  | .i _, .i _ => true
  | .s _, .s _ => true
  | _, _ => false
noncomputable def lexLt : List Key → List Key → Bool
  | [], [] => false
  | [], _ :: _ => true
  | _ :: _, [] => false
  | a :: r, b :: q => if a = b then lexLt r q else kLt a b
noncomputable def alike : List Key → List Key → Bool
  | [], [] => true
  | a :: r, b :: q => sameK a b && alike r q
  | _, _ => false

theorem KeysV.get : ∀ {vs : List Value} {ks : List Key}, KeysV vs ks → ∀ i : Nat, (vs[i]? = none ∧ ks[i]? = none) ∨ ∃ v k, vs[i]? = some v ∧ ks[i]? = some k ∧ KeyV v k
  | _, _, .nil, i => .inl ⟨by simp, by simp⟩
  | _, _, .cons h r, 0 => .inr ⟨_, _, rfl, rfl, h⟩
  | _, _, .cons h r, i + 1 => by simpa using KeysV.get r i
theorem KeysV.length {vs : List Value} {ks : List Key} (h : KeysV vs ks) : vs.length = ks.length := by
  induction h with
  | nil => rfl
  | cons _ _ ih => rw [List.length_cons, List.length_cons, ih]
theorem alike_len : ∀ {a b : List Key}, alike a b = true → a.length = b.length
  | [], [], _ => rfl
  | a :: r, b :: q, h => by
    simp only [alike, Bool.and_eq_true] at h
    rw [List.length_cons, List.length_cons, alike_len h.2]
  | [], _ :: _, h => by simp [alike] at h
  | _ :: _, [], h => by simp [alike] at h
theorem alike_drop : ∀ {a b : List Key} (i : Nat), alike a b = true → alike (a.drop i) (b.drop i) = true
  | _, _, 0, h => h
  | [], [], _ + 1, h => h
  | a :: r, b :: q, i + 1, h => by
    simp only [alike, Bool.and_eq_true] at h
    exact alike_drop i h.2
  | [], _ :: _, _, h => by simp [alike] at h
  | _ :: _, [], _, h => by simp [alike] at h

section
variable {prog : Program} {w : World} {A : Around} {E : Value → Shared → Prop} {s : Shared}
theorem eq_keys {u v : Value} {a b : Key} (hu : KeyV u a) (hv : KeyV v b) (hs : sameK a b = true) : EqGives u v (decide (a = b)) := by
  cases a with
  | i a =>
    cases b with
    | i b =>
      cases u <;> first | exact hu.elim | skip
      cases v <;> first | exact hv.elim | skip
      have e1 : _ = a := hu
      have e2 : _ = b := hv
      subst e1 e2
      rename_i n1 t1 n2 t2
      have h := EqGives.int n1 n2 t1 t2
      have e : decide (Key.i n1 = Key.i n2) = (n1 == n2) := by
        by_cases h : n1 = n2
        · subst h; simp
        · simp [h]
      rw [e]; exact h
    | s b => cases hs
  | s a =>
    cases b with
    | i b => cases hs
    | s b =>
      cases u <;> first | exact hu.elim | skip
      cases v <;> first | exact hv.elim | skip
      rename_i x1 t1 x2 t2
      have e1 : x1.cps.toList = a := hu
      have e2 : x2.cps.toList = b := hv
      subst e1 e2
      have h := EqGives.str x1 x2 t1 t2
      have e : decide (Key.s x1.cps.toList = Key.s x2.cps.toList) = (x1.cps.toList == x2.cps.toList) := by
        by_cases h : x1.cps.toList = x2.cps.toList
        · rw [h]; simp
        · have h' : ¬ Key.s x1.cps.toList = Key.s x2.cps.toList := fun q => h (Key.s.inj q)
          rw [decide_eq_false h', beq_eq_false_iff_ne.mpr h]
      rw [e]; exact h
theorem lt_keys {u v : Value} {a b : Key} {Q : Value → Shared → Prop} (hu : KeyV u a) (hv : KeyV v b) (hs : sameK a b = true) (h : Q (.bool (kLt a b)) s) : wpAny (model prog w) A (richCompare .Lt u v) Q E s := by
  cases a with
  | i a =>
    cases b with
    | i b =>
      cases u <;> first | exact hu.elim | skip
      cases v <;> first | exact hv.elim | skip
      rename_i n1 t1 n2 t2
      have e1 : n1 = a := hu
      have e2 : n2 = b := hv
      subst e1 e2
      exact wpAny_richCompare_same (typeIs_int s _ _) (typeIs_int s _ _) slot_int_lt (call_int_lt ⟨(fun x => nomatch x), h⟩)
    | s b => cases hs
  | s a =>
    cases b with
    | i b => cases hs
    | s b =>
      cases u <;> first | exact hu.elim | skip
      cases v <;> first | exact hv.elim | skip
      rename_i x1 t1 x2 t2
      have e1 : x1.cps.toList = a := hu
      have e2 : x2.cps.toList = b := hv
      subst e1 e2
      exact wpAny_richCompare_same (typeIs_str s _ _) (typeIs_str s _ _) slot_str_lt (call_str_lt ⟨(fun x => nomatch x), h⟩)

theorem lt_loop (l b : Addr) (vs us : List Value) (ks qs : List Key) (n n2 : Nat) (dd dd2 : Option Addr) (sl sl2 : Array (Option Value)) (hv : KeysV vs ks) (hu : KeysV us qs) (hal : alike ks qs = true) (k : Nat) :
    ∀ i : Nat, vs.length - i = k → Meets (Builtin.«list.__eq__.loop» ⟨[.ref l, .ref b, rawInt i, rawInt 0], []⟩)
      (fun A R s => s.heap.get? l = some { cls := .type "list", dict := dd, data := .seq vs.toArray n, slots := sl } ∧ s.heap.get? b = some { cls := .type "list", dict := dd2, data := .seq us.toArray n2, slots := sl2 } ∧
        R (.ok (.ret (.bool (lexLt (ks.drop i) (qs.drop i))))) s) := by
  have hlen : vs.length = us.length := by rw [hv.length, hu.length, alike_len hal]
  induction k with
  | zero =>
    intro i hk prog w A R s h
    obtain ⟨hp, g, d, tk, os⟩ := s; obtain ⟨hl, hb, h⟩ := h
    wp_walk using wpAny_loadPart' hl, wpAny_loadPart' hb
    have hi1 : vs.toArray[((i : Nat) : Int).toNat]? = none := by simp; omega
    have hi2 : us.toArray[((i : Nat) : Int).toNat]? = none := by simp; omega
    have hd : ks.drop i = [] := by rw [List.drop_eq_nil_iff, ← hv.length]; omega
    have hd2 : qs.drop i = [] := by rw [List.drop_eq_nil_iff, ← hu.length]; omega
    rw [hd, hd2] at h
    rw [hi1, hi2]
    wp_walk using wpAny_loadPart' hl, wpAny_loadPart' hb
    show R (.ok (.ret (.bool (decide (vs.toArray.size < us.toArray.size))))) _
    simp only [List.size_toArray, hlen, Nat.lt_irrefl, decide_false]
    exact h
  | succ k ih =>
    intro i hk prog w A R s h
    obtain ⟨hp, g, d, tk, os⟩ := s; obtain ⟨hl, hb, h⟩ := h
    wp_walk using wpAny_loadPart' hl, wpAny_loadPart' hb
    obtain ⟨x, kx, ex, ek, hx⟩ : ∃ v k, vs[i]? = some v ∧ ks[i]? = some k ∧ KeyV v k := (hv.get i).resolve_left fun h => by
      have := List.getElem?_eq_none_iff.mp h.1; omega
    obtain ⟨y, ky, ey, eq, hy⟩ : ∃ v k, us[i]? = some v ∧ qs[i]? = some k ∧ KeyV v k := (hu.get i).resolve_left fun h => by
      have := List.getElem?_eq_none_iff.mp h.1; omega
    have hi1 : vs.toArray[((i : Nat) : Int).toNat]? = some x := by simpa using ex
    have hi2 : us.toArray[((i : Nat) : Int).toNat]? = some y := by simpa using ey
    have hc : ((i : Int) + 1) = ((i + 1 : Nat) : Int) := by push_cast; rfl
    have hd : ks.drop i = kx :: ks.drop (i + 1) := by
      obtain ⟨hlt, e⟩ := List.getElem?_eq_some_iff.mp ek
      rw [List.drop_eq_getElem_cons hlt, e]
    have hd2 : qs.drop i = ky :: qs.drop (i + 1) := by
      obtain ⟨hlt, e⟩ := List.getElem?_eq_some_iff.mp eq
      rw [List.drop_eq_getElem_cons hlt, e]
    have hsk : sameK kx ky = true := by
      have := alike_drop i hal
      rw [hd, hd2] at this
      simp only [alike, Bool.and_eq_true] at this
      exact this.1
    rw [hd, hd2] at h
    rw [hi1, hi2]
    refine wpAny_bind (eq_keys hx hy hsk prog w _ _ _ _ ?_)
    by_cases hb' : kx = ky
    · rw [decide_eq_true hb']
      have h' : R (.ok (.ret (.bool (lexLt (ks.drop (i + 1)) (qs.drop (i + 1)))))) { heap := hp, gens := g, drawn := d, toks := tk, os := os } := by
        have e : lexLt (kx :: ks.drop (i + 1)) (ky :: qs.drop (i + 1)) = lexLt (ks.drop (i + 1)) (qs.drop (i + 1)) := by simp [lexLt, hb']
        rw [← e]; exact h
      wp_walk
      rw [hc]
      exact ⟨plainId_quiet plain_eq_loop _, codeAny_builtin entry_eq_loop (by
        rw [Around.under_plainId plain_eq_loop _]
        exact ih (i + 1) (by omega) prog w A R _ ⟨hl, hb, h'⟩)⟩
    · rw [decide_eq_false hb']
      have h' : R (.ok (.ret (.bool (kLt kx ky)))) { heap := hp, gens := g, drawn := d, toks := tk, os := os } := by
        have e : lexLt (kx :: ks.drop (i + 1)) (ky :: qs.drop (i + 1)) = kLt kx ky := by simp [lexLt, hb']
        rw [← e]; exact h
      wp_walk using wpAny_loadPart' hl, wpAny_loadPart' hb
      rw [hi1, hi2]
      show wpAny _ _ (richCompare .Lt x y >>= fun a => ret a) _ _ _
      refine wpAny_bind (lt_keys hx hy hsk ?_)
      wp_walk
      exact h'

theorem list_lt (l b : Addr) (vs us : List Value) (ks qs : List Key) (n n2 : Nat) (dd dd2 : Option Addr) (sl sl2 : Array (Option Value)) (hv : KeysV vs ks) (hu : KeysV us qs) (hal : alike ks qs = true) :
    Meets (Builtin.«list.__lt__» ⟨[.ref l, .ref b], []⟩)
      (fun A R s => s.heap.get? l = some { cls := .type "list", dict := dd, data := .seq vs.toArray n, slots := sl } ∧ s.heap.get? b = some { cls := .type "list", dict := dd2, data := .seq us.toArray n2, slots := sl2 } ∧
        R (.ok (.ret (.bool (lexLt ks qs)))) s) := by
  intro prog w A R s h
  obtain ⟨hp, g, d, tk, os⟩ := s; obtain ⟨hl, hb, h⟩ := h
  have f3 := AutoSeq1.sub_list_list
  wp_walk using wpAny_loadPart' hl, wpAny_loadPart' hb
  exact ⟨plainId_quiet plain_eq_loop _, codeAny_builtin entry_eq_loop (by
    rw [Around.under_plainId plain_eq_loop _]
    exact lt_loop l b vs us ks qs n n2 dd dd2 sl sl2 hv hu hal _ 0 rfl prog w A R _ ⟨hl, hb, by simpa using h⟩)⟩
end
end

/-! S11 -/
section
theorem kLt_irrefl (a : Key) : kLt a a = false := by
  cases a
  · simp [kLt]
  · simp [kLt]
theorem kLt_trans {a b c : Key} (h : kLt a b = true) (h' : kLt b c = true) : kLt a c = true := by
  cases a <;> cases b <;> cases c <;> simp only [kLt, decide_eq_true_eq, Bool.false_eq_true] at h h' ⊢
  · omega
  · exact List.lt_trans h h'
theorem kLt_total {a b : Key} (h : a ≠ b) : kLt a b = true ∨ kLt b a = true := by
  cases a <;> cases b <;> simp only [kLt, decide_eq_true_eq, Bool.false_eq_true, or_false, false_or]
  · rename_i x y
    have : x ≠ y := fun e => h (by rw [e])
    omega
  · rename_i x y
    by_cases hxy : x < y
    · exact .inl hxy
    · by_cases hyx : y < x
      · exact .inr hyx
      · exact absurd (by rw [List.le_antisymm (List.not_lt.mp hyx) (List.not_lt.mp hxy)]) h
theorem lexLt_irrefl : ∀ a : List Key, lexLt a a = false
  | [] => rfl
  | a :: r => by simp [lexLt, lexLt_irrefl r]
theorem lexLt_trans : ∀ {a b c : List Key}, lexLt a b = true → lexLt b c = true → lexLt a c = true
  | [], [], _, h, _ => by simp [lexLt] at h
  | [], _ :: _, [], _, h => by simp [lexLt] at h
  | [], _ :: _, _ :: _, _, _ => rfl
  | _ :: _, [], _, h, _ => by simp [lexLt] at h
  | _ :: _, _ :: _, [], _, h => by simp [lexLt] at h
  | a :: r, b :: q, c :: t, h, h' => by
    unfold lexLt at h h' ⊢
    by_cases e1 : a = b
    · subst e1
      rw [if_pos rfl] at h
      by_cases e2 : a = c
      · rw [if_pos e2] at h' ⊢; exact lexLt_trans h h'
      · rw [if_neg e2] at h' ⊢; exact h'
    · rw [if_neg e1] at h
      by_cases e2 : b = c
      · subst e2; rw [if_neg e1]; exact h
      · rw [if_neg e2] at h'
        have hac := kLt_trans h h'
        have e3 : a ≠ c := fun e => by rw [e, kLt_irrefl] at hac; cases hac
        rw [if_neg e3]; exact hac
theorem lexLt_total : ∀ {a b : List Key}, a ≠ b → lexLt a b = true ∨ lexLt b a = true
  | [], [], h => absurd rfl h
  | [], _ :: _, _ => .inl rfl
  | _ :: _, [], _ => .inr rfl
  | a :: r, b :: q, h => by
    unfold lexLt
    by_cases e : a = b
    · subst e
      rw [if_pos rfl, if_pos rfl]
      exact lexLt_total fun q => h (by rw [q])
    · rw [if_neg e, if_neg (fun q => e q.symm)]
      exact kLt_total e
theorem lexLt_neg {a b c : List Key} (h : lexLt a c = true) : lexLt a b = true ∨ lexLt b c = true := by
  by_cases e : a = b
  · exact .inr (e ▸ h)
  · rcases lexLt_total e with h1 | h1
    · exact .inl h1
    · exact .inr (lexLt_trans h1 h)

theorem countP_strict {α : Type} {p q : α → Bool} : ∀ {l : List α} {x : α}, (∀ y ∈ l, p y = true → q y = true) → x ∈ l → p x = false → q x = true → l.countP p < l.countP q
  | a :: l, x, h, hx, hp, hq => by
    have hle : l.countP p ≤ l.countP q := List.countP_mono_left fun y hy => h y (.tail _ hy)
    rw [List.countP_cons, List.countP_cons]
    rcases List.mem_cons.mp hx with rfl | hx
    · rw [hp, hq]; simp; omega
    · have := countP_strict (fun y hy => h y (.tail _ hy)) hx hp hq
      cases ha : p a
      · cases q a <;> simp <;> omega
      · rw [h a (.head _) ha]; simp; omega

noncomputable def kf (prs : List (Value × List Key)) (v : Value) : List Key := by
  classical
  exact if h : ∃ p, p ∈ prs ∧ p.1 = v then (Classical.choose h).2 else []
noncomputable def rkf (prs : List (Value × List Key)) (v : Value) : Int := (prs.countP fun p => lexLt p.2 (kf prs v) : Nat)
noncomputable def Fun (prs : List (Value × List Key)) : Prop := ∀ p ∈ prs, ∀ q ∈ prs, p.1 = q.1 → p.2 = q.2
theorem kf_eq {prs : List (Value × List Key)} (hf : Fun prs) {p : Value × List Key} (hp : p ∈ prs) : kf prs p.1 = p.2 := by
  unfold kf
  have h : ∃ q, q ∈ prs ∧ q.1 = p.1 := ⟨p, hp, rfl⟩
  rw [dif_pos h]
  exact hf _ (Classical.choose_spec h).1 _ hp (Classical.choose_spec h).2
theorem rkf_lt {prs : List (Value × List Key)} (hf : Fun prs) {p q : Value × List Key} (hp : p ∈ prs) (hq : q ∈ prs) : lexLt p.2 q.2 = decide (rkf prs p.1 < rkf prs q.1) := by
  unfold rkf
  rw [kf_eq hf hp, kf_eq hf hq]
  cases h : lexLt p.2 q.2
  · symm
    rw [decide_eq_false_iff_not]
    have : prs.countP (fun r => lexLt r.2 q.2) ≤ prs.countP (fun r => lexLt r.2 p.2) := List.countP_mono_left fun r _ hr => by
      rcases lexLt_neg (b := p.2) hr with h1 | h1
      · exact h1
      · rw [h] at h1; cases h1
    omega
  · symm
    rw [decide_eq_true_eq]
    have := countP_strict (l := prs) (p := fun r => lexLt r.2 p.2) (q := fun r => lexLt r.2 q.2) (x := p) (fun r _ hr => lexLt_trans hr h) hp (lexLt_irrefl _) h
    omega

/-- each value is a list of the heap, with its keys -/
noncomputable def Keyed' (h : Heap) (prs : List (Value × List Key)) : Prop := ∀ p ∈ prs, ∃ a its, p.1 = .ref a ∧ h.IsList a (List.toArray its) ∧ KeysV its p.2
noncomputable def AlikeAll (prs : List (Value × List Key)) : Prop := ∀ p ∈ prs, ∀ q ∈ prs, alike p.2 q.2 = true
theorem keyV_inj {v : Value} {a b : Key} (h : KeyV v a) (h' : KeyV v b) : a = b := by
  cases v <;> first | exact h.elim | skip
  · cases a <;> first | exact h.elim | skip
    cases b <;> first | exact h'.elim | skip
    have e1 : _ = _ := h
    have e2 : _ = _ := h'
    rw [← e1, ← e2]
  · cases a <;> first | exact h.elim | skip
    cases b <;> first | exact h'.elim | skip
    have e1 : _ = _ := h
    have e2 : _ = _ := h'
    rw [← e1, ← e2]
theorem keysV_inj : ∀ {vs : List Value} {a b : List Key}, KeysV vs a → KeysV vs b → a = b
  | _, _, _, .nil, .nil => rfl
  | _, _, _, .cons h r, .cons h' r' => by rw [keyV_inj h h', keysV_inj r r']
theorem Keyed'.fun {h : Heap} {prs : List (Value × List Key)} (hk : Keyed' h prs) : Fun prs := by
  intro p hp q hq e
  obtain ⟨a, its, e1, ⟨o, h1, h2, n, h3⟩, k1⟩ := hk p hp
  obtain ⟨b, its', e2, ⟨o', h1', h2', n', h3'⟩, k2⟩ := hk q hq
  have hab : Value.ref a = Value.ref b := by rw [← e1, ← e2, e]
  obtain rfl : a = b := by injection hab
  rw [h1] at h1'
  cases h1'
  rw [h3] at h3'
  have : its.toArray = its'.toArray := by injection h3'
  have : its = its' := by simpa using this
  subst this
  exact keysV_inj k1 k2

section
variable {prog : Program} {w : World} {A : Around} {E : Value → Shared → Prop} {s : Shared}
theorem oneLt_lists {l b : Addr} {vs us : List Value} {ks qs : List Key} {Q : Bool → Shared → Prop} (hl : s.heap.IsList l vs.toArray) (hb : s.heap.IsList b us.toArray) (hv : KeysV vs ks) (hu : KeysV us qs) (hal : alike ks qs = true) (hun : A.units < cLine)
    (h : Q (lexLt ks qs) s) : wpAny (model prog w) A (oneLt' true (.ref l) (.ref b)) Q E s := by
  obtain ⟨⟨cls, dd, data, sl⟩, ho, hc, n, hd⟩ := id hl
  obtain ⟨⟨cls2, dd2, data2, sl2⟩, ho2, hc2, n2, hd2⟩ := id hb
  simp only at hc hd hc2 hd2
  subst hc hd hc2 hd2
  rw [oneLt'_eq]
  simp only [if_true]
  refine wpAny_bind (wpAny_cRoomFor hun ?_)
  refine wpAny_bind (wpAny_callSpecialIfBound?_slot (T := "list") ⟨_, ho, rfl⟩ PySem.F.slot_list_lt (call_meets PySem.F.slot_list_lt ⟨_, ho, rfl⟩ PySem.F.entry_list_lt (PySem.F.args_list_lt_2 _ _) (list_lt l b vs us ks qs n n2 dd dd2 sl sl2 hv hu hal) ⟨ho, ho2, ?_⟩))
  exact wpAny_truthy_bool h

theorem ltOK_lists {prs : List (Value × List Key)} (hk : Keyed' s.heap prs) (hal : AlikeAll prs) (hun : A.units < cLine) : LtOK prog w A s (rkf prs) (fun v => ∃ p ∈ prs, p.1 = v) := by
  rintro x y E ⟨p, hp, rfl⟩ ⟨q, hq, rfl⟩
  rw [← rkf_lt hk.fun hp hq]
  obtain ⟨a, its, e1, h1, k1⟩ := hk p hp
  obtain ⟨b, its', e2, h2, k2⟩ := hk q hq
  rw [e1, e2]
  exact oneLt_lists h1 h2 k1 k2 (hal p hp q hq) hun ⟨rfl, rfl⟩

theorem mapM_first_refs : ∀ (vs : List Value) {Q : List (Option Value) → Shared → Prop}, (∀ v ∈ vs, ∃ a, v = .ref a ∧ ∃ o, s.heap.get? a = some o ∧ o.cls = .type "list") → Q (vs.map fun _ => none) s → wpAny (model prog w) A (vs.mapM firstOfTuple') Q E s
  | [], _, _, h => by rw [List.mapM_nil]; exact wpAny_pure h
  | v :: vs, Q, hv, h => by
    obtain ⟨a, rfl, o, ho, hc⟩ := hv v (.head _)
    rw [List.mapM_cons]
    refine wpAny_bind ?_
    rw [kas_first_eq]
    refine wpAny_bind (wpAny_typeOf (T := "list") ⟨o, ho, hc⟩ ?_)
    have ht : (Value.type "list" != Value.type "tuple") = true := by decide
    rw [if_pos ht]
    exact wpAny_pure (wpAny_bind (mapM_first_refs vs (Q := fun bs s' => wpAny _ A (pure (none :: bs)) Q E s') (fun v hv' => hv v (.tail _ hv')) (wpAny_pure h)))
theorem mapM_typeOf_refs : ∀ (vs : List Value) {Q : List Value → Shared → Prop}, (∀ v ∈ vs, ∃ a, v = .ref a ∧ ∃ o, s.heap.get? a = some o ∧ o.cls = .type "list") → Q (vs.map fun _ => Value.type "list") s → wpAny (model prog w) A (vs.mapM typeOf) Q E s
  | [], _, _, h => by rw [List.mapM_nil]; exact wpAny_pure h
  | v :: vs, Q, hv, h => by
    obtain ⟨a, rfl, o, ho, hc⟩ := hv v (.head _)
    rw [List.mapM_cons]
    refine wpAny_bind (wpAny_typeOf (T := "list") ⟨o, ho, hc⟩ ?_)
    exact wpAny_bind (mapM_typeOf_refs vs (Q := fun bs s' => wpAny _ A (pure (_ :: bs)) Q E s') (fun v hv' => hv v (.tail _ hv')) (wpAny_pure h))
theorem keyKind_lists {vs : List Value} {Q : SortKind → Shared → Prop} (hne : 2 ≤ vs.length) (hv : ∀ v ∈ vs, ∃ a, v = .ref a ∧ ∃ o, s.heap.get? a = some o ∧ o.cls = .type "list") (h : Q oneType' s) : wpAny (model prog w) A (keyKind' vs.toArray) Q E s := by
  obtain ⟨v₁, r, rfl⟩ : ∃ v₁ r, vs = v₁ :: r := by
    match vs, hne with
    | v :: r, _ => exact ⟨v, r, rfl⟩
  rw [keyKind'_eq, List.mapM_toArray, map_eq_pure_bind]
  refine wpAny_bind (wpAny_bind (mapM_first_refs _ hv (wpAny_pure ?_)))
  rw [if_neg (by simp), if_neg (by simp)]
  rw [oneTypeOnly'_eq, List.mapM_toArray, map_eq_pure_bind]
  refine wpAny_bind (wpAny_bind (wpAny_bind (mapM_typeOf_refs _ hv (wpAny_pure ?_))))
  have hall : ((List.map (fun _ => Value.type "list") (v₁ :: r)).toArray.all fun x => x == Value.type "list") = true := by
    simp only [List.all_toArray, List.all_map, List.all_eq_true]
    intro _ _
    rfl
  have h0 : (List.map (fun _ => Value.type "list") (v₁ :: r)).toArray[0]? = some (Value.type "list") := by simp
  rw [h0]
  simp only [hall, if_true]
  exact wpAny_pure (wpAny_pure h)
end
end

/-! S12 -/
section
theorem Keyed'.keeps {h h' : Heap} {prs : List (Value × List Key)} (hk : Keyed' h prs) (k : ∀ b o, h.get? b = some o → h'.get? b = some o) : Keyed' h' prs := fun p hp => by
  obtain ⟨a, its, e, ⟨o, h1, h2⟩, kv⟩ := hk p hp
  exact ⟨a, its, e, ⟨o, k _ _ h1, h2⟩, kv⟩
section
variable {prog : Program} {w : World} {A : Around} {E : Value → Shared → Prop} {s : Shared}
noncomputable def SortedOf (prs prs' : List (Value × List Key)) : Prop := prs'.Perm prs ∧ prs'.Pairwise fun p q => lexLt q.2 p.2 = false

theorem sorted_of {prs : List (Value × List Key)} {vs : List Value} (hf : Fun prs) (hpr : prs.map (·.1) = vs) {xs : Array Keyed} (hp : xs.Perm (pairsOf vs)) (hu : Up (rkf prs) xs 0 (pairsOf vs).size) :
    ∃ prs', SortedOf prs prs' ∧ (xs.map (·.2)) = (prs'.map (·.1)).toArray := by
  have hl : xs.toList.Perm (vs.zip vs) := by rw [← pairsOf_toList]; exact Array.perm_iff_toList_perm.mp hp
  have hmem : ∀ p, p ∈ xs.toList → p.1 = p.2 ∧ p.1 ∈ vs := fun p hp' => mem_zip_self (hl.mem_iff.mp hp')
  have hin : ∀ p, p ∈ xs.toList → (p.1, kf prs p.1) ∈ prs := fun p hp' => by
    have := (hmem p hp').2
    rw [← hpr] at this
    obtain ⟨q, hq, e⟩ := List.mem_map.mp this
    rw [← e, kf_eq hf hq]; exact hq
  refine ⟨xs.toList.map fun p => (p.1, kf prs p.1), ⟨?_, ?_⟩, ?_⟩
  · have h1 := hl.map fun p => (p.1, kf prs p.1)
    have e2 : (vs.zip vs).map (fun p => (p.1, kf prs p.1)) = prs := by
      have : (vs.zip vs).map (fun p => (p.1, kf prs p.1)) = ((vs.zip vs).map Prod.fst).map fun v => (v, kf prs v) := by rw [List.map_map]; rfl
      rw [this, List.map_fst_zip (Nat.le_refl _), ← hpr, List.map_map]
      conv => rhs; rw [← List.map_id prs]
      exact List.map_congr_left fun p hp => by
        show (p.1, kf prs p.1) = p
        rw [kf_eq hf hp]
    rwa [e2] at h1
  · rw [List.pairwise_iff_getElem]
    intro i j hi hj hij
    have hi' : i < xs.size := by simpa using hi
    have hj' : j < xs.size := by simpa using hj
    have h1 := hu i j (Nat.zero_le _) (Nat.le_of_lt hij) (by rw [← hp.size_eq]; exact hj')
    rw [KR_at (getElem?_pos xs i hi'), KR_at (getElem?_pos xs j hj')] at h1
    simp only [List.getElem_map, Array.getElem_toList]
    have := rkf_lt hf (hin xs[j] (by simp)) (hin xs[i] (by simp))
    rw [show kf prs xs[j].1 = ((xs[j].1, kf prs xs[j].1) : Value × List Key).2 from rfl, show kf prs xs[i].1 = ((xs[i].1, kf prs xs[i].1) : Value × List Key).2 from rfl, this]
    exact decide_eq_false (by show ¬ rkf prs xs[j].1 < rkf prs xs[i].1; lia)
  · apply Array.toList_inj.mp
    rw [Array.toList_map, List.map_map]
    exact List.map_congr_left fun p hp' => (hmem p hp').1.symm

theorem list_sort_lists {a : Addr} {vs : List Value} {n : Nat} {prs : List (Value × List Key)} {P : Fin → Shared → Prop} (ho : s.heap.get? a = some (seqObj "list" vs.toArray n))
    (hk : Keyed' s.heap prs) (hna : ∀ p ∈ prs, p.1 ≠ .ref a) (hpr : prs.map (·.1) = vs) (hal : AlikeAll prs) (hun : A.units < cLine) (hlen : vs.length ≤ 1000)
    (h : ∀ prs', SortedOf prs prs' → P (.done (.ret .none)) { s with heap := sortedHeap s.heap a vs (prs'.map (·.1)).toArray }) :
    wpAny (model prog w) A (Builtin.«list.sort» ⟨[.ref a], []⟩) P E s := by
  rw [list_sort_plain]
  have ha : a < s.heap.objs.size := Heap.lt_size ho
  refine wpAny_bind (listItems_at ho rfl ?_)
  refine wpAny_bind (listUpdate_at ho rfl ?_ (by rw [List.size_toArray, sizeLine_eq]; lia) (Nat.zero_le _))
  obtain ⟨e1, ho1⟩ : ∃ e1, (s.heap.update a (Obj.mapSeq fun _ => #[])).get? a = some (seqObj "list" #[] e1) := ⟨_, get?_update_seq ho (fun _ => #[])⟩
  refine wpAny_bind (seqEpoch_at ho1 rfl ?_)
  refine wpAny_bind (wpAny_newTuple ?_ (by show vs.length ≤ _; rw [sizeLine_eq]; lia))
  refine wpAny_bind (wpAny_newList ?_ (Nat.zero_le _))
  refine wpAny_holding ?_
  have ho6 : (((s.heap.update a (Obj.mapSeq fun _ => #[])).push (seqObj "tuple" vs.toArray 0)).push (seqObj "list" #[] 0)).get? a = some (seqObj "list" #[] e1) := by
    rw [Heap.get?_push_ne _ _ _ (by rw [size_push', Heap.size_update]; exact Nat.ne_of_lt (Nat.lt_succ_of_lt ha)), Heap.get?_push_ne _ _ _ (by rw [Heap.size_update]; exact Nat.ne_of_lt ha)]
    exact ho1
  have hold : ∀ b o, b ≠ a → s.heap.get? b = some o → (((s.heap.update a (Obj.mapSeq fun _ => #[])).push (seqObj "tuple" vs.toArray 0)).push (seqObj "list" #[] 0)).get? b = some o := fun b o hb e => by
    have hlt := Heap.lt_size e
    rw [Heap.get?_push_ne _ _ _ (by rw [size_push', Heap.size_update]; exact Nat.ne_of_lt (Nat.lt_succ_of_lt hlt)), Heap.get?_push_ne _ _ _ (by rw [Heap.size_update]; exact Nat.ne_of_lt hlt), Heap.get?_update_ne _ _ _ _ hb]
    exact e
  have hk6 : Keyed' (((s.heap.update a (Obj.mapSeq fun _ => #[])).push (seqObj "tuple" vs.toArray 0)).push (seqObj "list" #[] 0)) prs := fun p hp => by
    obtain ⟨b, its, e, ⟨o, h1, h2⟩, kv⟩ := hk p hp
    exact ⟨b, its, e, ⟨o, hold b o (fun q => hna p hp (by rw [e, q])) h1, h2⟩, kv⟩
  show wpAny (model prog w) A _ P E { s with heap := ((s.heap.update a (Obj.mapSeq fun _ => #[])).push (seqObj "tuple" vs.toArray 0)).push (seqObj "list" #[] 0) }
  (try dsimp only)
  have hf := hk.fun
  by_cases h2 : vs.toArray.size < 2
  · rw [if_pos h2, if_pos h2]
    refine wpAny_bind (wpAny_pure ?_)
    rw [StateT.run_pure]
    refine wpAny_bind (wpAny_pure ?_)
    (try dsimp only)
    obtain ⟨prs', hs', eo⟩ := sorted_of (xs := vs.toArray.zip vs.toArray) hf hpr (Array.Perm.refl _) (fun i j _ hij hj => by
      have : i = j := by rw [pairsOf_size] at hj; simp at h2; lia
      subst this; exact Int.le_refl _)
    refine wpAny_bind (seqEpoch_at ho6 rfl ?_)
    refine wpAny_bind (listUpdate_at ho6 rfl ?_ (Nat.zero_le _) (hsz2 := by rw [Array.size_map]; show (pairsOf vs).size ≤ _; rw [pairsOf_size, sizeLine_eq]; lia))
    simp only [bne_self_eq_false, Bool.false_eq_true, if_false]
    refine wpAny_pure ?_
    have := h prs' hs'
    rw [← eo] at this
    exact this
  · rw [if_neg h2, if_neg h2]
    have h2' : 2 ≤ vs.length := by simp at h2; lia
    have hrefs : ∀ v ∈ vs, ∃ b, v = .ref b ∧ ∃ o, (((s.heap.update a (Obj.mapSeq fun _ => #[])).push (seqObj "tuple" vs.toArray 0)).push (seqObj "list" #[] 0)).get? b = some o ∧ o.cls = .type "list" := fun v hv => by
      rw [← hpr] at hv
      obtain ⟨p, hp, rfl⟩ := List.mem_map.mp hv
      obtain ⟨b, its, e, ⟨o, h1, h2, _⟩, kv⟩ := hk6 p hp
      exact ⟨b, e, o, h1, h2⟩
    refine wpAny_bind (keyKind_lists h2' hrefs ?_)
    refine wpAny_bind (wpAny_mono (wpS_sortRunsR (rk := rkf prs) (D := fun v => ∃ p ∈ prs, p.1 = v) (a₀ := pairsOf vs) (st := SortSt.mk' oneType' (vs.toArray.zip vs.toArray) #[] 7 none)
      (Q := fun _ st' => (arrOf st').Perm (pairsOf vs) ∧ failedOf st' = none ∧ Up (rkf prs) (arrOf st') 0 (pairsOf vs).size)
      (ltOK_lists hk6 hal hun) (fun p hp => by
        rw [pairsOf_toList] at hp
        have := (mem_zip_self hp).2
        rw [← hpr] at this
        obtain ⟨q, hq, e⟩ := List.mem_map.mp this
        exact ⟨q, hq, e⟩) ⟨Array.Perm.refl _, rfl, rfl, rfl⟩ (by rw [pairsOf_size]; exact h2') fun st' a1 a2 a3 => ⟨a1, a2, a3⟩) ?_ fun _ _ e => e)
    rintro ⟨⟨⟩, st'⟩ s' ⟨rfl, hp, hfl, hs⟩
    (try dsimp only)
    obtain ⟨prs', hs', eo⟩ := sorted_of hf hpr hp hs
    refine wpAny_bind (seqEpoch_at ho6 rfl ?_)
    refine wpAny_bind (listUpdate_at ho6 rfl ?_ (Nat.zero_le _) (hsz2 := by refine Nat.le_trans (Nat.le_of_eq ((Array.size_map ..).trans (hp.size_eq.trans (pairsOf_size _)))) ?_; rw [sizeLine_eq]; lia))
    rw [hfl]
    simp only [bne_self_eq_false, Bool.false_eq_true, if_false]
    refine wpAny_pure ?_
    have := h prs' hs'
    rw [← eo] at this
    exact this

theorem sorted_lists {h₀ : Heap} {L : Addr} {m : Str → Option Value} {news : List (Addr × Obj)} {l : Addr} {vs : List Value} {prs : List (Value × List Key)} {Q : Value → Shared → Prop} (F : Fr h₀ L s.heap m) (N : News h₀ L s.heap news)
    (hl : s.heap.IsList l vs.toArray) (hk : Keyed' s.heap prs) (hpr : prs.map (·.1) = vs) (hal : AlikeAll prs) (hun : A.units + 2 < cLine) (hlen : vs.length ≤ 1000)
    (h : ∀ D e h' prs', SortedOf prs prs' → Fr h₀ L h' m → News h₀ L h' ((D, listOf (prs'.map (·.1)).toArray e) :: news) → (∀ p ∈ news, p.1 < D) → Q (.ref D) { s with heap := h' }) :
    wpAny (model prog w) A (call (.builtin "sorted") [.ref l]) Q E s := by
  refine Calls.call_function_entry kind_sorted plain_sorted entry_sorted (args_sorted1 _) ?_
  unfold Builtin.«sorted»
  refine wpAny_bind (m := checkCount "sorted" 1 1 _) (wpAny_pure ?_)
  refine wpAny_bind (collect_list hl ?_ (by rw [sizeLine_eq]; lia))
  refine wpAny_bind (wpAny_newList ?_ (by rw [sizeLine_eq]; lia))
  have hsz : ((s.heap.push (seqObj "list" #[] 0)).update s.heap.objs.size (Obj.mapSeq (· ++ vs.toArray))).objs.size = s.heap.objs.size + 1 := by
    rw [Heap.size_update, size_push']
  have hoL : (((s.heap.push (seqObj "list" #[] 0)).update s.heap.objs.size (Obj.mapSeq (· ++ vs.toArray))).push (seqObj "list" vs.toArray 0)).get? (s.heap.objs.size + 1) = some (seqObj "list" vs.toArray 0) := by
    rw [← hsz]; exact Heap.get?_push_size _ rfl
  have keep : ∀ b o, s.heap.get? b = some o → (((s.heap.push (seqObj "list" #[] 0)).update s.heap.objs.size (Obj.mapSeq (· ++ vs.toArray))).push (seqObj "list" vs.toArray 0)).get? b = some o := fun b o q => by
    have hlt : b < s.heap.objs.size := Heap.lt_size q
    rw [Heap.get?_push_ne _ _ _ (by rw [hsz]; exact Nat.ne_of_lt (Nat.lt_succ_of_lt hlt)), Heap.get?_update_ne _ _ _ _ (Nat.ne_of_lt hlt), Heap.get?_push_ne _ _ _ (Nat.ne_of_lt hlt)]
    exact q
  show wpAny _ _ _ _ _ { s with heap := ((s.heap.push (seqObj "list" #[] 0)).update s.heap.objs.size (Obj.mapSeq (· ++ vs.toArray))).push (seqObj "list" vs.toArray 0) }
  rw [hsz]
  refine wpAny_bind (wpAny_holding (wpAny_call_entry slot_list_sort ⟨_, hoL, rfl⟩ entry_list_sort (list_sort_lists hoL (hk.keeps keep) (fun p hp => ?_) hpr hal (by show A.units + 1 + 1 < cLine; lia) hlen fun prs' hs' => ⟨_, rfl, ?_⟩) (args_list_sort _)))
  · obtain ⟨b, its, e, ⟨o, h1, _⟩, _⟩ := hk p hp
    rw [e]
    intro q
    have q' : b = s.heap.objs.size + 1 := by injection q
    exact absurd (q' ▸ Heap.lt_size h1) (Nat.not_lt.mpr (Nat.le_succ _))
  · refine wpAny_pure ⟨_, rfl, ?_⟩
    obtain ⟨e, he⟩ := sortedAll_at s.heap vs (prs'.map (·.1)).toArray
    exact h _ e _ prs' hs' (F.kept fun _ _ => sortedAll_old) (N.kept_cons F (fun _ _ => sortedAll_old) (Nat.le_succ _) he) fun p hp => Nat.lt_succ_of_lt (Heap.lt_size (N p hp).1)
end
end

/-! H1 -/
section
noncomputable abbrev PK := Value × List Key
noncomputable def LObj (l : List PK) (n : Nat) : Obj := listOf (l.map (·.1)).toArray n
/-- the objects of the items stand in the ledger -/
noncomputable def HK (rest : List (Addr × Obj)) (l : List PK) : Prop := ∀ p ∈ l, ∃ a its k, p.1 = .ref a ∧ (a, listOf (List.toArray its) k) ∈ rest ∧ KeysV its p.2
theorem HK.sub {rest : List (Addr × Obj)} {l l' : List PK} (h : HK rest l) (hs : ∀ p ∈ l', p ∈ l) : HK rest l' := fun p hp => h p (hs p hp)
theorem HK.grow {rest rest' : List (Addr × Obj)} {l : List PK} (h : HK rest l) (hs : ∀ p ∈ rest, p ∈ rest') : HK rest' l := fun p hp => by
  obtain ⟨a, its, k, e, hm, hk⟩ := h p hp
  exact ⟨a, its, k, e, hs _ hm, hk⟩
theorem HK.keyed {h₀ h : Heap} {L : Addr} {rest : List (Addr × Obj)} {l : List PK} (hk : HK rest l) (N : News h₀ L h rest) : Keyed' h l := fun p hp => by
  obtain ⟨a, its, k, e, hm, kv⟩ := hk p hp
  exact ⟨a, its, e, ⟨_, (N _ hm).1, rfl, k, rfl⟩, kv⟩
theorem AlikeAll.sub {l l' : List PK} (h : AlikeAll l) (hs : ∀ p ∈ l', p ∈ l) : AlikeAll l' := fun p hp q hq => h p (hs p hp) q (hs q hq)

theorem fit_of {j : Nat} (h : j ≤ 1000) : ((j : Nat) : Int) < 2 ^ 63 := by
  have : (1000 : Int) < 2 ^ 63 := by decide
  omega
theorem setL_eq : ∀ (xs : List Value) (j : Nat) (v : Value), j < xs.length → ki_setL xs j v = some (xs.set j v)
  | x :: r, 0, v, _ => rfl
  | x :: r, j + 1, v, h => by
    show (match ki_setL r j v with | some q => some (x :: q) | none => none) = _
    rw [setL_eq r j v (Nat.lt_of_succ_lt_succ h)]; rfl
  | [], _, _, h => absurd h (Nat.not_lt_zero _)
theorem set_L {l : List PK} {j : Nat} {p : PK} (h : j < l.length) : ki_setL ((l.map (·.1)).toArray).toList j p.1 = some ((l.set j p).map (·.1)) := by
  rw [setL_eq _ _ _ (by simpa using h), List.map_set]
section
variable {prog : Program} {w : World} {A : Around} {E : Value → Shared → Prop} {s : Shared} {h₀ : Heap} {L : Addr} {m : Str → Option Value} {news rest : List (Addr × Obj)}
theorem lst_lt {p q : PK} {l : List PK} {Q : Value → Shared → Prop} (N : News h₀ L s.heap rest) (hk : HK rest l) (hal : AlikeAll l) (hp : p ∈ l) (hq : q ∈ l) (hu : A.units + 1 < cLine) (h : Q (.bool (lexLt p.2 q.2)) s) :
    wpAny (model prog w) A (compareOp .Lt p.1 q.1) Q E s := by
  obtain ⟨a, its, e1, hl, k1⟩ := hk.keyed N p hp
  obtain ⟨b, its', e2, hb, k2⟩ := hk.keyed N q hq
  rw [e1, e2]
  obtain ⟨⟨cls, dd, data, sl⟩, ho, hc, n, hd⟩ := id hl
  obtain ⟨⟨cls2, dd2, data2, sl2⟩, ho2, hc2, n2, hd2⟩ := id hb
  simp only at hc hd hc2 hd2
  subst hc hd hc2 hd2
  refine cmp_ofLt (richCompare_meets_room (op := .Lt) ⟨_, ho, rfl⟩ ⟨_, ho2, rfl⟩ PySem.F.slot_list_lt PySem.F.entry_list_lt (PySem.F.args_list_lt_2 _ _) (list_lt a b its its' p.2 q.2 n n2 dd dd2 sl sl2 k1 k2 (hal p hp q hq)) ⟨ho, ho2, ?_⟩ (Nat.lt_of_succ_lt hu))
  exact ⟨(fun x => nomatch x), h⟩
theorem lst_at {value slice : PySem.Expr} {a : Addr} {l : List PK} {n : Nat} {k : Int} {u : Tok} {j : Nat} {p : PK} {Q : Value → Shared → Prop}
    (N : News h₀ L s.heap news) (hm : (a, LObj l n) ∈ news) (hj : k = (j : Int)) (hlen : l.length ≤ 1000) (hx : l[j]? = some p) (h : Q p.1 s)
    (hs : subscripted slice false (.ref a) (.int k u) = operate [.ref a, .int k u] (getItem (.ref a) (.int k u)) := by with_unfolding_all rfl) :
    wpAny (model prog w) A (subscriptTail value slice (.ref a) (.int k u)) Q E s := by
  subst hj
  have hl : s.heap.IsList a (l.map (·.1)).toArray := ⟨_, (N _ hm).1, rfl, n, rfl⟩
  have hlt : j < l.length := (List.getElem?_eq_some_iff.mp hx).1
  exact tail_any hl.typeIs slot_list_getitem.lookup (wpAny_getItem_list hl (Int.natCast_nonneg j) (fit_of (Nat.le_trans (Nat.le_of_lt hlt) hlen)) (by simp [hx]) h) hs
theorem lst_set {a : Addr} {l : List PK} {n : Nat} {k : Int} {u : Tok} {j : Nat} {p : PK} {Q : Unit → Shared → Prop}
    (F : Fr h₀ L s.heap m) (N : News h₀ L s.heap ((a, LObj l n) :: rest)) (hna : ∀ p ∈ rest, p.1 ≠ a) (hj : k = (j : Int)) (hlen : l.length ≤ 1000) (hlt : j < l.length)
    (h : ∀ h' n', Fr h₀ L h' m → News h₀ L h' ((a, LObj (l.set j p) n') :: rest) → Q () { s with heap := h' }) :
    wpAny (model prog w) A (setItem (.ref a) (.int k u) p.1) Q E s := by
  subst hj
  refine ki_set (its := (l.map (·.1)).toArray) (q := (l.set j p).map (·.1)) F N (Int.natCast_nonneg j) (fit_of (Nat.le_trans (Nat.le_of_lt hlt) hlen)) ?_ (.head hna) fun h' F' N' => h h' n F' N'
  rw [Int.toNat_natCast]
  exact set_L (l := l) hlt
theorem lst_is {a : Addr} {l : List PK} {n : Nat} (N : News h₀ L s.heap news) (hm : (a, LObj l n) ∈ news) : s.heap.IsList a (l.map (·.1)).toArray := ⟨_, (N _ hm).1, rfl, n, rfl⟩
theorem lst_len {a : Addr} {l : List PK} {n : Nat} {Q : Value → Shared → Prop} (N : News h₀ L s.heap news) (hm : (a, LObj l n) ∈ news) (hlen : l.length ≤ 1000) (h : ∀ t k, Q (.int (l.length : Int) t) { s with toks := k }) :
    wpAny (model prog w) A (call (.builtin "len") [.ref a]) Q E s := by
  have e : (l.map (·.1)).toArray.size = l.length := by simp
  refine Calls.call_len_list (lst_is N hm) (by rw [e]; exact fit_of hlen) ?_
  rw [e]; exact h _ _
theorem lst_truthy {a : Addr} {l : List PK} {n : Nat} {Q : Bool → Shared → Prop} (N : News h₀ L s.heap news) (hm : (a, LObj l n) ∈ news) (hlen : l.length ≤ 1000) (h : ∀ k, Q (!l.isEmpty) { s with toks := k }) :
    wpAny (model prog w) A (truthy (.ref a)) Q E s := by
  refine wpAny_truthy_list (lst_is N hm) (by simp only [List.size_toArray, List.length_map]; exact fit_of hlen) ?_
  have e : (!(l.map (·.1)).toArray.isEmpty) = !l.isEmpty := by cases l <;> rfl
  rw [e]; exact h _
theorem lst_append {a : Addr} {l : List PK} {n : Nat} {p : PK} {Q : Value → Shared → Prop} (F : Fr h₀ L s.heap m) (N : News h₀ L s.heap ((a, LObj l n) :: rest)) (hna : ∀ p ∈ rest, p.1 ≠ a) (hlen : l.length ≤ 1000)
    (h : ∀ h' n', Fr h₀ L h' m → News h₀ L h' ((a, LObj (l ++ [p]) n') :: rest) → Q .none { s with heap := h' }) :
    wpAny (model prog w) A (call (.builtin "list.append") [.ref a, p.1]) Q E s := by
  have hN := N _ (.head _)
  refine append_at (its := (l.map (Prod.fst (α := Value) (β := List Key))).toArray) (n := n) hN.1 (fun h' hs ho => ?_) (by simp only [List.size_toArray, List.length_map]; rw [sizeLine_eq]; omega)
  refine h h' (n + 1) (F.change hs hN.2.1 hN.2.2) fun q hq => ?_
  rcases List.mem_cons.mp hq with rfl | hq
  · refine ⟨?_, hN.2⟩
    rw [ho]
    show some (listOf ((l.map (·.1)).toArray.push p.1) (n + 1)) = some (listOf ((l ++ [p]).map (·.1)).toArray (n + 1))
    rw [List.map_append, List.push_toArray]; rfl
  · have := N q (.tail _ hq)
    exact ⟨hs.extBut _ _ (hna q hq) this.1, this.2⟩
theorem lst_pop {a : Addr} {l : List PK} {n : Nat} {p : PK} {Q : Value → Shared → Prop} (F : Fr h₀ L s.heap m) (N : News h₀ L s.heap ((a, LObj (l ++ [p]) n) :: rest)) (hna : ∀ p ∈ rest, p.1 ≠ a) (hlen : l.length < 1000)
    (h : ∀ h' n', Fr h₀ L h' m → News h₀ L h' ((a, LObj l n') :: rest) → Q p.1 { s with heap := h' }) :
    wpAny (model prog w) A (call (.builtin "list.pop") [.ref a]) Q E s := by
  have e : ((l ++ [p]).map (·.1)).toArray = (l.map (·.1) ++ [p.1]).toArray := by rw [List.map_append]; rfl
  refine kl_pop (its := ((l ++ [p]).map (·.1)).toArray) (n := n) (p := l.map (·.1)) (y := p.1) F N ?_ (.head hna) ?_ fun h' F' N' => h h' _ F' N'
  · rw [e]; exact kpa_last _ _
  · simp only [List.length_map, List.map_append, List.length_append, List.map_cons, List.map_nil, List.length_cons, List.length_nil]; rw [sizeLine_eq]; omega
end
end

/-! H2 -/
section
open PySem.Calls
noncomputable def sdown (x : PK) (pos : Nat) (l : List PK) : List PK :=
  if h : 0 < pos then
    match l[(pos - 1) / 2]? with
    | some par => if lexLt x.2 par.2 = true then sdown x ((pos - 1) / 2) (l.set pos par) else l.set pos x
    | none => l.set pos x
  else l.set pos x
termination_by pos
decreasing_by omega
theorem sdown_zero (x : PK) (l : List PK) : sdown x 0 l = l.set 0 x := by rw [sdown, dif_neg (by omega)]
theorem sdown_succ {x par : PK} {k : Nat} {l : List PK} (h : l[k / 2]? = some par) : sdown x (k + 1) l = if lexLt x.2 par.2 = true then sdown x (k / 2) (l.set (k + 1) par) else l.set (k + 1) x := by
  rw [sdown, dif_pos (Nat.succ_pos k), Nat.add_sub_cancel, h]
theorem half_at (k : Nat) : (((k + 1 : Nat) : Int) - 1).fdiv (2 ^ Int.toNat 1) = ((k / 2 : Nat) : Int) := by
  rw [show (2 : Int) ^ Int.toNat 1 = ((2 : Nat) : Int) from rfl, Int.fdiv_eq_ediv_of_nonneg _ (by omega)]
  omega
theorem While_invB {prog : Program} {w : World} {A : Around} {E : Value → Shared → Prop} {s : Shared} {env : Env} {h₀ : Heap} {test : Expr} {body : List Stmt} {pos : Pos} {Q : Flow → Shared → Prop} {L : Addr} {m : Str → Option Value} {news : List (Addr × Obj)} (J : (Str → Option Value) → Nat → (Str → Option Value) → List (Addr × Obj) → Prop) {n₀ : Nat}
    (F : Fr h₀ L s.heap m) (N : News h₀ L s.heap news) (hJ : J m n₀ m news)
    (turn : ∀ n m₁ news₁ h₁ tk₁, Fr h₀ L h₁ m₁ → News h₀ L h₁ news₁ → J m n m₁ news₁ →
      wpAny (model prog w) A (isTrue test env (eval test env)) (fun b s₂ =>
        if b = true then wpAny (model prog w) A (execs body env) (WhileStep2 h₀ L s (J m) Q n) E s₂ else Q .next s₂) E { s with heap := h₁, toks := tk₁ })
    (hE : PassesOwn (model prog w) A env E := by passes_own) :
    wpAny (model prog w) A (exec (.While test body [] pos) env) Q E s := While_inv2 (J m) F N hJ turn hE
theorem step_next {h₀ h' : Heap} {L : Addr} {s : Shared} {J : Nat → (Str → Option Value) → List (Addr × Obj) → Prop} {Q : Flow → Shared → Prop} {n n' tk : Nat} {m₂ : Str → Option Value} {news₂ : List (Addr × Obj)}
    (F : Fr h₀ L h' m₂) (N : News h₀ L h' news₂) (hn : n' < n) (hJ : J n' m₂ news₂) : WhileStep2 h₀ L s J Q n .next { s with heap := h', toks := tk } := ⟨h', tk, m₂, news₂, n', rfl, F, N, hn, hJ⟩
theorem step_cont {h₀ h' : Heap} {L : Addr} {s : Shared} {J : Nat → (Str → Option Value) → List (Addr × Obj) → Prop} {Q : Flow → Shared → Prop} {n n' tk : Nat} {m₂ : Str → Option Value} {news₂ : List (Addr × Obj)}
    (F : Fr h₀ L h' m₂) (N : News h₀ L h' news₂) (hn : n' < n) (hJ : J n' m₂ news₂) : WhileStep2 h₀ L s J Q n .cont { s with heap := h', toks := tk } := ⟨h', tk, m₂, news₂, n', rfl, F, N, hn, hJ⟩
theorem step_brk {h₀ : Heap} {L : Addr} {s s' : Shared} {J : Nat → (Str → Option Value) → List (Addr × Obj) → Prop} {Q : Flow → Shared → Prop} {n : Nat} (h : Q .next s') : WhileStep2 h₀ L s J Q n .brk s' := h
section
variable {w : World} {mean : ExcName → Option Value} {mg mb : Str → Option Value} {dp un : Nat} {gd : Option (List Code)} {cn : Str} {cs : Scope} {a : Addr} {ccd : Value} {cl : List (Str × Addr)} {outer : List Env} {A₀ : Around} {base h₀ : Heap} {L : Addr} {m : Str → Option Value} {news : List (Addr × Obj)} {s : Shared} {Q E : Value → Shared → Prop}

theorem siftdown_tells {HA : Addr} {n : Nat} {rest : List (Addr × Obj)} {l : List PK} {pos : Nat} {x : PK} {t0 t1 : Tok}
  (B : Below A₀ base outer h₀) (F : Fr h₀ L s.heap m) (X : (_root_.Mine.hd.heap_1 w.params).In h₀) (N : News h₀ L s.heap news) (T : Top _root_.Mine.hd.view_1 (looseW _root_.Mine.hd.view_1 []) mean mg mb h₀) (hk : cs.kind = .function)
  (hd : dp + 1 < recursionLimit) (hu : un + 20 < cLine) (hn : news = (HA, LObj l n) :: rest) (hna : ∀ p ∈ rest, p.1 ≠ HA) (hpos : l[pos]? = some x) (hlen : l.length ≤ 1000) (hK : HK rest l) (hal : AlikeAll l)
  (hret : ∀ n' h' tk', Fr h₀ L h' m → News h₀ L h' ((HA, LObj (sdown x pos l) n') :: rest) → Q .none { s with heap := h', toks := tk' }) :
    wpAny (model PG w) (ktrTop dp un gd cn cs L a ccd cl outer) (call (.ref 49) [.ref HA, .int 0 t0, .int (pos : Int) t1]) Q E s := by
  subst hn
  (w_top off; have dummyFill : (∀ (_ : PySem.Challenge.rw_il0059_01 = PySem.Challenge.rw_il0059_01) (_ : _root_.Mine.hd.heap_1 = _root_.Mine.hd.heap_1), True) := (by k_fill; intros; trivial); clear dummyFill)
  refine wpAny_call ?_
  k_dflt (refine' code_def ?k1 ?k2 ?k3 ?k4 ?k5 ?kA ?kF ?kK ?k6 ?k7 ?k8 ?k9 ?kB ?_ ?c2 ?c3 ?c4 ?c5; (case kA => exact rfl); (case kF => exact rfl); (case kK => assumption); (case k1 => k_asm); (case k2 => k_asm); (case k3 => k_asm); (case k4 => k_asm); (case k5 => k_asm); (case k6 => k_is); (case k7 => k_is); (case k8 => first | exact rm0 hd | ktr_room); (case k9 => exact BindsTo.of_eq rfl); (case c5 => decide); (case kB => exact locs rfl); (case c2 => exact rfl); (case c3 => exact rfl); (case c4 => exact rfl); k_whole; intro g' L' h' FG' F' N' B' X' T'; (try dsimp only); (try k_fold))
  replace F' : Fr g' L' h' (fun y => if y = Str.ofString "pos" then some (.int (pos : Int) t1) else if y = Str.ofString "startpos" then some (.int 0 t0) else if y = Str.ofString "heap" then some (.ref HA) else none) := fr_map F' (fun y => lookup3 y)
  (repeat' ((fail_if_success (with_reducible first | show wpAny _ _ (pyIter _) _ _ _ | show wpAny _ _ (exec (Stmt.While _ _ _ _) _) _ _ _ | show wpAny _ _ (exec (Stmt.For _ _ _ _ _) _) _ _ _ | show TurnEnd _ _ _ _ _ _ _ | show TurnPost _ _ _ _ _ _ _ _ _ | show WhileStep _ _ _ _ _ _ _ | show WhileStep2 _ _ _ _ _ _ _ _ | show wpAny _ _ (eval (Expr.ListComp _ _ _ _) _) _ _ _ | show wpAny _ _ (exec (Stmt.Assign _ (Expr.ListComp _ _ _ _) _) _) _ _ _ | show wpAny _ _ (call (Value.builtin "sorted") _) _ _ _ | show wpAny _ _ (call (Value.builtin "sum") _) _ _ _ | show wpAny _ _ (call (Value.type "enumerate") _) _ _ _ | show wpAny _ _ (call (Value.type "range") _) _ _ _ | show wpAny _ _ (binaryOp _ (Value.ref _) (Value.ref _)) _ _ _ | show wpAny _ _ (call (Value.ref _) (Value.ref _ :: _)) _ _ _ | show wpAny _ _ (call (Value.ref 178) _) _ _ _)); first | ((with_reducible refine' isq_back ?e9 ?_); (case e9 => with_reducible assumption); (try dsimp only)) | ((with_reducible show wpAny _ _ (exec _ _) _ _ _); (refine gen_exec ?_); intro P9 hP9; walk1) | (k_unfold; (try dsimp only)) | (with_reducible (k_here; (with_reducible show wpAny _ _ (subscriptTail _ _ (Value.ref _) (Value.int _ _)) _ _ _); (k_dflt (refine' lst_at ?qk1 ?qk2 ?qk3 ?qk4 ?qk5 ?_; (case qk1 => k_asm); (case qk2 => k_mem); (case qk3 => first | rfl | assumption | omega); (case qk4 => assumption); (case qk5 => assumption))))) | (with_reducible ((with_reducible show wpAny _ _ (eval (PySem.Expr.Name _ _) _) _ _ _); (k_dflt (refine' ld ?qk1 ?qk2 ?_; (case qk1 => k_asm); (case qk2 => exact rfl); k_whole)))) | walk1 | (dsimp only; walk1)))
  (with_reducible rename Fr _ _ _ _ => F1)
  (with_reducible rename News _ _ _ _ => N1)
  have hposl : pos < l.length := (List.getElem?_eq_some_iff.mp hpos).1
  k_dflt refine' While_invB (fun m0 k m₁ nx => (m₁ (Str.ofString "newitem") = some x.1 ∧ m₁ (Str.ofString "heap") = some (.ref HA) ∧ m₁ (Str.ofString "startpos") = some (.int 0 t0)) ∧ (∃ t, m₁ (Str.ofString "pos") = some (.int (k : Int) t)) ∧
    ∃ l' n', nx = (HA, LObj l' n') :: rest ∧ sdown x k l' = sdown x pos l ∧ l'.length = l.length ∧ (∀ p ∈ l', p ∈ l) ∧ k < l'.length) (n₀ := pos) F1 N1 ?hJ ?turn
  case hJ => exact ⟨⟨rfl, rfl, rfl⟩, ⟨t1, rfl⟩, l, n, rfl, rfl, rfl, fun _ h => h, hposl⟩
  case turn =>
    rintro k m₁ news₁ h₁ tk₁ F2 N2 ⟨⟨hm1, hm2, hm3⟩, ⟨t, hp⟩, l', n', rfl, hR, hl', hin, hk'⟩
    have F3 := fr_known4 F2 hp hm1 hm2 hm3
    clear F2
    have hxin : x ∈ l := List.mem_of_getElem? hpos
    have hlen' : l'.length ≤ 1000 := by omega
    rcases k with _ | k
    · have hR0 : l'.set 0 x = sdown x pos l := by rw [← hR, sdown_zero]
      (repeat' ((fail_if_success (with_reducible first | show wpAny _ _ (pyIter _) _ _ _ | show wpAny _ _ (exec (Stmt.While _ _ _ _) _) _ _ _ | show wpAny _ _ (exec (Stmt.For _ _ _ _ _) _) _ _ _ | show TurnEnd _ _ _ _ _ _ _ | show TurnPost _ _ _ _ _ _ _ _ _ | show WhileStep _ _ _ _ _ _ _ | show WhileStep2 _ _ _ _ _ _ _ _ | show wpAny _ _ (eval (Expr.ListComp _ _ _ _) _) _ _ _ | show wpAny _ _ (exec (Stmt.Assign _ (Expr.ListComp _ _ _ _) _) _) _ _ _ | show wpAny _ _ (call (Value.builtin "sorted") _) _ _ _ | show wpAny _ _ (call (Value.builtin "sum") _) _ _ _ | show wpAny _ _ (call (Value.type "enumerate") _) _ _ _ | show wpAny _ _ (call (Value.type "range") _) _ _ _ | show wpAny _ _ (binaryOp _ (Value.ref _) (Value.ref _)) _ _ _ | show wpAny _ _ (call (Value.ref _) (Value.ref _ :: _)) _ _ _ | show wpAny _ _ (call (Value.ref 178) _) _ _ _)); first | ((with_reducible refine' isq_back ?e9 ?_); (case e9 => with_reducible assumption); (try dsimp only)) | ((with_reducible show wpAny _ _ (exec _ _) _ _ _); (refine gen_exec ?_); intro P9 hP9; walk1) | (k_unfold; (try dsimp only)) | (with_reducible (k_here; (with_reducible show wpAny _ _ (subscriptTail _ _ (Value.ref _) (Value.int _ _)) _ _ _); (k_dflt (refine' lst_at ?qk1 ?qk2 ?qk3 ?qk4 ?qk5 ?_; (case qk1 => k_asm); (case qk2 => k_mem); (case qk3 => first | rfl | assumption | omega); (case qk4 => assumption); (case qk5 => assumption))))) | (with_reducible ((with_reducible show wpAny _ _ (eval (PySem.Expr.Name _ _) _) _ _ _); (k_dflt (refine' ld ?qk1 ?qk2 ?_; (case qk1 => k_asm); (case qk2 => exact rfl); k_whole)))) | walk1 | (dsimp only; walk1)))
      (with_reducible rename Fr _ _ _ _ => F4)
      (with_reducible rename News _ _ _ _ => N4)
      k_dflt refine' lst_set (j := 0) (p := x) F4 N4 hna rfl hlen' hk' ?_
      intro h6 n6 F6 N6
      rw [hR0] at N6
      (repeat' ((fail_if_success (with_reducible first | show wpAny _ _ (pyIter _) _ _ _ | show wpAny _ _ (exec (Stmt.While _ _ _ _) _) _ _ _ | show wpAny _ _ (exec (Stmt.For _ _ _ _ _) _) _ _ _ | show TurnEnd _ _ _ _ _ _ _ | show TurnPost _ _ _ _ _ _ _ _ _ | show WhileStep _ _ _ _ _ _ _ | show WhileStep2 _ _ _ _ _ _ _ _ | show wpAny _ _ (eval (Expr.ListComp _ _ _ _) _) _ _ _ | show wpAny _ _ (exec (Stmt.Assign _ (Expr.ListComp _ _ _ _) _) _) _ _ _ | show wpAny _ _ (call (Value.builtin "sorted") _) _ _ _ | show wpAny _ _ (call (Value.builtin "sum") _) _ _ _ | show wpAny _ _ (call (Value.type "enumerate") _) _ _ _ | show wpAny _ _ (call (Value.type "range") _) _ _ _ | show wpAny _ _ (binaryOp _ (Value.ref _) (Value.ref _)) _ _ _ | show wpAny _ _ (call (Value.ref _) (Value.ref _ :: _)) _ _ _ | show wpAny _ _ (call (Value.ref 178) _) _ _ _)); first | ((with_reducible refine' isq_back ?e9 ?_); (case e9 => with_reducible assumption); (try dsimp only)) | ((with_reducible show wpAny _ _ (exec _ _) _ _ _); (refine gen_exec ?_); intro P9 hP9; walk1) | (k_unfold; (try dsimp only)) | (with_reducible (k_here; (with_reducible show wpAny _ _ (subscriptTail _ _ (Value.ref _) (Value.int _ _)) _ _ _); (k_dflt (refine' lst_at ?qk1 ?qk2 ?qk3 ?qk4 ?qk5 ?_; (case qk1 => k_asm); (case qk2 => k_mem); (case qk3 => first | rfl | assumption | omega); (case qk4 => assumption); (case qk5 => assumption))))) | (with_reducible ((with_reducible show wpAny _ _ (eval (PySem.Expr.Name _ _) _) _ _ _); (k_dflt (refine' ld ?qk1 ?qk2 ?_; (case qk1 => k_asm); (case qk2 => exact rfl); k_whole)))) | walk1 | (dsimp only; walk1)))
      (with_reducible rename Fr _ _ _ _ => F7)
      (with_reducible rename News _ _ _ _ => N7)
      exact hret _ _ _ F7 N7
    · obtain ⟨par, hpar⟩ : ∃ par, l'[k / 2]? = some par := ⟨_, List.getElem?_eq_getElem (by omega)⟩
      have hj := half_at k
      have hpin : par ∈ l := hin _ (List.mem_of_getElem? hpar)
      have hR1 : (if lexLt x.2 par.2 = true then sdown x (k / 2) (l'.set (k + 1) par) else l'.set (k + 1) x) = sdown x pos l := by
        rw [← hR, sdown_succ hpar]
      (repeat' ((fail_if_success (with_reducible first | show wpAny _ _ (pyIter _) _ _ _ | show wpAny _ _ (exec (Stmt.While _ _ _ _) _) _ _ _ | show wpAny _ _ (exec (Stmt.For _ _ _ _ _) _) _ _ _ | show TurnEnd _ _ _ _ _ _ _ | show TurnPost _ _ _ _ _ _ _ _ _ | show WhileStep _ _ _ _ _ _ _ | show WhileStep2 _ _ _ _ _ _ _ _ | show wpAny _ _ (eval (Expr.ListComp _ _ _ _) _) _ _ _ | show wpAny _ _ (exec (Stmt.Assign _ (Expr.ListComp _ _ _ _) _) _) _ _ _ | show wpAny _ _ (call (Value.builtin "sorted") _) _ _ _ | show wpAny _ _ (call (Value.builtin "sum") _) _ _ _ | show wpAny _ _ (call (Value.type "enumerate") _) _ _ _ | show wpAny _ _ (call (Value.type "range") _) _ _ _ | show wpAny _ _ (binaryOp _ (Value.ref _) (Value.ref _)) _ _ _ | show wpAny _ _ (call (Value.ref _) (Value.ref _ :: _)) _ _ _ | show wpAny _ _ (call (Value.ref 178) _) _ _ _)); first | ((with_reducible refine' isq_back ?e9 ?_); (case e9 => with_reducible assumption); (try dsimp only)) | ((with_reducible show wpAny _ _ (exec _ _) _ _ _); (refine gen_exec ?_); intro P9 hP9; walk1) | (k_unfold; (try dsimp only)) | (with_reducible (k_here; (with_reducible show wpAny _ _ (subscriptTail _ _ (Value.ref _) (Value.int _ _)) _ _ _); (k_dflt (refine' lst_at ?qk1 ?qk2 ?qk3 ?qk4 ?qk5 ?_; (case qk1 => k_asm); (case qk2 => k_mem); (case qk3 => first | rfl | assumption | omega); (case qk4 => assumption); (case qk5 => assumption))))) | (with_reducible ((with_reducible show wpAny _ _ (eval (PySem.Expr.Name _ _) _) _ _ _); (k_dflt (refine' ld ?qk1 ?qk2 ?_; (case qk1 => k_asm); (case qk2 => exact rfl); k_whole)))) | walk1 | (dsimp only; walk1)))
      (with_reducible rename Fr _ _ _ _ => F4)
      (with_reducible rename News _ _ _ _ => N4)
      k_dflt refine' lst_lt (p := x) (q := par) (fun p hp => N4 p (.tail _ hp)) hK hal hxin hpin ?hu ?_
      case hu => ktr_units
      (repeat' ((fail_if_success (with_reducible first | show wpAny _ _ (pyIter _) _ _ _ | show wpAny _ _ (exec (Stmt.While _ _ _ _) _) _ _ _ | show wpAny _ _ (exec (Stmt.For _ _ _ _ _) _) _ _ _ | show TurnEnd _ _ _ _ _ _ _ | show TurnPost _ _ _ _ _ _ _ _ _ | show WhileStep _ _ _ _ _ _ _ | show WhileStep2 _ _ _ _ _ _ _ _ | show wpAny _ _ (eval (Expr.ListComp _ _ _ _) _) _ _ _ | show wpAny _ _ (exec (Stmt.Assign _ (Expr.ListComp _ _ _ _) _) _) _ _ _ | show wpAny _ _ (call (Value.builtin "sorted") _) _ _ _ | show wpAny _ _ (call (Value.builtin "sum") _) _ _ _ | show wpAny _ _ (call (Value.type "enumerate") _) _ _ _ | show wpAny _ _ (call (Value.type "range") _) _ _ _ | show wpAny _ _ (binaryOp _ (Value.ref _) (Value.ref _)) _ _ _ | show wpAny _ _ (call (Value.ref _) (Value.ref _ :: _)) _ _ _ | show wpAny _ _ (call (Value.ref 178) _) _ _ _)); first | ((with_reducible refine' isq_back ?e9 ?_); (case e9 => with_reducible assumption); (try dsimp only)) | ((with_reducible show wpAny _ _ (exec _ _) _ _ _); (refine gen_exec ?_); intro P9 hP9; walk1) | (k_unfold; (try dsimp only)) | (with_reducible (k_here; (with_reducible show wpAny _ _ (subscriptTail _ _ (Value.ref _) (Value.int _ _)) _ _ _); (k_dflt (refine' lst_at ?qk1 ?qk2 ?qk3 ?qk4 ?qk5 ?_; (case qk1 => k_asm); (case qk2 => k_mem); (case qk3 => first | rfl | assumption | omega); (case qk4 => assumption); (case qk5 => assumption))))) | (with_reducible ((with_reducible show wpAny _ _ (eval (PySem.Expr.Name _ _) _) _ _ _); (k_dflt (refine' ld ?qk1 ?qk2 ?_; (case qk1 => k_asm); (case qk2 => exact rfl); k_whole)))) | walk1 | (dsimp only; walk1)))
      · (with_reducible rename Fr _ _ _ _ => F5)
        (with_reducible rename News _ _ _ _ => N5)
        k_dflt refine' lst_set (j := k + 1) (p := par) F5 N5 hna rfl hlen' hk' ?_
        intro h6 n6 F6 N6
        (repeat' ((fail_if_success (with_reducible first | show wpAny _ _ (pyIter _) _ _ _ | show wpAny _ _ (exec (Stmt.While _ _ _ _) _) _ _ _ | show wpAny _ _ (exec (Stmt.For _ _ _ _ _) _) _ _ _ | show TurnEnd _ _ _ _ _ _ _ | show TurnPost _ _ _ _ _ _ _ _ _ | show WhileStep _ _ _ _ _ _ _ | show WhileStep2 _ _ _ _ _ _ _ _ | show wpAny _ _ (eval (Expr.ListComp _ _ _ _) _) _ _ _ | show wpAny _ _ (exec (Stmt.Assign _ (Expr.ListComp _ _ _ _) _) _) _ _ _ | show wpAny _ _ (call (Value.builtin "sorted") _) _ _ _ | show wpAny _ _ (call (Value.builtin "sum") _) _ _ _ | show wpAny _ _ (call (Value.type "enumerate") _) _ _ _ | show wpAny _ _ (call (Value.type "range") _) _ _ _ | show wpAny _ _ (binaryOp _ (Value.ref _) (Value.ref _)) _ _ _ | show wpAny _ _ (call (Value.ref _) (Value.ref _ :: _)) _ _ _ | show wpAny _ _ (call (Value.ref 178) _) _ _ _)); first | ((with_reducible refine' isq_back ?e9 ?_); (case e9 => with_reducible assumption); (try dsimp only)) | ((with_reducible show wpAny _ _ (exec _ _) _ _ _); (refine gen_exec ?_); intro P9 hP9; walk1) | (k_unfold; (try dsimp only)) | (with_reducible (k_here; (with_reducible show wpAny _ _ (subscriptTail _ _ (Value.ref _) (Value.int _ _)) _ _ _); (k_dflt (refine' lst_at ?qk1 ?qk2 ?qk3 ?qk4 ?qk5 ?_; (case qk1 => k_asm); (case qk2 => k_mem); (case qk3 => first | rfl | assumption | omega); (case qk4 => assumption); (case qk5 => assumption))))) | (with_reducible ((with_reducible show wpAny _ _ (eval (PySem.Expr.Name _ _) _) _ _ _); (k_dflt (refine' ld ?qk1 ?qk2 ?_; (case qk1 => k_asm); (case qk2 => exact rfl); k_whole)))) | walk1 | (dsimp only; walk1)))
        (with_reducible rename Fr _ _ _ _ => F7)
        (with_reducible rename News _ _ _ _ => N7)
        (try dsimp only)
        refine step_cont (n' := k / 2) F7 N7 (by omega) ⟨⟨rfl, rfl, rfl⟩, ⟨_, (if_pos rfl).trans (congrArg (fun z => some (Value.int z _)) hj)⟩, l'.set (k + 1) par, n6, rfl, ?_, by rw [List.length_set, hl'], fun p hp => ?_, by rw [List.length_set]; omega⟩
        · rw [← hR, sdown_succ hpar, if_pos (by assumption)]
        · rcases List.mem_or_eq_of_mem_set hp with hp | rfl
          · exact hin p hp
          · exact hpin
      · (try dsimp only)
        refine step_brk ?_
        rw [if_neg (by simp_all)] at hR1
        (repeat' ((fail_if_success (with_reducible first | show wpAny _ _ (pyIter _) _ _ _ | show wpAny _ _ (exec (Stmt.While _ _ _ _) _) _ _ _ | show wpAny _ _ (exec (Stmt.For _ _ _ _ _) _) _ _ _ | show TurnEnd _ _ _ _ _ _ _ | show TurnPost _ _ _ _ _ _ _ _ _ | show WhileStep _ _ _ _ _ _ _ | show WhileStep2 _ _ _ _ _ _ _ _ | show wpAny _ _ (eval (Expr.ListComp _ _ _ _) _) _ _ _ | show wpAny _ _ (exec (Stmt.Assign _ (Expr.ListComp _ _ _ _) _) _) _ _ _ | show wpAny _ _ (call (Value.builtin "sorted") _) _ _ _ | show wpAny _ _ (call (Value.builtin "sum") _) _ _ _ | show wpAny _ _ (call (Value.type "enumerate") _) _ _ _ | show wpAny _ _ (call (Value.type "range") _) _ _ _ | show wpAny _ _ (binaryOp _ (Value.ref _) (Value.ref _)) _ _ _ | show wpAny _ _ (call (Value.ref _) (Value.ref _ :: _)) _ _ _ | show wpAny _ _ (call (Value.ref 178) _) _ _ _)); first | ((with_reducible refine' isq_back ?e9 ?_); (case e9 => with_reducible assumption); (try dsimp only)) | ((with_reducible show wpAny _ _ (exec _ _) _ _ _); (refine gen_exec ?_); intro P9 hP9; walk1) | (k_unfold; (try dsimp only)) | (with_reducible (k_here; (with_reducible show wpAny _ _ (subscriptTail _ _ (Value.ref _) (Value.int _ _)) _ _ _); (k_dflt (refine' lst_at ?qk1 ?qk2 ?qk3 ?qk4 ?qk5 ?_; (case qk1 => k_asm); (case qk2 => k_mem); (case qk3 => first | rfl | assumption | omega); (case qk4 => assumption); (case qk5 => assumption))))) | (with_reducible ((with_reducible show wpAny _ _ (eval (PySem.Expr.Name _ _) _) _ _ _); (k_dflt (refine' ld ?qk1 ?qk2 ?_; (case qk1 => k_asm); (case qk2 => exact rfl); k_whole)))) | walk1 | (dsimp only; walk1)))
        (with_reducible rename Fr _ _ _ _ => F5)
        (with_reducible rename News _ _ _ _ => N5)
        k_dflt refine' lst_set (j := k + 1) (p := x) F5 N5 hna rfl hlen' hk' ?_
        intro h6 n6 F6 N6
        rw [hR1] at N6
        (repeat' ((fail_if_success (with_reducible first | show wpAny _ _ (pyIter _) _ _ _ | show wpAny _ _ (exec (Stmt.While _ _ _ _) _) _ _ _ | show wpAny _ _ (exec (Stmt.For _ _ _ _ _) _) _ _ _ | show TurnEnd _ _ _ _ _ _ _ | show TurnPost _ _ _ _ _ _ _ _ _ | show WhileStep _ _ _ _ _ _ _ | show WhileStep2 _ _ _ _ _ _ _ _ | show wpAny _ _ (eval (Expr.ListComp _ _ _ _) _) _ _ _ | show wpAny _ _ (exec (Stmt.Assign _ (Expr.ListComp _ _ _ _) _) _) _ _ _ | show wpAny _ _ (call (Value.builtin "sorted") _) _ _ _ | show wpAny _ _ (call (Value.builtin "sum") _) _ _ _ | show wpAny _ _ (call (Value.type "enumerate") _) _ _ _ | show wpAny _ _ (call (Value.type "range") _) _ _ _ | show wpAny _ _ (binaryOp _ (Value.ref _) (Value.ref _)) _ _ _ | show wpAny _ _ (call (Value.ref _) (Value.ref _ :: _)) _ _ _ | show wpAny _ _ (call (Value.ref 178) _) _ _ _)); first | ((with_reducible refine' isq_back ?e9 ?_); (case e9 => with_reducible assumption); (try dsimp only)) | ((with_reducible show wpAny _ _ (exec _ _) _ _ _); (refine gen_exec ?_); intro P9 hP9; walk1) | (k_unfold; (try dsimp only)) | (with_reducible (k_here; (with_reducible show wpAny _ _ (subscriptTail _ _ (Value.ref _) (Value.int _ _)) _ _ _); (k_dflt (refine' lst_at ?qk1 ?qk2 ?qk3 ?qk4 ?qk5 ?_; (case qk1 => k_asm); (case qk2 => k_mem); (case qk3 => first | rfl | assumption | omega); (case qk4 => assumption); (case qk5 => assumption))))) | (with_reducible ((with_reducible show wpAny _ _ (eval (PySem.Expr.Name _ _) _) _ _ _); (k_dflt (refine' ld ?qk1 ?qk2 ?_; (case qk1 => k_asm); (case qk2 => exact rfl); k_whole)))) | walk1 | (dsimp only; walk1)))
        (with_reducible rename Fr _ _ _ _ => F7)
        (with_reducible rename News _ _ _ _ => N7)
        exact hret _ _ _ F7 N7
end
end

/-! H3 -/
section
open PySem.Calls
noncomputable def pick (l : List PK) (p : Nat) : Nat :=
  match l[2 * p + 1]?, l[2 * p + 2]? with
  | some a, some b => if lexLt a.2 b.2 = true then 2 * p + 1 else 2 * p + 2
  | _, _ => 2 * p + 1
theorem pick_gt (l : List PK) (p : Nat) : p < pick l p := by
  unfold pick
  split
  · split <;> omega
  · omega
theorem pick_le (l : List PK) (p : Nat) (h : 2 * p + 1 < l.length) : pick l p < l.length := by
  unfold pick
  split
  · rename_i a b h1 h2
    have := (List.getElem?_eq_some_iff.mp h2).1
    split <;> omega
  · omega
noncomputable def sup (x : PK) (p : Nat) (l : List PK) : List PK :=
  if h : 2 * p + 1 < l.length then
    match l[pick l p]? with
    | some c => sup x (pick l p) (l.set p c)
    | none => l
  else sdown x p (l.set p x)
termination_by l.length - p
decreasing_by
  have := pick_gt l p
  rw [List.length_set]; omega
theorem sup_end {x : PK} {p : Nat} {l : List PK} (h : ¬ 2 * p + 1 < l.length) : sup x p l = sdown x p (l.set p x) := by rw [sup, dif_neg h]
theorem sup_go {x c : PK} {p : Nat} {l : List PK} (h : 2 * p + 1 < l.length) (hc : l[pick l p]? = some c) : sup x p l = sup x (pick l p) (l.set p c) := by
  rw [sup, dif_pos h, hc]
theorem pick_l {l : List PK} {p : Nat} {a b : PK} (h1 : l[2 * p + 1]? = some a) (h2 : l[2 * p + 2]? = some b) (h : lexLt a.2 b.2 = true) : pick l p = 2 * p + 1 := by unfold pick; rw [h1, h2]; exact if_pos h
theorem pick_r {l : List PK} {p : Nat} {a b : PK} (h1 : l[2 * p + 1]? = some a) (h2 : l[2 * p + 2]? = some b) (h : lexLt a.2 b.2 = false) : pick l p = 2 * p + 2 := by unfold pick; rw [h1, h2]; exact if_neg (by rw [h]; decide)
theorem pick_1 {l : List PK} {p : Nat} (h2 : ¬ 2 * p + 2 < l.length) : pick l p = 2 * p + 1 := by
  unfold pick
  rw [List.getElem?_eq_none (Nat.le_of_not_lt h2)]
  split
  · rename_i h; cases h
  · rfl
theorem sup_pick {x c : PK} {p j : Nat} {l : List PK} (h : 2 * p + 1 < l.length) (hp : pick l p = j) (hc : l[j]? = some c) : sup x p l = sup x j (l.set p c) := by
  subst hp; exact sup_go h hc
section
variable {w : World} {mean : ExcName → Option Value} {mg mb : Str → Option Value} {dp un : Nat} {gd : Option (List Code)} {cn : Str} {cs : Scope} {a : Addr} {ccd : Value} {cl : List (Str × Addr)} {outer : List Env} {A₀ : Around} {base h₀ : Heap} {L : Addr} {m : Str → Option Value} {news : List (Addr × Obj)} {s : Shared} {Q E : Value → Shared → Prop}

theorem siftup_tells {HA : Addr} {n : Nat} {rest : List (Addr × Obj)} {l : List PK} {x : PK} {t0 : Tok}
  (B : Below A₀ base outer h₀) (F : Fr h₀ L s.heap m) (X : (_root_.Mine.hd.heap_1 w.params).In h₀) (N : News h₀ L s.heap news) (T : Top _root_.Mine.hd.view_1 (looseW _root_.Mine.hd.view_1 []) mean mg mb h₀) (hk : cs.kind = .function)
  (hd : dp + 2 < recursionLimit) (hu : un + 40 < cLine) (hn : news = (HA, LObj l n) :: rest) (hna : ∀ p ∈ rest, p.1 ≠ HA) (hpos : l[0]? = some x) (hlen : l.length ≤ 1000) (hK : HK rest l) (hal : AlikeAll l)
  (hret : ∀ n' h' tk', Fr h₀ L h' m → News h₀ L h' ((HA, LObj (sup x 0 l) n') :: rest) → Q .none { s with heap := h', toks := tk' }) :
    wpAny (model PG w) (ktrTop dp un gd cn cs L a ccd cl outer) (call (.ref 56) [.ref HA, .int 0 t0]) Q E s := by
  subst hn
  (w_top off; have dummyFill : (∀ (_ : PySem.Challenge.rw_il0059_01 = PySem.Challenge.rw_il0059_01) (_ : _root_.Mine.hd.heap_1 = _root_.Mine.hd.heap_1), True) := (by k_fill; intros; trivial); clear dummyFill)
  refine wpAny_call ?_
  k_dflt (refine' code_def ?k1 ?k2 ?k3 ?k4 ?k5 ?kA ?kF ?kK ?k6 ?k7 ?k8 ?k9 ?kB ?_ ?c2 ?c3 ?c4 ?c5; (case kA => exact rfl); (case kF => exact rfl); (case kK => assumption); (case k1 => k_asm); (case k2 => k_asm); (case k3 => k_asm); (case k4 => k_asm); (case k5 => k_asm); (case k6 => k_is); (case k7 => k_is); (case k8 => first | exact rm0 hd | ktr_room); (case k9 => exact BindsTo.of_eq rfl); (case c5 => decide); (case kB => exact locs rfl); (case c2 => exact rfl); (case c3 => exact rfl); (case c4 => exact rfl); k_whole; intro g' L' h' FG' F' N' B' X' T'; (try dsimp only); (try k_fold))
  replace F' : Fr g' L' h' (fun y => if y = Str.ofString "pos" then some (.int 0 t0) else if y = Str.ofString "heap" then some (.ref HA) else none) := fr_map F' (fun y => lookup2 y)
  have hl0 : 0 < l.length := (List.getElem?_eq_some_iff.mp hpos).1
  (repeat' ((fail_if_success (with_reducible first | show wpAny _ _ (pyIter _) _ _ _ | show wpAny _ _ (exec (Stmt.While _ _ _ _) _) _ _ _ | show wpAny _ _ (exec (Stmt.For _ _ _ _ _) _) _ _ _ | show TurnEnd _ _ _ _ _ _ _ | show TurnPost _ _ _ _ _ _ _ _ _ | show WhileStep _ _ _ _ _ _ _ | show WhileStep2 _ _ _ _ _ _ _ _ | show wpAny _ _ (eval (Expr.ListComp _ _ _ _) _) _ _ _ | show wpAny _ _ (exec (Stmt.Assign _ (Expr.ListComp _ _ _ _) _) _) _ _ _ | show wpAny _ _ (call (Value.builtin "sorted") _) _ _ _ | show wpAny _ _ (call (Value.builtin "sum") _) _ _ _ | show wpAny _ _ (call (Value.type "enumerate") _) _ _ _ | show wpAny _ _ (call (Value.type "range") _) _ _ _ | show wpAny _ _ (binaryOp _ (Value.ref _) (Value.ref _)) _ _ _ | show wpAny _ _ (call (Value.ref _) (Value.ref _ :: _)) _ _ _ | show wpAny _ _ (call (Value.ref 178) _) _ _ _)); first | ((with_reducible refine' isq_back ?e9 ?_); (case e9 => with_reducible assumption); (try dsimp only)) | ((with_reducible show wpAny _ _ (exec _ _) _ _ _); (refine gen_exec ?_); intro P9 hP9; walk1) | (k_unfold; (try dsimp only)) | (with_reducible (k_here; (with_reducible show wpAny _ _ (truthy (Value.ref _)) _ _ _); (k_dflt (refine' lst_truthy ?qk1 ?qk2 ?qk4 ?_; (case qk1 => k_asm); (case qk2 => k_mem); (case qk4 => assumption); k_whole)); intro _)) | (with_reducible (k_here; (with_reducible show wpAny _ _ (call (Value.builtin "len") [Value.ref _]) _ _ _); (k_dflt (refine' lst_len ?qk1 ?qk2 ?qk4 ?_; (case qk1 => k_asm); (case qk2 => k_mem); (case qk4 => assumption); k_whole)); intro _ _)) | (with_reducible (k_here; (with_reducible show wpAny _ _ (subscriptTail _ _ (Value.ref _) (Value.int _ _)) _ _ _); (k_dflt (refine' lst_at ?qk1 ?qk2 ?qk3 ?qk4 ?qk5 ?_; (case qk1 => k_asm); (case qk2 => k_mem); (case qk3 => first | rfl | assumption | omega); (case qk4 => assumption); (case qk5 => assumption))))) | (with_reducible ((with_reducible show wpAny _ _ (eval (PySem.Expr.Name _ _) _) _ _ _); (k_dflt (refine' ld ?qk1 ?qk2 ?_; (case qk1 => k_asm); (case qk2 => exact rfl); k_whole)))) | walk1 | (dsimp only; walk1)))
  (with_reducible rename Fr _ _ _ _ => F1)
  (with_reducible rename News _ _ _ _ => N1)
  have hxin : x ∈ l := List.mem_of_getElem? hpos
  (refine gen_exec ?_); intro P8 hP8
  k_dflt refine' While_invM (fun m0 k m₁ nx => ∃ p, k = l.length - p ∧ (m₁ (Str.ofString "newitem") = some x.1 ∧ m₁ (Str.ofString "heap") = some (.ref HA) ∧ (∃ t, m₁ (Str.ofString "startpos") = some (.int 0 t)) ∧ ∃ t, m₁ (Str.ofString "endpos") = some (.int (l.length : Int) t)) ∧
    (∃ t, m₁ (Str.ofString "pos") = some (.int (p : Int) t)) ∧ (∃ t, m₁ (Str.ofString "childpos") = some (.int ((2 * p + 1 : Nat) : Int) t)) ∧
    ∃ l' n', nx = (HA, LObj l' n') :: rest ∧ sup x p l' = sup x 0 l ∧ l'.length = l.length ∧ (∀ p ∈ l', p ∈ l) ∧ p < l'.length) (n₀ := l.length) F1 N1 ?hJ ?turn
  case hJ => exact ⟨0, rfl, ⟨rfl, rfl, ⟨_, rfl⟩, ⟨_, rfl⟩⟩, ⟨_, rfl⟩, ⟨_, rfl⟩, l, n, rfl, rfl, rfl, fun _ h => h, hl0⟩
  case turn =>
    rintro k m₁ news₁ h₁ tk₁ F2 N2 ⟨p, rfl, ⟨hm1, hm2, ⟨t3, hm3⟩, ⟨t4, hm4⟩⟩, ⟨t5, hm5⟩, ⟨t6, hm6⟩, l', n', rfl, hR, hl', hin, hp⟩
    have F3 := fr_known6 F2 hm1 hm2 hm3 hm4 hm5 hm6
    clear F2
    have hlen' : l'.length ≤ 1000 := by omega
    have hj2 : ((2 * p + 1 : Nat) : Int) + 1 = ((2 * p + 2 : Nat) : Int) := by omega
    by_cases hc1 : 2 * p + 1 < l'.length
    · obtain ⟨pc, hpc⟩ : ∃ pc, l'[2 * p + 1]? = some pc := ⟨_, List.getElem?_eq_getElem hc1⟩
      have hpcin : pc ∈ l := hin _ (List.mem_of_getElem? hpc)
      have hc1' : ((2 * p + 1 : Nat) : Int) < (l.length : Int) := by omega
      by_cases hc2 : 2 * p + 2 < l'.length
      · obtain ⟨pr, hpr⟩ : ∃ pr, l'[2 * p + 2]? = some pr := ⟨_, List.getElem?_eq_getElem hc2⟩
        have hprin : pr ∈ l := hin _ (List.mem_of_getElem? hpr)
        have hc2' : ((2 * p + 1 : Nat) : Int) + 1 < (l.length : Int) := by omega
        (repeat' ((fail_if_success (with_reducible first | show wpAny _ _ (pyIter _) _ _ _ | show wpAny _ _ (exec (Stmt.While _ _ _ _) _) _ _ _ | show wpAny _ _ (exec (Stmt.For _ _ _ _ _) _) _ _ _ | show TurnEnd _ _ _ _ _ _ _ | show TurnPost _ _ _ _ _ _ _ _ _ | show WhileStep _ _ _ _ _ _ _ | show WhileStep2 _ _ _ _ _ _ _ _ | show wpAny _ _ (eval (Expr.ListComp _ _ _ _) _) _ _ _ | show wpAny _ _ (exec (Stmt.Assign _ (Expr.ListComp _ _ _ _) _) _) _ _ _ | show wpAny _ _ (call (Value.builtin "sorted") _) _ _ _ | show wpAny _ _ (call (Value.builtin "sum") _) _ _ _ | show wpAny _ _ (call (Value.type "enumerate") _) _ _ _ | show wpAny _ _ (call (Value.type "range") _) _ _ _ | show wpAny _ _ (binaryOp _ (Value.ref _) (Value.ref _)) _ _ _ | show wpAny _ _ (call (Value.ref _) (Value.ref _ :: _)) _ _ _ | show wpAny _ _ (call (Value.ref 178) _) _ _ _)); first | ((with_reducible refine' isq_back ?e9 ?_); (case e9 => with_reducible assumption); (try dsimp only)) | ((with_reducible show wpAny _ _ (exec _ _) _ _ _); (refine gen_exec ?_); intro P9 hP9; walk1) | (k_unfold; (try dsimp only)) | (with_reducible (k_here; (with_reducible show wpAny _ _ (truthy (Value.ref _)) _ _ _); (k_dflt (refine' lst_truthy ?qk1 ?qk2 ?qk4 ?_; (case qk1 => k_asm); (case qk2 => k_mem); (case qk4 => assumption); k_whole)); intro _)) | (with_reducible (k_here; (with_reducible show wpAny _ _ (call (Value.builtin "len") [Value.ref _]) _ _ _); (k_dflt (refine' lst_len ?qk1 ?qk2 ?qk4 ?_; (case qk1 => k_asm); (case qk2 => k_mem); (case qk4 => assumption); k_whole)); intro _ _)) | (with_reducible (k_here; (with_reducible show wpAny _ _ (subscriptTail _ _ (Value.ref _) (Value.int _ _)) _ _ _); (k_dflt (refine' lst_at ?qk1 ?qk2 ?qk3 ?qk4 ?qk5 ?_; (case qk1 => k_asm); (case qk2 => k_mem); (case qk3 => first | rfl | assumption | omega); (case qk4 => assumption); (case qk5 => assumption))))) | (with_reducible ((with_reducible show wpAny _ _ (eval (PySem.Expr.Name _ _) _) _ _ _); (k_dflt (refine' ld ?qk1 ?qk2 ?_; (case qk1 => k_asm); (case qk2 => exact rfl); k_whole)))) | walk1 | (dsimp only; walk1)))
        (with_reducible rename Fr _ _ _ _ => F4)
        (with_reducible rename News _ _ _ _ => N4)
        k_dflt refine' lst_lt (p := pc) (q := pr) (fun p hp => N4 p (.tail _ hp)) hK hal hpcin hprin ?hu ?_
        case hu => ktr_units
        cases hlt : lexLt pc.2 pr.2
        · have hS := sup_pick (x := x) hc1 (pick_r hpc hpr hlt) hpr
          (repeat' ((fail_if_success (with_reducible first | show wpAny _ _ (pyIter _) _ _ _ | show wpAny _ _ (exec (Stmt.While _ _ _ _) _) _ _ _ | show wpAny _ _ (exec (Stmt.For _ _ _ _ _) _) _ _ _ | show TurnEnd _ _ _ _ _ _ _ | show TurnPost _ _ _ _ _ _ _ _ _ | show WhileStep _ _ _ _ _ _ _ | show WhileStep2 _ _ _ _ _ _ _ _ | show wpAny _ _ (eval (Expr.ListComp _ _ _ _) _) _ _ _ | show wpAny _ _ (exec (Stmt.Assign _ (Expr.ListComp _ _ _ _) _) _) _ _ _ | show wpAny _ _ (call (Value.builtin "sorted") _) _ _ _ | show wpAny _ _ (call (Value.builtin "sum") _) _ _ _ | show wpAny _ _ (call (Value.type "enumerate") _) _ _ _ | show wpAny _ _ (call (Value.type "range") _) _ _ _ | show wpAny _ _ (binaryOp _ (Value.ref _) (Value.ref _)) _ _ _ | show wpAny _ _ (call (Value.ref _) (Value.ref _ :: _)) _ _ _ | show wpAny _ _ (call (Value.ref 178) _) _ _ _)); first | ((with_reducible refine' isq_back ?e9 ?_); (case e9 => with_reducible assumption); (try dsimp only)) | ((with_reducible show wpAny _ _ (exec _ _) _ _ _); (refine gen_exec ?_); intro P9 hP9; walk1) | (k_unfold; (try dsimp only)) | (with_reducible (k_here; (with_reducible show wpAny _ _ (truthy (Value.ref _)) _ _ _); (k_dflt (refine' lst_truthy ?qk1 ?qk2 ?qk4 ?_; (case qk1 => k_asm); (case qk2 => k_mem); (case qk4 => assumption); k_whole)); intro _)) | (with_reducible (k_here; (with_reducible show wpAny _ _ (call (Value.builtin "len") [Value.ref _]) _ _ _); (k_dflt (refine' lst_len ?qk1 ?qk2 ?qk4 ?_; (case qk1 => k_asm); (case qk2 => k_mem); (case qk4 => assumption); k_whole)); intro _ _)) | (with_reducible (k_here; (with_reducible show wpAny _ _ (subscriptTail _ _ (Value.ref _) (Value.int _ _)) _ _ _); (k_dflt (refine' lst_at ?qk1 ?qk2 ?qk3 ?qk4 ?qk5 ?_; (case qk1 => k_asm); (case qk2 => k_mem); (case qk3 => first | rfl | assumption | omega); (case qk4 => assumption); (case qk5 => assumption))))) | (with_reducible ((with_reducible show wpAny _ _ (eval (PySem.Expr.Name _ _) _) _ _ _); (k_dflt (refine' ld ?qk1 ?qk2 ?_; (case qk1 => k_asm); (case qk2 => exact rfl); k_whole)))) | walk1 | (dsimp only; walk1)))
          (with_reducible rename Fr _ _ _ _ => F5)
          (with_reducible rename News _ _ _ _ => N5)
          k_dflt refine' lst_set (j := p) (p := pr) F5 N5 hna rfl hlen' hp ?_
          intro h6 n6 F6 N6
          (repeat' ((fail_if_success (with_reducible first | show wpAny _ _ (pyIter _) _ _ _ | show wpAny _ _ (exec (Stmt.While _ _ _ _) _) _ _ _ | show wpAny _ _ (exec (Stmt.For _ _ _ _ _) _) _ _ _ | show TurnEnd _ _ _ _ _ _ _ | show TurnPost _ _ _ _ _ _ _ _ _ | show WhileStep _ _ _ _ _ _ _ | show WhileStep2 _ _ _ _ _ _ _ _ | show wpAny _ _ (eval (Expr.ListComp _ _ _ _) _) _ _ _ | show wpAny _ _ (exec (Stmt.Assign _ (Expr.ListComp _ _ _ _) _) _) _ _ _ | show wpAny _ _ (call (Value.builtin "sorted") _) _ _ _ | show wpAny _ _ (call (Value.builtin "sum") _) _ _ _ | show wpAny _ _ (call (Value.type "enumerate") _) _ _ _ | show wpAny _ _ (call (Value.type "range") _) _ _ _ | show wpAny _ _ (binaryOp _ (Value.ref _) (Value.ref _)) _ _ _ | show wpAny _ _ (call (Value.ref _) (Value.ref _ :: _)) _ _ _ | show wpAny _ _ (call (Value.ref 178) _) _ _ _)); first | ((with_reducible refine' isq_back ?e9 ?_); (case e9 => with_reducible assumption); (try dsimp only)) | ((with_reducible show wpAny _ _ (exec _ _) _ _ _); (refine gen_exec ?_); intro P9 hP9; walk1) | (k_unfold; (try dsimp only)) | (with_reducible (k_here; (with_reducible show wpAny _ _ (truthy (Value.ref _)) _ _ _); (k_dflt (refine' lst_truthy ?qk1 ?qk2 ?qk4 ?_; (case qk1 => k_asm); (case qk2 => k_mem); (case qk4 => assumption); k_whole)); intro _)) | (with_reducible (k_here; (with_reducible show wpAny _ _ (call (Value.builtin "len") [Value.ref _]) _ _ _); (k_dflt (refine' lst_len ?qk1 ?qk2 ?qk4 ?_; (case qk1 => k_asm); (case qk2 => k_mem); (case qk4 => assumption); k_whole)); intro _ _)) | (with_reducible (k_here; (with_reducible show wpAny _ _ (subscriptTail _ _ (Value.ref _) (Value.int _ _)) _ _ _); (k_dflt (refine' lst_at ?qk1 ?qk2 ?qk3 ?qk4 ?qk5 ?_; (case qk1 => k_asm); (case qk2 => k_mem); (case qk3 => first | rfl | assumption | omega); (case qk4 => assumption); (case qk5 => assumption))))) | (with_reducible ((with_reducible show wpAny _ _ (eval (PySem.Expr.Name _ _) _) _ _ _); (k_dflt (refine' ld ?qk1 ?qk2 ?_; (case qk1 => k_asm); (case qk2 => exact rfl); k_whole)))) | walk1 | (dsimp only; walk1)))
          (with_reducible rename Fr _ _ _ _ => F7)
          (with_reducible rename News _ _ _ _ => N7)
          refine WhileStep.intro (n' := l.length - (2 * p + 2)) F7 N7 (by omega) ⟨2 * p + 2, rfl, ⟨rfl, rfl, ⟨_, rfl⟩, ⟨_, rfl⟩⟩, ⟨_, (if_neg (by decide)).trans ((if_pos rfl).trans (congrArg (fun z => some (Value.int z _)) hj2))⟩, ⟨_, (if_pos rfl).trans (congrArg (fun z => some (Value.int z _)) ?_)⟩, l'.set p pr, n6, rfl, ?_, by rw [List.length_set, hl'], fun q hq => ?_, by rw [List.length_set]; omega⟩
          · omega
          · rw [← hS, hR]
          · rcases List.mem_or_eq_of_mem_set hq with hq | rfl
            · exact hin q hq
            · exact hprin
        · have hS := sup_pick (x := x) hc1 (pick_l hpc hpr hlt) hpc
          (repeat' ((fail_if_success (with_reducible first | show wpAny _ _ (pyIter _) _ _ _ | show wpAny _ _ (exec (Stmt.While _ _ _ _) _) _ _ _ | show wpAny _ _ (exec (Stmt.For _ _ _ _ _) _) _ _ _ | show TurnEnd _ _ _ _ _ _ _ | show TurnPost _ _ _ _ _ _ _ _ _ | show WhileStep _ _ _ _ _ _ _ | show WhileStep2 _ _ _ _ _ _ _ _ | show wpAny _ _ (eval (Expr.ListComp _ _ _ _) _) _ _ _ | show wpAny _ _ (exec (Stmt.Assign _ (Expr.ListComp _ _ _ _) _) _) _ _ _ | show wpAny _ _ (call (Value.builtin "sorted") _) _ _ _ | show wpAny _ _ (call (Value.builtin "sum") _) _ _ _ | show wpAny _ _ (call (Value.type "enumerate") _) _ _ _ | show wpAny _ _ (call (Value.type "range") _) _ _ _ | show wpAny _ _ (binaryOp _ (Value.ref _) (Value.ref _)) _ _ _ | show wpAny _ _ (call (Value.ref _) (Value.ref _ :: _)) _ _ _ | show wpAny _ _ (call (Value.ref 178) _) _ _ _)); first | ((with_reducible refine' isq_back ?e9 ?_); (case e9 => with_reducible assumption); (try dsimp only)) | ((with_reducible show wpAny _ _ (exec _ _) _ _ _); (refine gen_exec ?_); intro P9 hP9; walk1) | (k_unfold; (try dsimp only)) | (with_reducible (k_here; (with_reducible show wpAny _ _ (truthy (Value.ref _)) _ _ _); (k_dflt (refine' lst_truthy ?qk1 ?qk2 ?qk4 ?_; (case qk1 => k_asm); (case qk2 => k_mem); (case qk4 => assumption); k_whole)); intro _)) | (with_reducible (k_here; (with_reducible show wpAny _ _ (call (Value.builtin "len") [Value.ref _]) _ _ _); (k_dflt (refine' lst_len ?qk1 ?qk2 ?qk4 ?_; (case qk1 => k_asm); (case qk2 => k_mem); (case qk4 => assumption); k_whole)); intro _ _)) | (with_reducible (k_here; (with_reducible show wpAny _ _ (subscriptTail _ _ (Value.ref _) (Value.int _ _)) _ _ _); (k_dflt (refine' lst_at ?qk1 ?qk2 ?qk3 ?qk4 ?qk5 ?_; (case qk1 => k_asm); (case qk2 => k_mem); (case qk3 => first | rfl | assumption | omega); (case qk4 => assumption); (case qk5 => assumption))))) | (with_reducible ((with_reducible show wpAny _ _ (eval (PySem.Expr.Name _ _) _) _ _ _); (k_dflt (refine' ld ?qk1 ?qk2 ?_; (case qk1 => k_asm); (case qk2 => exact rfl); k_whole)))) | walk1 | (dsimp only; walk1)))
          (with_reducible rename Fr _ _ _ _ => F5)
          (with_reducible rename News _ _ _ _ => N5)
          k_dflt refine' lst_set (j := p) (p := pc) F5 N5 hna rfl hlen' hp ?_
          intro h6 n6 F6 N6
          (repeat' ((fail_if_success (with_reducible first | show wpAny _ _ (pyIter _) _ _ _ | show wpAny _ _ (exec (Stmt.While _ _ _ _) _) _ _ _ | show wpAny _ _ (exec (Stmt.For _ _ _ _ _) _) _ _ _ | show TurnEnd _ _ _ _ _ _ _ | show TurnPost _ _ _ _ _ _ _ _ _ | show WhileStep _ _ _ _ _ _ _ | show WhileStep2 _ _ _ _ _ _ _ _ | show wpAny _ _ (eval (Expr.ListComp _ _ _ _) _) _ _ _ | show wpAny _ _ (exec (Stmt.Assign _ (Expr.ListComp _ _ _ _) _) _) _ _ _ | show wpAny _ _ (call (Value.builtin "sorted") _) _ _ _ | show wpAny _ _ (call (Value.builtin "sum") _) _ _ _ | show wpAny _ _ (call (Value.type "enumerate") _) _ _ _ | show wpAny _ _ (call (Value.type "range") _) _ _ _ | show wpAny _ _ (binaryOp _ (Value.ref _) (Value.ref _)) _ _ _ | show wpAny _ _ (call (Value.ref _) (Value.ref _ :: _)) _ _ _ | show wpAny _ _ (call (Value.ref 178) _) _ _ _)); first | ((with_reducible refine' isq_back ?e9 ?_); (case e9 => with_reducible assumption); (try dsimp only)) | ((with_reducible show wpAny _ _ (exec _ _) _ _ _); (refine gen_exec ?_); intro P9 hP9; walk1) | (k_unfold; (try dsimp only)) | (with_reducible (k_here; (with_reducible show wpAny _ _ (truthy (Value.ref _)) _ _ _); (k_dflt (refine' lst_truthy ?qk1 ?qk2 ?qk4 ?_; (case qk1 => k_asm); (case qk2 => k_mem); (case qk4 => assumption); k_whole)); intro _)) | (with_reducible (k_here; (with_reducible show wpAny _ _ (call (Value.builtin "len") [Value.ref _]) _ _ _); (k_dflt (refine' lst_len ?qk1 ?qk2 ?qk4 ?_; (case qk1 => k_asm); (case qk2 => k_mem); (case qk4 => assumption); k_whole)); intro _ _)) | (with_reducible (k_here; (with_reducible show wpAny _ _ (subscriptTail _ _ (Value.ref _) (Value.int _ _)) _ _ _); (k_dflt (refine' lst_at ?qk1 ?qk2 ?qk3 ?qk4 ?qk5 ?_; (case qk1 => k_asm); (case qk2 => k_mem); (case qk3 => first | rfl | assumption | omega); (case qk4 => assumption); (case qk5 => assumption))))) | (with_reducible ((with_reducible show wpAny _ _ (eval (PySem.Expr.Name _ _) _) _ _ _); (k_dflt (refine' ld ?qk1 ?qk2 ?_; (case qk1 => k_asm); (case qk2 => exact rfl); k_whole)))) | walk1 | (dsimp only; walk1)))
          (with_reducible rename Fr _ _ _ _ => F7)
          (with_reducible rename News _ _ _ _ => N7)
          refine WhileStep.intro (n' := l.length - (2 * p + 1)) F7 N7 (by omega) ⟨2 * p + 1, rfl, ⟨rfl, rfl, ⟨_, rfl⟩, ⟨_, rfl⟩⟩, ⟨_, rfl⟩, ⟨_, (if_pos rfl).trans (congrArg (fun z => some (Value.int z _)) ?_)⟩, l'.set p pc, n6, rfl, ?_, by rw [List.length_set, hl'], fun q hq => ?_, by rw [List.length_set]; omega⟩
          · omega
          · rw [← hS, hR]
          · rcases List.mem_or_eq_of_mem_set hq with hq | rfl
            · exact hin q hq
            · exact hpcin
      · have hc2' : ¬ ((2 * p + 1 : Nat) : Int) + 1 < (l.length : Int) := by omega
        have hS := sup_pick (x := x) hc1 (pick_1 hc2) hpc
        (repeat' ((fail_if_success (with_reducible first | show wpAny _ _ (pyIter _) _ _ _ | show wpAny _ _ (exec (Stmt.While _ _ _ _) _) _ _ _ | show wpAny _ _ (exec (Stmt.For _ _ _ _ _) _) _ _ _ | show TurnEnd _ _ _ _ _ _ _ | show TurnPost _ _ _ _ _ _ _ _ _ | show WhileStep _ _ _ _ _ _ _ | show WhileStep2 _ _ _ _ _ _ _ _ | show wpAny _ _ (eval (Expr.ListComp _ _ _ _) _) _ _ _ | show wpAny _ _ (exec (Stmt.Assign _ (Expr.ListComp _ _ _ _) _) _) _ _ _ | show wpAny _ _ (call (Value.builtin "sorted") _) _ _ _ | show wpAny _ _ (call (Value.builtin "sum") _) _ _ _ | show wpAny _ _ (call (Value.type "enumerate") _) _ _ _ | show wpAny _ _ (call (Value.type "range") _) _ _ _ | show wpAny _ _ (binaryOp _ (Value.ref _) (Value.ref _)) _ _ _ | show wpAny _ _ (call (Value.ref _) (Value.ref _ :: _)) _ _ _ | show wpAny _ _ (call (Value.ref 178) _) _ _ _)); first | ((with_reducible refine' isq_back ?e9 ?_); (case e9 => with_reducible assumption); (try dsimp only)) | ((with_reducible show wpAny _ _ (exec _ _) _ _ _); (refine gen_exec ?_); intro P9 hP9; walk1) | (k_unfold; (try dsimp only)) | (with_reducible (k_here; (with_reducible show wpAny _ _ (truthy (Value.ref _)) _ _ _); (k_dflt (refine' lst_truthy ?qk1 ?qk2 ?qk4 ?_; (case qk1 => k_asm); (case qk2 => k_mem); (case qk4 => assumption); k_whole)); intro _)) | (with_reducible (k_here; (with_reducible show wpAny _ _ (call (Value.builtin "len") [Value.ref _]) _ _ _); (k_dflt (refine' lst_len ?qk1 ?qk2 ?qk4 ?_; (case qk1 => k_asm); (case qk2 => k_mem); (case qk4 => assumption); k_whole)); intro _ _)) | (with_reducible (k_here; (with_reducible show wpAny _ _ (subscriptTail _ _ (Value.ref _) (Value.int _ _)) _ _ _); (k_dflt (refine' lst_at ?qk1 ?qk2 ?qk3 ?qk4 ?qk5 ?_; (case qk1 => k_asm); (case qk2 => k_mem); (case qk3 => first | rfl | assumption | omega); (case qk4 => assumption); (case qk5 => assumption))))) | (with_reducible ((with_reducible show wpAny _ _ (eval (PySem.Expr.Name _ _) _) _ _ _); (k_dflt (refine' ld ?qk1 ?qk2 ?_; (case qk1 => k_asm); (case qk2 => exact rfl); k_whole)))) | walk1 | (dsimp only; walk1)))
        (with_reducible rename Fr _ _ _ _ => F5)
        (with_reducible rename News _ _ _ _ => N5)
        k_dflt refine' lst_set (j := p) (p := pc) F5 N5 hna rfl hlen' hp ?_
        intro h6 n6 F6 N6
        (repeat' ((fail_if_success (with_reducible first | show wpAny _ _ (pyIter _) _ _ _ | show wpAny _ _ (exec (Stmt.While _ _ _ _) _) _ _ _ | show wpAny _ _ (exec (Stmt.For _ _ _ _ _) _) _ _ _ | show TurnEnd _ _ _ _ _ _ _ | show TurnPost _ _ _ _ _ _ _ _ _ | show WhileStep _ _ _ _ _ _ _ | show WhileStep2 _ _ _ _ _ _ _ _ | show wpAny _ _ (eval (Expr.ListComp _ _ _ _) _) _ _ _ | show wpAny _ _ (exec (Stmt.Assign _ (Expr.ListComp _ _ _ _) _) _) _ _ _ | show wpAny _ _ (call (Value.builtin "sorted") _) _ _ _ | show wpAny _ _ (call (Value.builtin "sum") _) _ _ _ | show wpAny _ _ (call (Value.type "enumerate") _) _ _ _ | show wpAny _ _ (call (Value.type "range") _) _ _ _ | show wpAny _ _ (binaryOp _ (Value.ref _) (Value.ref _)) _ _ _ | show wpAny _ _ (call (Value.ref _) (Value.ref _ :: _)) _ _ _ | show wpAny _ _ (call (Value.ref 178) _) _ _ _)); first | ((with_reducible refine' isq_back ?e9 ?_); (case e9 => with_reducible assumption); (try dsimp only)) | ((with_reducible show wpAny _ _ (exec _ _) _ _ _); (refine gen_exec ?_); intro P9 hP9; walk1) | (k_unfold; (try dsimp only)) | (with_reducible (k_here; (with_reducible show wpAny _ _ (truthy (Value.ref _)) _ _ _); (k_dflt (refine' lst_truthy ?qk1 ?qk2 ?qk4 ?_; (case qk1 => k_asm); (case qk2 => k_mem); (case qk4 => assumption); k_whole)); intro _)) | (with_reducible (k_here; (with_reducible show wpAny _ _ (call (Value.builtin "len") [Value.ref _]) _ _ _); (k_dflt (refine' lst_len ?qk1 ?qk2 ?qk4 ?_; (case qk1 => k_asm); (case qk2 => k_mem); (case qk4 => assumption); k_whole)); intro _ _)) | (with_reducible (k_here; (with_reducible show wpAny _ _ (subscriptTail _ _ (Value.ref _) (Value.int _ _)) _ _ _); (k_dflt (refine' lst_at ?qk1 ?qk2 ?qk3 ?qk4 ?qk5 ?_; (case qk1 => k_asm); (case qk2 => k_mem); (case qk3 => first | rfl | assumption | omega); (case qk4 => assumption); (case qk5 => assumption))))) | (with_reducible ((with_reducible show wpAny _ _ (eval (PySem.Expr.Name _ _) _) _ _ _); (k_dflt (refine' ld ?qk1 ?qk2 ?_; (case qk1 => k_asm); (case qk2 => exact rfl); k_whole)))) | walk1 | (dsimp only; walk1)))
        (with_reducible rename Fr _ _ _ _ => F7)
        (with_reducible rename News _ _ _ _ => N7)
        refine WhileStep.intro (n' := l.length - (2 * p + 1)) F7 N7 (by omega) ⟨2 * p + 1, rfl, ⟨rfl, rfl, ⟨_, rfl⟩, ⟨_, rfl⟩⟩, ⟨_, rfl⟩, ⟨_, (if_pos rfl).trans (congrArg (fun z => some (Value.int z _)) ?_)⟩, l'.set p pc, n6, rfl, ?_, by rw [List.length_set, hl'], fun q hq => ?_, by rw [List.length_set]; omega⟩
        · omega
        · rw [← hS, hR]
        · rcases List.mem_or_eq_of_mem_set hq with hq | rfl
          · exact hin q hq
          · exact hpcin
    · have hc1' : ¬ ((2 * p + 1 : Nat) : Int) < (l.length : Int) := by omega
      have hS := sup_end (x := x) hc1
      (repeat' ((fail_if_success (with_reducible first | show wpAny _ _ (pyIter _) _ _ _ | show wpAny _ _ (exec (Stmt.While _ _ _ _) _) _ _ _ | show wpAny _ _ (exec (Stmt.For _ _ _ _ _) _) _ _ _ | show TurnEnd _ _ _ _ _ _ _ | show TurnPost _ _ _ _ _ _ _ _ _ | show WhileStep _ _ _ _ _ _ _ | show WhileStep2 _ _ _ _ _ _ _ _ | show wpAny _ _ (eval (Expr.ListComp _ _ _ _) _) _ _ _ | show wpAny _ _ (exec (Stmt.Assign _ (Expr.ListComp _ _ _ _) _) _) _ _ _ | show wpAny _ _ (call (Value.builtin "sorted") _) _ _ _ | show wpAny _ _ (call (Value.builtin "sum") _) _ _ _ | show wpAny _ _ (call (Value.type "enumerate") _) _ _ _ | show wpAny _ _ (call (Value.type "range") _) _ _ _ | show wpAny _ _ (binaryOp _ (Value.ref _) (Value.ref _)) _ _ _ | show wpAny _ _ (call (Value.ref _) (Value.ref _ :: _)) _ _ _ | show wpAny _ _ (call (Value.ref 178) _) _ _ _)); first | ((with_reducible refine' isq_back ?e9 ?_); (case e9 => with_reducible assumption); (try dsimp only)) | ((with_reducible show wpAny _ _ (exec _ _) _ _ _); (refine gen_exec ?_); intro P9 hP9; walk1) | (k_unfold; (try dsimp only)) | (with_reducible (k_here; (with_reducible show wpAny _ _ (truthy (Value.ref _)) _ _ _); (k_dflt (refine' lst_truthy ?qk1 ?qk2 ?qk4 ?_; (case qk1 => k_asm); (case qk2 => k_mem); (case qk4 => assumption); k_whole)); intro _)) | (with_reducible (k_here; (with_reducible show wpAny _ _ (call (Value.builtin "len") [Value.ref _]) _ _ _); (k_dflt (refine' lst_len ?qk1 ?qk2 ?qk4 ?_; (case qk1 => k_asm); (case qk2 => k_mem); (case qk4 => assumption); k_whole)); intro _ _)) | (with_reducible (k_here; (with_reducible show wpAny _ _ (subscriptTail _ _ (Value.ref _) (Value.int _ _)) _ _ _); (k_dflt (refine' lst_at ?qk1 ?qk2 ?qk3 ?qk4 ?qk5 ?_; (case qk1 => k_asm); (case qk2 => k_mem); (case qk3 => first | rfl | assumption | omega); (case qk4 => assumption); (case qk5 => assumption))))) | (with_reducible ((with_reducible show wpAny _ _ (eval (PySem.Expr.Name _ _) _) _ _ _); (k_dflt (refine' ld ?qk1 ?qk2 ?_; (case qk1 => k_asm); (case qk2 => exact rfl); k_whole)))) | walk1 | (dsimp only; walk1)))
      (with_reducible rename Fr _ _ _ _ => F5)
      (with_reducible rename News _ _ _ _ => N5)
      k_dflt refine' lst_set (j := p) (p := x) F5 N5 hna rfl hlen' hp ?_
      intro h6 n6 F6 N6
      have hin2 : ∀ q ∈ l'.set p x, q ∈ l := fun q hq => by
        rcases List.mem_or_eq_of_mem_set hq with hq | rfl
        · exact hin q hq
        · exact hxin
      (repeat' ((fail_if_success (with_reducible first | show wpAny _ _ (pyIter _) _ _ _ | show wpAny _ _ (exec (Stmt.While _ _ _ _) _) _ _ _ | show wpAny _ _ (exec (Stmt.For _ _ _ _ _) _) _ _ _ | show TurnEnd _ _ _ _ _ _ _ | show TurnPost _ _ _ _ _ _ _ _ _ | show WhileStep _ _ _ _ _ _ _ | show WhileStep2 _ _ _ _ _ _ _ _ | show wpAny _ _ (eval (Expr.ListComp _ _ _ _) _) _ _ _ | show wpAny _ _ (exec (Stmt.Assign _ (Expr.ListComp _ _ _ _) _) _) _ _ _ | show wpAny _ _ (call (Value.builtin "sorted") _) _ _ _ | show wpAny _ _ (call (Value.builtin "sum") _) _ _ _ | show wpAny _ _ (call (Value.type "enumerate") _) _ _ _ | show wpAny _ _ (call (Value.type "range") _) _ _ _ | show wpAny _ _ (binaryOp _ (Value.ref _) (Value.ref _)) _ _ _ | show wpAny _ _ (call (Value.ref _) (Value.ref _ :: _)) _ _ _ | show wpAny _ _ (call (Value.ref 178) _) _ _ _)); first | ((with_reducible refine' isq_back ?e9 ?_); (case e9 => with_reducible assumption); (try dsimp only)) | ((with_reducible show wpAny _ _ (exec _ _) _ _ _); (refine gen_exec ?_); intro P9 hP9; walk1) | (k_unfold; (try dsimp only)) | (with_reducible (k_here; (with_reducible show wpAny _ _ (truthy (Value.ref _)) _ _ _); (k_dflt (refine' lst_truthy ?qk1 ?qk2 ?qk4 ?_; (case qk1 => k_asm); (case qk2 => k_mem); (case qk4 => assumption); k_whole)); intro _)) | (with_reducible (k_here; (with_reducible show wpAny _ _ (call (Value.builtin "len") [Value.ref _]) _ _ _); (k_dflt (refine' lst_len ?qk1 ?qk2 ?qk4 ?_; (case qk1 => k_asm); (case qk2 => k_mem); (case qk4 => assumption); k_whole)); intro _ _)) | (with_reducible (k_here; (with_reducible show wpAny _ _ (subscriptTail _ _ (Value.ref _) (Value.int _ _)) _ _ _); (k_dflt (refine' lst_at ?qk1 ?qk2 ?qk3 ?qk4 ?qk5 ?_; (case qk1 => k_asm); (case qk2 => k_mem); (case qk3 => first | rfl | assumption | omega); (case qk4 => assumption); (case qk5 => assumption))))) | (with_reducible ((with_reducible show wpAny _ _ (eval (PySem.Expr.Name _ _) _) _ _ _); (k_dflt (refine' ld ?qk1 ?qk2 ?_; (case qk1 => k_asm); (case qk2 => exact rfl); k_whole)))) | walk1 | (dsimp only; walk1)))
      (with_reducible rename Fr _ _ _ _ => F7)
      (with_reducible rename News _ _ _ _ => N7)
      k_dflt (refine' siftdown_tells (l := l'.set p x) (x := x) (rest := rest) ?B ?F ?X ?N ?T ?hk ?hd ?hu ?e1 hna ?e2 ?e3 (hK.sub hin2) (hal.sub hin2) ?_; (  (case B => k_asm); (case F => k_asm); (case X => k_asm); (case N => k_asm); (case T => k_asm); (case hk => first | exact rfl | assumption); (case hd => first | exact rm2 hd | exact rm3 hd | exact rm4 hd | exact rm6 hd | ktr_room); (case hu => first | exact ru hu | ktr_units)); (case e1 => exact rfl); (case e2 => rw [List.getElem?_set_self hp]); (case e3 => rw [List.length_set]; exact hlen'); k_whole)
      intro n8 h8 tk8 F8 N8
      rw [← hS, hR] at N8
      (repeat' ((fail_if_success (with_reducible first | show wpAny _ _ (pyIter _) _ _ _ | show wpAny _ _ (exec (Stmt.While _ _ _ _) _) _ _ _ | show wpAny _ _ (exec (Stmt.For _ _ _ _ _) _) _ _ _ | show TurnEnd _ _ _ _ _ _ _ | show TurnPost _ _ _ _ _ _ _ _ _ | show WhileStep _ _ _ _ _ _ _ | show WhileStep2 _ _ _ _ _ _ _ _ | show wpAny _ _ (eval (Expr.ListComp _ _ _ _) _) _ _ _ | show wpAny _ _ (exec (Stmt.Assign _ (Expr.ListComp _ _ _ _) _) _) _ _ _ | show wpAny _ _ (call (Value.builtin "sorted") _) _ _ _ | show wpAny _ _ (call (Value.builtin "sum") _) _ _ _ | show wpAny _ _ (call (Value.type "enumerate") _) _ _ _ | show wpAny _ _ (call (Value.type "range") _) _ _ _ | show wpAny _ _ (binaryOp _ (Value.ref _) (Value.ref _)) _ _ _ | show wpAny _ _ (call (Value.ref _) (Value.ref _ :: _)) _ _ _ | show wpAny _ _ (call (Value.ref 178) _) _ _ _)); first | ((with_reducible refine' isq_back ?e9 ?_); (case e9 => with_reducible assumption); (try dsimp only)) | ((with_reducible show wpAny _ _ (exec _ _) _ _ _); (refine gen_exec ?_); intro P9 hP9; walk1) | (k_unfold; (try dsimp only)) | (with_reducible (k_here; (with_reducible show wpAny _ _ (truthy (Value.ref _)) _ _ _); (k_dflt (refine' lst_truthy ?qk1 ?qk2 ?qk4 ?_; (case qk1 => k_asm); (case qk2 => k_mem); (case qk4 => assumption); k_whole)); intro _)) | (with_reducible (k_here; (with_reducible show wpAny _ _ (call (Value.builtin "len") [Value.ref _]) _ _ _); (k_dflt (refine' lst_len ?qk1 ?qk2 ?qk4 ?_; (case qk1 => k_asm); (case qk2 => k_mem); (case qk4 => assumption); k_whole)); intro _ _)) | (with_reducible (k_here; (with_reducible show wpAny _ _ (subscriptTail _ _ (Value.ref _) (Value.int _ _)) _ _ _); (k_dflt (refine' lst_at ?qk1 ?qk2 ?qk3 ?qk4 ?qk5 ?_; (case qk1 => k_asm); (case qk2 => k_mem); (case qk3 => first | rfl | assumption | omega); (case qk4 => assumption); (case qk5 => assumption))))) | (with_reducible ((with_reducible show wpAny _ _ (eval (PySem.Expr.Name _ _) _) _ _ _); (k_dflt (refine' ld ?qk1 ?qk2 ?_; (case qk1 => k_asm); (case qk2 => exact rfl); k_whole)))) | walk1 | (dsimp only; walk1)))
      (with_reducible rename Fr _ _ _ _ => F9)
      (with_reducible rename News _ _ _ _ => N9)
      exact hret _ _ _ F9 N9
end
end

/-! H4 -/
section
open PySem.Calls
noncomputable def popV (l : List PK) (q : PK) : PK := match l with
  | [] => q
  | a :: _ => a
noncomputable def popL (l : List PK) (q : PK) : List PK := match l with
  | [] => []
  | _ :: r => sup q 0 (q :: r)
section
variable {w : World} {mean : ExcName → Option Value} {mg mb : Str → Option Value} {dp un : Nat} {gd : Option (List Code)} {cn : Str} {cs : Scope} {a : Addr} {ccd : Value} {cl : List (Str × Addr)} {outer : List Env} {A₀ : Around} {base h₀ : Heap} {L : Addr} {m : Str → Option Value} {news : List (Addr × Obj)} {s : Shared} {Q E : Value → Shared → Prop}


theorem heappush_tells {HA : Addr} {n : Nat} {rest : List (Addr × Obj)} {l : List PK} {p : PK}
  (B : Below A₀ base outer h₀) (F : Fr h₀ L s.heap m) (X : (_root_.Mine.hd.heap_1 w.params).In h₀) (N : News h₀ L s.heap news) (T : Top _root_.Mine.hd.view_1 (looseW _root_.Mine.hd.view_1 []) mean mg mb h₀) (hk : cs.kind = .function)
  (hd : dp + 2 < recursionLimit) (hu : un + 40 < cLine) (hn : news = (HA, LObj l n) :: rest) (hna : ∀ p ∈ rest, p.1 ≠ HA) (hlen : l.length ≤ 900) (hK : HK rest (l ++ [p])) (hal : AlikeAll (l ++ [p]))
  (hret : ∀ n' h' tk', Fr h₀ L h' m → News h₀ L h' ((HA, LObj (sdown p l.length (l ++ [p])) n') :: rest) → Q .none { s with heap := h', toks := tk' }) :
    wpAny (model PG w) (ktrTop dp un gd cn cs L a ccd cl outer) (call (.ref 35) [.ref HA, p.1]) Q E s := by
  subst hn
  (w_top off; have dummyFill : (∀ (_ : PySem.Challenge.rw_il0059_01 = PySem.Challenge.rw_il0059_01) (_ : _root_.Mine.hd.heap_1 = _root_.Mine.hd.heap_1), True) := (by k_fill; intros; trivial); clear dummyFill)
  refine wpAny_call ?_
  k_dflt (refine' code_def ?k1 ?k2 ?k3 ?k4 ?k5 ?kA ?kF ?kK ?k6 ?k7 ?k8 ?k9 ?kB ?_ ?c2 ?c3 ?c4 ?c5; (case kA => exact rfl); (case kF => exact rfl); (case kK => assumption); (case k1 => k_asm); (case k2 => k_asm); (case k3 => k_asm); (case k4 => k_asm); (case k5 => k_asm); (case k6 => k_is); (case k7 => k_is); (case k8 => first | exact rm0 hd | ktr_room); (case k9 => exact BindsTo.of_eq rfl); (case c5 => decide); (case kB => exact locs rfl); (case c2 => exact rfl); (case c3 => exact rfl); (case c4 => exact rfl); k_whole; intro g' L' h' FG' F' N' B' X' T'; (try dsimp only); (try k_fold))
  replace F' : Fr g' L' h' (fun y => if y = Str.ofString "item" then some (p.1) else if y = Str.ofString "heap" then some (.ref HA) else none) := fr_map F' (fun y => lookup2 y)
  have hlen' : l.length ≤ 1000 := by omega
  have hlen2 : (l ++ [p]).length ≤ 1000 := by rw [List.length_append]; show l.length + 1 ≤ 1000; omega
  have hj : (((l ++ [p]).length : Nat) : Int) - 1 = ((l.length : Nat) : Int) := by rw [List.length_append]; show ((l.length + 1 : Nat) : Int) - 1 = _; omega
  (repeat' ((fail_if_success (with_reducible first | show wpAny _ _ (pyIter _) _ _ _ | show wpAny _ _ (exec (Stmt.While _ _ _ _) _) _ _ _ | show wpAny _ _ (exec (Stmt.For _ _ _ _ _) _) _ _ _ | show TurnEnd _ _ _ _ _ _ _ | show TurnPost _ _ _ _ _ _ _ _ _ | show WhileStep _ _ _ _ _ _ _ | show WhileStep2 _ _ _ _ _ _ _ _ | show wpAny _ _ (eval (Expr.ListComp _ _ _ _) _) _ _ _ | show wpAny _ _ (exec (Stmt.Assign _ (Expr.ListComp _ _ _ _) _) _) _ _ _ | show wpAny _ _ (call (Value.builtin "sorted") _) _ _ _ | show wpAny _ _ (call (Value.builtin "sum") _) _ _ _ | show wpAny _ _ (call (Value.type "enumerate") _) _ _ _ | show wpAny _ _ (call (Value.type "range") _) _ _ _ | show wpAny _ _ (binaryOp _ (Value.ref _) (Value.ref _)) _ _ _ | show wpAny _ _ (call (Value.ref _) (Value.ref _ :: _)) _ _ _ | show wpAny _ _ (call (Value.ref 178) _) _ _ _)); first | ((with_reducible refine' isq_back ?e9 ?_); (case e9 => with_reducible assumption); (try dsimp only)) | ((with_reducible show wpAny _ _ (exec _ _) _ _ _); (refine gen_exec ?_); intro P9 hP9; walk1) | (k_unfold; (try dsimp only)) | (with_reducible (k_here; (with_reducible show wpAny _ _ (call (Value.builtin _) [Value.ref _]) _ _ _); (k_dflt (refine' lst_pop ?qF ?qN ?qk2 ?qk4 ?_; (case qF => k_asm); (case qN => k_asm); (case qk2 => assumption); (case qk4 => assumption); k_whole)); intro h' n' F' N')) | (with_reducible (k_here; (with_reducible show wpAny _ _ (call (Value.builtin _) [Value.ref _, _]) _ _ _); (k_dflt (refine' lst_append ?qF ?qN ?qk2 ?qk4 ?_; (case qF => k_asm); (case qN => k_asm); (case qk2 => assumption); (case qk4 => assumption); k_whole)); intro h' n' F' N')) | (with_reducible (k_here; (with_reducible show wpAny _ _ (truthy (Value.ref _)) _ _ _); (k_dflt (refine' lst_truthy ?qk1 ?qk2 ?qk4 ?_; (case qk1 => k_asm); (case qk2 => k_mem); (case qk4 => assumption); k_whole)); intro _)) | (with_reducible (k_here; (with_reducible show wpAny _ _ (call (Value.builtin "len") [Value.ref _]) _ _ _); (k_dflt (refine' lst_len ?qk1 ?qk2 ?qk4 ?_; (case qk1 => k_asm); (case qk2 => k_mem); (case qk4 => assumption); k_whole)); intro _ _)) | (with_reducible (k_here; (with_reducible show wpAny _ _ (subscriptTail _ _ (Value.ref _) (Value.int _ _)) _ _ _); (k_dflt (refine' lst_at ?qk1 ?qk2 ?qk3 ?qk4 ?qk5 ?_; (case qk1 => k_asm); (case qk2 => k_mem); (case qk3 => first | rfl | assumption | omega); (case qk4 => assumption); (case qk5 => assumption))))) | (with_reducible ((with_reducible show wpAny _ _ (eval (PySem.Expr.Name _ _) _) _ _ _); (k_dflt (refine' ld ?qk1 ?qk2 ?_; (case qk1 => k_asm); (case qk2 => exact rfl); k_whole)))) | walk1 | (dsimp only; walk1)))
  (with_reducible rename Fr _ _ _ _ => F7)
  (with_reducible rename News _ _ _ _ => N7)
  rw [hj]
  k_dflt (refine' siftdown_tells (l := l ++ [p]) (x := p) (rest := rest) ?B ?F ?X ?N ?T ?hk ?hd ?hu ?e1 hna ?e2 hlen2 hK hal ?_; (  (case B => k_asm); (case F => k_asm); (case X => k_asm); (case N => k_asm); (case T => k_asm); (case hk => first | exact rfl | assumption); (case hd => first | exact rm2 hd | exact rm3 hd | exact rm4 hd | exact rm6 hd | ktr_room); (case hu => first | exact ru hu | ktr_units)); (case e1 => exact rfl); (case e2 => rw [List.getElem?_append_right (Nat.le_refl _), Nat.sub_self]; rfl); k_whole)
  intro n8 h8 tk8 F8 N8
  (repeat' ((fail_if_success (with_reducible first | show wpAny _ _ (pyIter _) _ _ _ | show wpAny _ _ (exec (Stmt.While _ _ _ _) _) _ _ _ | show wpAny _ _ (exec (Stmt.For _ _ _ _ _) _) _ _ _ | show TurnEnd _ _ _ _ _ _ _ | show TurnPost _ _ _ _ _ _ _ _ _ | show WhileStep _ _ _ _ _ _ _ | show WhileStep2 _ _ _ _ _ _ _ _ | show wpAny _ _ (eval (Expr.ListComp _ _ _ _) _) _ _ _ | show wpAny _ _ (exec (Stmt.Assign _ (Expr.ListComp _ _ _ _) _) _) _ _ _ | show wpAny _ _ (call (Value.builtin "sorted") _) _ _ _ | show wpAny _ _ (call (Value.builtin "sum") _) _ _ _ | show wpAny _ _ (call (Value.type "enumerate") _) _ _ _ | show wpAny _ _ (call (Value.type "range") _) _ _ _ | show wpAny _ _ (binaryOp _ (Value.ref _) (Value.ref _)) _ _ _ | show wpAny _ _ (call (Value.ref _) (Value.ref _ :: _)) _ _ _ | show wpAny _ _ (call (Value.ref 178) _) _ _ _)); first | ((with_reducible refine' isq_back ?e9 ?_); (case e9 => with_reducible assumption); (try dsimp only)) | ((with_reducible show wpAny _ _ (exec _ _) _ _ _); (refine gen_exec ?_); intro P9 hP9; walk1) | (k_unfold; (try dsimp only)) | (with_reducible (k_here; (with_reducible show wpAny _ _ (call (Value.builtin _) [Value.ref _]) _ _ _); (k_dflt (refine' lst_pop ?qF ?qN ?qk2 ?qk4 ?_; (case qF => k_asm); (case qN => k_asm); (case qk2 => assumption); (case qk4 => assumption); k_whole)); intro h' n' F' N')) | (with_reducible (k_here; (with_reducible show wpAny _ _ (call (Value.builtin _) [Value.ref _, _]) _ _ _); (k_dflt (refine' lst_append ?qF ?qN ?qk2 ?qk4 ?_; (case qF => k_asm); (case qN => k_asm); (case qk2 => assumption); (case qk4 => assumption); k_whole)); intro h' n' F' N')) | (with_reducible (k_here; (with_reducible show wpAny _ _ (truthy (Value.ref _)) _ _ _); (k_dflt (refine' lst_truthy ?qk1 ?qk2 ?qk4 ?_; (case qk1 => k_asm); (case qk2 => k_mem); (case qk4 => assumption); k_whole)); intro _)) | (with_reducible (k_here; (with_reducible show wpAny _ _ (call (Value.builtin "len") [Value.ref _]) _ _ _); (k_dflt (refine' lst_len ?qk1 ?qk2 ?qk4 ?_; (case qk1 => k_asm); (case qk2 => k_mem); (case qk4 => assumption); k_whole)); intro _ _)) | (with_reducible (k_here; (with_reducible show wpAny _ _ (subscriptTail _ _ (Value.ref _) (Value.int _ _)) _ _ _); (k_dflt (refine' lst_at ?qk1 ?qk2 ?qk3 ?qk4 ?qk5 ?_; (case qk1 => k_asm); (case qk2 => k_mem); (case qk3 => first | rfl | assumption | omega); (case qk4 => assumption); (case qk5 => assumption))))) | (with_reducible ((with_reducible show wpAny _ _ (eval (PySem.Expr.Name _ _) _) _ _ _); (k_dflt (refine' ld ?qk1 ?qk2 ?_; (case qk1 => k_asm); (case qk2 => exact rfl); k_whole)))) | walk1 | (dsimp only; walk1)))
  (with_reducible rename Fr _ _ _ _ => F9)
  (with_reducible rename News _ _ _ _ => N9)
  exact hret _ _ _ F9 N9
theorem heappop_tells {HA : Addr} {n : Nat} {rest : List (Addr × Obj)} {l : List PK} {q : PK}
  (B : Below A₀ base outer h₀) (F : Fr h₀ L s.heap m) (X : (_root_.Mine.hd.heap_1 w.params).In h₀) (N : News h₀ L s.heap news) (T : Top _root_.Mine.hd.view_1 (looseW _root_.Mine.hd.view_1 []) mean mg mb h₀) (hk : cs.kind = .function)
  (hd : dp + 3 < recursionLimit) (hu : un + 60 < cLine) (hn : news = (HA, LObj (l ++ [q]) n) :: rest) (hna : ∀ p ∈ rest, p.1 ≠ HA) (hlen : l.length ≤ 900) (hK : HK rest (l ++ [q])) (hal : AlikeAll (l ++ [q]))
  (hret : ∀ n' h' tk', Fr h₀ L h' m → News h₀ L h' ((HA, LObj (popL l q) n') :: rest) → Q (popV l q).1 { s with heap := h', toks := tk' }) :
    wpAny (model PG w) (ktrTop dp un gd cn cs L a ccd cl outer) (call (.ref 42) [.ref HA]) Q E s := by
  subst hn
  (w_top off; have dummyFill : (∀ (_ : PySem.Challenge.rw_il0059_01 = PySem.Challenge.rw_il0059_01) (_ : _root_.Mine.hd.heap_1 = _root_.Mine.hd.heap_1), True) := (by k_fill; intros; trivial); clear dummyFill)
  refine wpAny_call ?_
  k_dflt (refine' code_def ?k1 ?k2 ?k3 ?k4 ?k5 ?kA ?kF ?kK ?k6 ?k7 ?k8 ?k9 ?kB ?_ ?c2 ?c3 ?c4 ?c5; (case kA => exact rfl); (case kF => exact rfl); (case kK => assumption); (case k1 => k_asm); (case k2 => k_asm); (case k3 => k_asm); (case k4 => k_asm); (case k5 => k_asm); (case k6 => k_is); (case k7 => k_is); (case k8 => first | exact rm0 hd | ktr_room); (case k9 => exact BindsTo.of_eq rfl); (case c5 => decide); (case kB => exact locs rfl); (case c2 => exact rfl); (case c3 => exact rfl); (case c4 => exact rfl); k_whole; intro g' L' h' FG' F' N' B' X' T'; (try dsimp only); (try k_fold))
  replace F' : Fr g' L' h' (fun y => if y = Str.ofString "heap" then some (.ref HA) else none) := fr_map F' (fun y => lookup1 y)
  have hlen' : l.length < 1000 := by omega
  have hlen2 : l.length ≤ 1000 := by omega
  cases l with
  | nil =>
    (repeat' ((fail_if_success (with_reducible first | show wpAny _ _ (pyIter _) _ _ _ | show wpAny _ _ (exec (Stmt.While _ _ _ _) _) _ _ _ | show wpAny _ _ (exec (Stmt.For _ _ _ _ _) _) _ _ _ | show TurnEnd _ _ _ _ _ _ _ | show TurnPost _ _ _ _ _ _ _ _ _ | show WhileStep _ _ _ _ _ _ _ | show WhileStep2 _ _ _ _ _ _ _ _ | show wpAny _ _ (eval (Expr.ListComp _ _ _ _) _) _ _ _ | show wpAny _ _ (exec (Stmt.Assign _ (Expr.ListComp _ _ _ _) _) _) _ _ _ | show wpAny _ _ (call (Value.builtin "sorted") _) _ _ _ | show wpAny _ _ (call (Value.builtin "sum") _) _ _ _ | show wpAny _ _ (call (Value.type "enumerate") _) _ _ _ | show wpAny _ _ (call (Value.type "range") _) _ _ _ | show wpAny _ _ (binaryOp _ (Value.ref _) (Value.ref _)) _ _ _ | show wpAny _ _ (call (Value.ref _) (Value.ref _ :: _)) _ _ _ | show wpAny _ _ (call (Value.ref 178) _) _ _ _)); first | ((with_reducible refine' isq_back ?e9 ?_); (case e9 => with_reducible assumption); (try dsimp only)) | ((with_reducible show wpAny _ _ (exec _ _) _ _ _); (refine gen_exec ?_); intro P9 hP9; walk1) | (k_unfold; (try dsimp only)) | (with_reducible (k_here; (with_reducible show wpAny _ _ (call (Value.builtin _) [Value.ref _]) _ _ _); (k_dflt (refine' lst_pop ?qF ?qN ?qk2 ?qk4 ?_; (case qF => k_asm); (case qN => k_asm); (case qk2 => assumption); (case qk4 => assumption); k_whole)); intro h' n' F' N')) | (with_reducible (k_here; (with_reducible show wpAny _ _ (call (Value.builtin _) [Value.ref _, _]) _ _ _); (k_dflt (refine' lst_append ?qF ?qN ?qk2 ?qk4 ?_; (case qF => k_asm); (case qN => k_asm); (case qk2 => assumption); (case qk4 => assumption); k_whole)); intro h' n' F' N')) | (with_reducible (k_here; (with_reducible show wpAny _ _ (truthy (Value.ref _)) _ _ _); (k_dflt (refine' lst_truthy ?qk1 ?qk2 ?qk4 ?_; (case qk1 => k_asm); (case qk2 => k_mem); (case qk4 => assumption); k_whole)); intro _)) | (with_reducible (k_here; (with_reducible show wpAny _ _ (call (Value.builtin "len") [Value.ref _]) _ _ _); (k_dflt (refine' lst_len ?qk1 ?qk2 ?qk4 ?_; (case qk1 => k_asm); (case qk2 => k_mem); (case qk4 => assumption); k_whole)); intro _ _)) | (with_reducible (k_here; (with_reducible show wpAny _ _ (subscriptTail _ _ (Value.ref _) (Value.int _ _)) _ _ _); (k_dflt (refine' lst_at ?qk1 ?qk2 ?qk3 ?qk4 ?qk5 ?_; (case qk1 => k_asm); (case qk2 => k_mem); (case qk3 => first | rfl | assumption | omega); (case qk4 => assumption); (case qk5 => assumption))))) | (with_reducible ((with_reducible show wpAny _ _ (eval (PySem.Expr.Name _ _) _) _ _ _); (k_dflt (refine' ld ?qk1 ?qk2 ?_; (case qk1 => k_asm); (case qk2 => exact rfl); k_whole)))) | walk1 | (dsimp only; walk1)))
    (with_reducible rename Fr _ _ _ _ => F9)
    (with_reducible rename News _ _ _ _ => N9)
    exact hret _ _ _ F9 N9
  | cons a0 r =>
    have ha0 : (a0 :: r)[0]? = some a0 := rfl
    have hz : (0 : Int) = ((0 : Nat) : Int) := rfl
    have hsub : ∀ x ∈ q :: r, x ∈ a0 :: r ++ [q] := fun x hx => by
      rcases List.mem_cons.mp hx with rfl | hx
      · simp
      · simp [hx]
    have hlen3 : (q :: r).length ≤ 1000 := hlen2
    (repeat' ((fail_if_success (with_reducible first | show wpAny _ _ (pyIter _) _ _ _ | show wpAny _ _ (exec (Stmt.While _ _ _ _) _) _ _ _ | show wpAny _ _ (exec (Stmt.For _ _ _ _ _) _) _ _ _ | show TurnEnd _ _ _ _ _ _ _ | show TurnPost _ _ _ _ _ _ _ _ _ | show WhileStep _ _ _ _ _ _ _ | show WhileStep2 _ _ _ _ _ _ _ _ | show wpAny _ _ (eval (Expr.ListComp _ _ _ _) _) _ _ _ | show wpAny _ _ (exec (Stmt.Assign _ (Expr.ListComp _ _ _ _) _) _) _ _ _ | show wpAny _ _ (call (Value.builtin "sorted") _) _ _ _ | show wpAny _ _ (call (Value.builtin "sum") _) _ _ _ | show wpAny _ _ (call (Value.type "enumerate") _) _ _ _ | show wpAny _ _ (call (Value.type "range") _) _ _ _ | show wpAny _ _ (binaryOp _ (Value.ref _) (Value.ref _)) _ _ _ | show wpAny _ _ (call (Value.ref _) (Value.ref _ :: _)) _ _ _ | show wpAny _ _ (call (Value.ref 178) _) _ _ _)); first | ((with_reducible refine' isq_back ?e9 ?_); (case e9 => with_reducible assumption); (try dsimp only)) | ((with_reducible show wpAny _ _ (exec _ _) _ _ _); (refine gen_exec ?_); intro P9 hP9; walk1) | (k_unfold; (try dsimp only)) | (with_reducible (k_here; (with_reducible show wpAny _ _ (call (Value.builtin _) [Value.ref _]) _ _ _); (k_dflt (refine' lst_pop ?qF ?qN ?qk2 ?qk4 ?_; (case qF => k_asm); (case qN => k_asm); (case qk2 => assumption); (case qk4 => assumption); k_whole)); intro h' n' F' N')) | (with_reducible (k_here; (with_reducible show wpAny _ _ (call (Value.builtin _) [Value.ref _, _]) _ _ _); (k_dflt (refine' lst_append ?qF ?qN ?qk2 ?qk4 ?_; (case qF => k_asm); (case qN => k_asm); (case qk2 => assumption); (case qk4 => assumption); k_whole)); intro h' n' F' N')) | (with_reducible (k_here; (with_reducible show wpAny _ _ (truthy (Value.ref _)) _ _ _); (k_dflt (refine' lst_truthy ?qk1 ?qk2 ?qk4 ?_; (case qk1 => k_asm); (case qk2 => k_mem); (case qk4 => assumption); k_whole)); intro _)) | (with_reducible (k_here; (with_reducible show wpAny _ _ (call (Value.builtin "len") [Value.ref _]) _ _ _); (k_dflt (refine' lst_len ?qk1 ?qk2 ?qk4 ?_; (case qk1 => k_asm); (case qk2 => k_mem); (case qk4 => assumption); k_whole)); intro _ _)) | (with_reducible (k_here; (with_reducible show wpAny _ _ (subscriptTail _ _ (Value.ref _) (Value.int _ _)) _ _ _); (k_dflt (refine' lst_at ?qk1 ?qk2 ?qk3 ?qk4 ?qk5 ?_; (case qk1 => k_asm); (case qk2 => k_mem); (case qk3 => first | rfl | assumption | omega); (case qk4 => assumption); (case qk5 => assumption))))) | (with_reducible ((with_reducible show wpAny _ _ (eval (PySem.Expr.Name _ _) _) _ _ _); (k_dflt (refine' ld ?qk1 ?qk2 ?_; (case qk1 => k_asm); (case qk2 => exact rfl); k_whole)))) | walk1 | (dsimp only; walk1)))
    · exact absurd (by assumption : (a0 :: r).isEmpty = true) (by simp)
    (with_reducible rename Fr _ _ _ _ => F7)
    (with_reducible rename News _ _ _ _ => N7)
    k_dflt (refine' siftup_tells (l := q :: r) (x := q) (rest := rest) ?B ?F ?X ?N ?T ?hk ?hd ?hu ?e1 hna ?e2 hlen3 (hK.sub hsub) (hal.sub hsub) ?_; (  (case B => k_asm); (case F => k_asm); (case X => k_asm); (case N => k_asm); (case T => k_asm); (case hk => first | exact rfl | assumption); (case hd => first | exact rm2 hd | exact rm3 hd | exact rm4 hd | exact rm6 hd | ktr_room); (case hu => first | exact ru hu | ktr_units)); (case e1 => exact rfl); (case e2 => exact rfl); k_whole)
    intro n8 h8 tk8 F8 N8
    (repeat' ((fail_if_success (with_reducible first | show wpAny _ _ (pyIter _) _ _ _ | show wpAny _ _ (exec (Stmt.While _ _ _ _) _) _ _ _ | show wpAny _ _ (exec (Stmt.For _ _ _ _ _) _) _ _ _ | show TurnEnd _ _ _ _ _ _ _ | show TurnPost _ _ _ _ _ _ _ _ _ | show WhileStep _ _ _ _ _ _ _ | show WhileStep2 _ _ _ _ _ _ _ _ | show wpAny _ _ (eval (Expr.ListComp _ _ _ _) _) _ _ _ | show wpAny _ _ (exec (Stmt.Assign _ (Expr.ListComp _ _ _ _) _) _) _ _ _ | show wpAny _ _ (call (Value.builtin "sorted") _) _ _ _ | show wpAny _ _ (call (Value.builtin "sum") _) _ _ _ | show wpAny _ _ (call (Value.type "enumerate") _) _ _ _ | show wpAny _ _ (call (Value.type "range") _) _ _ _ | show wpAny _ _ (binaryOp _ (Value.ref _) (Value.ref _)) _ _ _ | show wpAny _ _ (call (Value.ref _) (Value.ref _ :: _)) _ _ _ | show wpAny _ _ (call (Value.ref 178) _) _ _ _)); first | ((with_reducible refine' isq_back ?e9 ?_); (case e9 => with_reducible assumption); (try dsimp only)) | ((with_reducible show wpAny _ _ (exec _ _) _ _ _); (refine gen_exec ?_); intro P9 hP9; walk1) | (k_unfold; (try dsimp only)) | (with_reducible (k_here; (with_reducible show wpAny _ _ (call (Value.builtin _) [Value.ref _]) _ _ _); (k_dflt (refine' lst_pop ?qF ?qN ?qk2 ?qk4 ?_; (case qF => k_asm); (case qN => k_asm); (case qk2 => assumption); (case qk4 => assumption); k_whole)); intro h' n' F' N')) | (with_reducible (k_here; (with_reducible show wpAny _ _ (call (Value.builtin _) [Value.ref _, _]) _ _ _); (k_dflt (refine' lst_append ?qF ?qN ?qk2 ?qk4 ?_; (case qF => k_asm); (case qN => k_asm); (case qk2 => assumption); (case qk4 => assumption); k_whole)); intro h' n' F' N')) | (with_reducible (k_here; (with_reducible show wpAny _ _ (truthy (Value.ref _)) _ _ _); (k_dflt (refine' lst_truthy ?qk1 ?qk2 ?qk4 ?_; (case qk1 => k_asm); (case qk2 => k_mem); (case qk4 => assumption); k_whole)); intro _)) | (with_reducible (k_here; (with_reducible show wpAny _ _ (call (Value.builtin "len") [Value.ref _]) _ _ _); (k_dflt (refine' lst_len ?qk1 ?qk2 ?qk4 ?_; (case qk1 => k_asm); (case qk2 => k_mem); (case qk4 => assumption); k_whole)); intro _ _)) | (with_reducible (k_here; (with_reducible show wpAny _ _ (subscriptTail _ _ (Value.ref _) (Value.int _ _)) _ _ _); (k_dflt (refine' lst_at ?qk1 ?qk2 ?qk3 ?qk4 ?qk5 ?_; (case qk1 => k_asm); (case qk2 => k_mem); (case qk3 => first | rfl | assumption | omega); (case qk4 => assumption); (case qk5 => assumption))))) | (with_reducible ((with_reducible show wpAny _ _ (eval (PySem.Expr.Name _ _) _) _ _ _); (k_dflt (refine' ld ?qk1 ?qk2 ?_; (case qk1 => k_asm); (case qk2 => exact rfl); k_whole)))) | walk1 | (dsimp only; walk1)))
    (with_reducible rename Fr _ _ _ _ => F9)
    (with_reducible rename News _ _ _ _ => N9)
    exact hret _ _ _ F9 N9
end
end

/-! H5 -/
section
noncomputable def kle (a b : PK) : Prop := lexLt b.2 a.2 = false
theorem kle_refl (a : PK) : kle a a := lexLt_irrefl _
theorem kle_trans {a b c : PK} (h : kle a b) (h' : kle b c) : kle a c := by
  unfold kle at *
  cases hc : lexLt c.2 a.2
  · rfl
  · rcases lexLt_neg (b := b.2) hc with h1 | h1
    · rw [h'] at h1; cases h1
    · rw [h] at h1; cases h1
theorem kle_of_lt {a b : PK} (h : lexLt a.2 b.2 = true) : kle a b := by
  unfold kle
  cases hc : lexLt b.2 a.2
  · rfl
  · have := lexLt_trans h hc
    rw [lexLt_irrefl] at this; cases this

theorem swap_set {l : List PK} {p c : Nat} {x y : PK} (hp : p < l.length) (hc : l[c]? = some y) (hne : p ≠ c) : ((l.set p y).set c x).Perm (l.set p x) := by
  have hcl := (List.getElem?_eq_some_iff.mp hc).1
  have e : (((l.set p x).toArray.swapIfInBounds p c)).toList = (l.set p y).set c x := by
    apply List.ext_getElem?
    intro k
    rw [Array.getElem?_toList, getElem?_swapIB (by simpa using hp) (by simpa using hcl)]
    simp only [List.getElem?_toArray]
    by_cases h1 : c = k
    · subst h1
      rw [if_pos rfl, List.getElem?_set_self hp, List.getElem?_set_self (by simpa using hcl)]
    · rw [if_neg h1]
      by_cases h2 : p = k
      · subst h2
        rw [if_pos rfl, List.getElem?_set_ne hne, hc, List.getElem?_set_ne (Ne.symm hne), List.getElem?_set_self hp]
      · rw [if_neg h2, List.getElem?_set_ne h2, List.getElem?_set_ne h1, List.getElem?_set_ne h2]
  rw [← e]
  exact Array.perm_iff_toList_perm.mp (swapIB_perm _ _ _)

/-- parent and child, but for the pairs at one place -/
noncomputable def PairsBut (l : List PK) (pos : Nat) : Prop := ∀ (i : Nat) a b, 0 < i → i ≠ pos → (i - 1) / 2 ≠ pos → l[i]? = some b → l[(i - 1) / 2]? = some a → kle a b
noncomputable def HeapP (l : List PK) : Prop := ∀ (i : Nat) a b, 0 < i → l[i]? = some b → l[(i - 1) / 2]? = some a → kle a b

theorem sdown_perm (x : PK) : ∀ (pos : Nat) (l : List PK), pos < l.length → (sdown x pos l).Perm (l.set pos x)
  | 0, l, h => by rw [sdown_zero]
  | k + 1, l, h => by
    obtain ⟨par, hpar⟩ : ∃ par, l[k / 2]? = some par := ⟨_, List.getElem?_eq_getElem (by lia)⟩
    rw [sdown_succ hpar]
    split
    · refine (sdown_perm x (k / 2) _ (by rw [List.length_set]; lia)).trans ?_
      exact swap_set h hpar (by lia)
    · exact .refl _
termination_by pos => pos
decreasing_by lia

theorem sdown_heap (x : PK) : ∀ (pos : Nat) (l : List PK), pos < l.length → PairsBut l pos →
    (∀ (c : Nat) b, 0 < c → (c - 1) / 2 = pos → l[c]? = some b → kle x b) → (0 < pos → ∀ (c : Nat) a b, 0 < c → (c - 1) / 2 = pos → l[c]? = some b → l[(pos - 1) / 2]? = some a → kle a b) → HeapP (sdown x pos l)
  | 0, l, h, h1, h2, h3 => by
    rw [sdown_zero]
    intro i a b hi hb ha
    rw [List.getElem?_set_ne (by lia)] at hb
    by_cases hq : (i - 1) / 2 = 0
    · rw [hq, List.getElem?_set_self h] at ha
      cases ha
      exact h2 i b hi hq hb
    · rw [List.getElem?_set_ne (Ne.symm hq)] at ha
      exact h1 i a b hi (by lia) hq hb ha
  | k + 1, l, h, h1, h2, h3 => by
    obtain ⟨par, hpar⟩ : ∃ par, l[k / 2]? = some par := ⟨_, List.getElem?_eq_getElem (by lia)⟩
    rw [sdown_succ hpar]
    have hk : (k + 1 - 1) / 2 = k / 2 := by rw [Nat.add_sub_cancel]
    split
    · rename_i hlt
      have hxp := kle_of_lt hlt
      refine sdown_heap x (k / 2) _ (by rw [List.length_set]; lia) ?_ ?_ ?_
      · intro i a b hi hne hq hb ha
        by_cases e1 : i = k + 1
        · subst e1; exact absurd hk hq
        · rw [List.getElem?_set_ne (Ne.symm e1)] at hb
          by_cases e2 : (i - 1) / 2 = k + 1
          · rw [e2, List.getElem?_set_self h] at ha
            cases ha
            exact h3 (by lia) i _ b hi e2 hb (by rw [hk]; exact hpar)
          · rw [List.getElem?_set_ne (Ne.symm e2)] at ha
            exact h1 i a b hi e1 e2 hb ha
      · intro c b hc hcq hb
        by_cases e1 : c = k + 1
        · subst e1
          rw [List.getElem?_set_self h] at hb
          cases hb; exact hxp
        · rw [List.getElem?_set_ne (Ne.symm e1)] at hb
          exact kle_trans hxp (h1 c par b hc e1 (by lia) hb (by rw [hcq]; exact hpar))
      · intro hpos c a b hc hcq hb ha
        rw [List.getElem?_set_ne (by lia)] at ha
        have hap : kle a par := h1 (k / 2) a par hpos (by lia) (by lia) hpar ha
        by_cases e1 : c = k + 1
        · subst e1
          rw [List.getElem?_set_self h] at hb
          cases hb; exact hap
        · rw [List.getElem?_set_ne (Ne.symm e1)] at hb
          exact kle_trans hap (h1 c par b hc e1 (by lia) hb (by rw [hcq]; exact hpar))
    · rename_i hlt
      have hpx : kle par x := by unfold kle; simpa using hlt
      intro i a b hi hb ha
      by_cases e1 : i = k + 1
      · subst e1
        rw [List.getElem?_set_self h] at hb
        cases hb
        rw [hk, List.getElem?_set_ne (by lia), hpar] at ha
        cases ha; exact hpx
      · rw [List.getElem?_set_ne (Ne.symm e1)] at hb
        by_cases e2 : (i - 1) / 2 = k + 1
        · rw [e2, List.getElem?_set_self h] at ha
          cases ha
          exact h2 i b hi e2 hb
        · rw [List.getElem?_set_ne (Ne.symm e2)] at ha
          exact h1 i a b hi e1 e2 hb ha
termination_by pos => pos
decreasing_by lia

theorem push_perm (l : List PK) (p : PK) : (sdown p l.length (l ++ [p])).Perm (l ++ [p]) := by
  refine (sdown_perm p l.length (l ++ [p]) (by simp)).trans (.of_eq ?_)
  rw [List.set_append_right _ _ (Nat.le_refl _), Nat.sub_self]; rfl
theorem push_heap {l : List PK} {p : PK} (h : HeapP l) : HeapP (sdown p l.length (l ++ [p])) := by
  refine sdown_heap p l.length (l ++ [p]) (by simp) ?_ ?_ ?_
  · intro i a b hi hne hq hb ha
    have hlt := (List.getElem?_eq_some_iff.mp hb).1
    simp only [List.length_append, List.length_cons, List.length_nil] at hlt
    rw [List.getElem?_append_left (by lia)] at hb ha
    exact h i a b hi hb ha
  · intro c b hc hcq hb
    have hlt := (List.getElem?_eq_some_iff.mp hb).1
    simp only [List.length_append, List.length_cons, List.length_nil] at hlt
    lia
  · intro _ c a b hc hcq hb _
    have hlt := (List.getElem?_eq_some_iff.mp hb).1
    simp only [List.length_append, List.length_cons, List.length_nil] at hlt
    lia

theorem pick_min {l : List PK} {p : Nat} (h : 2 * p + 1 < l.length) : ∃ c, l[pick l p]? = some c ∧ (pick l p = 2 * p + 1 ∨ pick l p = 2 * p + 2) ∧ ∀ (i : Nat) b, 0 < i → (i - 1) / 2 = p → l[i]? = some b → kle c b := by
  obtain ⟨a, ha⟩ : ∃ a, l[2 * p + 1]? = some a := ⟨_, List.getElem?_eq_getElem h⟩
  by_cases h2 : 2 * p + 2 < l.length
  · obtain ⟨b, hb⟩ : ∃ b, l[2 * p + 2]? = some b := ⟨_, List.getElem?_eq_getElem h2⟩
    cases hlt : lexLt a.2 b.2
    · rw [pick_r ha hb hlt]
      refine ⟨b, hb, .inr rfl, fun i d hi hq hd => ?_⟩
      have : i = 2 * p + 1 ∨ i = 2 * p + 2 := by lia
      rcases this with rfl | rfl
      · rw [ha] at hd; cases hd; exact hlt
      · rw [hb] at hd; cases hd; exact kle_refl _
    · rw [pick_l ha hb hlt]
      refine ⟨a, ha, .inl rfl, fun i d hi hq hd => ?_⟩
      have : i = 2 * p + 1 ∨ i = 2 * p + 2 := by lia
      rcases this with rfl | rfl
      · rw [ha] at hd; cases hd; exact kle_refl _
      · rw [hb] at hd; cases hd; exact kle_of_lt hlt
  · rw [pick_1 h2]
    refine ⟨a, ha, .inl rfl, fun i d hi hq hd => ?_⟩
    have hlt := (List.getElem?_eq_some_iff.mp hd).1
    have : i = 2 * p + 1 := by lia
    subst this
    rw [ha] at hd; cases hd; exact kle_refl _

theorem sup_perm (x : PK) : ∀ (n p : Nat) (l : List PK), l.length - p = n → p < l.length → (sup x p l).Perm (l.set p x) := by
  intro n
  induction n using Nat.strongRecOn with
  | ind n ih =>
    intro p l hn hp
    by_cases h : 2 * p + 1 < l.length
    · obtain ⟨c, hc, hor, _⟩ := pick_min h
      rw [sup_go h hc]
      have hgt := pick_gt l p
      have hle := pick_le l p h
      refine (ih (l.length - pick l p) (by lia) (pick l p) (l.set p c) (by rw [List.length_set]) (by rw [List.length_set]; exact hle)).trans ?_
      exact swap_set hp hc (by lia)
    · rw [sup_end h]
      refine (sdown_perm x p _ (by rw [List.length_set]; exact hp)).trans (.of_eq ?_)
      rw [List.set_set]
theorem sup_heap (x : PK) : ∀ (n p : Nat) (l : List PK), l.length - p = n → p < l.length → PairsBut l p →
    (0 < p → ∀ (c : Nat) a b, 0 < c → (c - 1) / 2 = p → l[c]? = some b → l[(p - 1) / 2]? = some a → kle a b) → HeapP (sup x p l) := by
  intro n
  induction n using Nat.strongRecOn with
  | ind n ih =>
    intro p l hn hp h1 h3
    by_cases h : 2 * p + 1 < l.length
    · obtain ⟨c, hc, hor, hmin⟩ := pick_min h
      rw [sup_go h hc]
      have hgt := pick_gt l p
      have hle := pick_le l p h
      have hpar : (pick l p - 1) / 2 = p := by lia
      refine ih (l.length - pick l p) (by lia) (pick l p) (l.set p c) (by rw [List.length_set]) (by rw [List.length_set]; exact hle) ?_ ?_
      · intro i a b hi hne hq hb ha
        by_cases e1 : i = p
        · subst e1
          rw [List.getElem?_set_self hp] at hb
          cases hb
          rw [List.getElem?_set_ne (by lia)] at ha
          exact h3 hi (pick l i) a _ (by lia) hpar hc ha
        · rw [List.getElem?_set_ne (Ne.symm e1)] at hb
          by_cases e2 : (i - 1) / 2 = p
          · rw [e2, List.getElem?_set_self hp] at ha
            cases ha
            exact hmin i b hi e2 hb
          · rw [List.getElem?_set_ne (Ne.symm e2)] at ha
            exact h1 i a b hi e1 e2 hb ha
      · intro _ d a b hd hq hb ha
        rw [hpar, List.getElem?_set_self hp] at ha
        cases ha
        rw [List.getElem?_set_ne (by lia)] at hb
        exact h1 d _ b hd (by lia) (by lia) hb (by rw [hq]; exact hc)
    · rw [sup_end h]
      refine sdown_heap x p _ (by rw [List.length_set]; exact hp) ?_ ?_ ?_
      · intro i a b hi hne hq hb ha
        rw [List.getElem?_set_ne (Ne.symm hne)] at hb
        rw [List.getElem?_set_ne (Ne.symm hq)] at ha
        exact h1 i a b hi hne hq hb ha
      · intro c b hc hcq hb
        have hlt := (List.getElem?_eq_some_iff.mp hb).1
        rw [List.length_set] at hlt
        lia
      · intro _ c a b hc hcq hb _
        have hlt := (List.getElem?_eq_some_iff.mp hb).1
        rw [List.length_set] at hlt
        lia

theorem pop_perm (l : List PK) (q : PK) : (popV l q :: popL l q).Perm (l ++ [q]) := by
  cases l with
  | nil => exact .refl _
  | cons a r =>
    show (a :: sup q 0 (q :: r)).Perm (a :: (r ++ [q]))
    refine List.Perm.cons _ ((sup_perm q _ 0 (q :: r) rfl (by simp)).trans ?_)
    exact (List.perm_append_singleton q r).symm
theorem pop_heap {l : List PK} {q : PK} (h : HeapP (l ++ [q])) : HeapP (popL l q) := by
  cases l with
  | nil => intro i a b _ hb _; simp [popL] at hb
  | cons a r =>
    refine sup_heap q _ 0 (q :: r) rfl (by simp) ?_ (fun h => absurd h (by lia))
    intro i x y hi hne hq hb ha
    have hlt := (List.getElem?_eq_some_iff.mp hb).1
    have e : ∀ j, j ≠ 0 → j < (q :: r).length → (a :: r ++ [q])[j]? = (q :: r)[j]? := fun j hj hl => by
      rw [List.getElem?_append_left (show j < (a :: r).length from hl)]
      cases j with
      | zero => exact absurd rfl hj
      | succ j => rfl
    exact h i x y hi ((e i hne hlt).trans hb) ((e _ hq (by lia)).trans ha)
theorem heap_min {l : List PK} (h : HeapP l) {a : PK} (ha : l[0]? = some a) : ∀ (i : Nat) b, l[i]? = some b → kle a b := by
  intro i
  induction i using Nat.strongRecOn with
  | ind i ih =>
    intro b hb
    by_cases hi : i = 0
    · subst hi; rw [ha] at hb; cases hb; exact kle_refl _
    · have hlt := (List.getElem?_eq_some_iff.mp hb).1
      obtain ⟨c, hc⟩ : ∃ c, l[(i - 1) / 2]? = some c := ⟨_, List.getElem?_eq_getElem (by lia)⟩
      exact kle_trans (ih _ (by lia) c hc) (h i c b (by lia) hb hc)
theorem pop_min {l : List PK} {q : PK} (h : HeapP (l ++ [q])) : ∀ b ∈ l ++ [q], kle (popV l q) b := by
  intro b hb
  obtain ⟨i, hi⟩ := List.mem_iff_getElem?.mp hb
  refine heap_min h ?_ i b hi
  cases l <;> rfl
end

/-! Q1 -/
section
inductive Kvs : List (Str × Value) → List (Str × Int) → Prop
  | nil : Kvs [] []
  | cons {k n t r q} : Kvs r q → Kvs ((k, .int n t) :: r) ((k, n) :: q)
noncomputable def getC (ch : List (Str × Int)) (k : Str) : Int := match ch.find? (fun p => decide (p.1 = k)) with
  | some p => p.2
  | none => 0
noncomputable def putC (ch : List (Str × Int)) (k : Str) (v : Int) : List (Str × Int) :=
  if ch.any (fun p => decide (p.1 = k)) then ch.map (fun p => if p.1 = k then (p.1, v) else p) else ch ++ [(k, v)]
noncomputable def addC (ch : List (Str × Int)) (k : Str) (d : Int) : List (Str × Int) := putC ch k (getC ch k + d)
theorem Kvs.length {kvs : List (Str × Value)} {ch : List (Str × Int)} (h : Kvs kvs ch) : kvs.length = ch.length := by
  induction h with
  | nil => rfl
  | cons _ ih => rw [List.length_cons, List.length_cons, ih]
theorem Kvs.app {kvs kvs' : List (Str × Value)} {ch ch' : List (Str × Int)} (h : Kvs kvs ch) (h' : Kvs kvs' ch') : Kvs (kvs ++ kvs') (ch ++ ch') := by
  induction h with
  | nil => exact h'
  | cons _ ih => exact .cons ih
theorem Kvs.get {kvs : List (Str × Value)} {ch : List (Str × Int)} (h : Kvs kvs ch) (k : Str) (t0 : Tok) : ∃ t, (valueAt kvs k).getD (.int 0 t0) = .int (getC ch k) t := by
  induction h with
  | nil => exact ⟨t0, rfl⟩
  | @cons k' n t r q _ ih =>
    by_cases e : k' = k
    · refine ⟨t, ?_⟩
      simp [valueAt, getC, List.find?_cons, e]
    · obtain ⟨t', h'⟩ := ih
      refine ⟨t', ?_⟩
      simpa [valueAt, getC, List.find?_cons, e] using h'
theorem Kvs.any {kvs : List (Str × Value)} {ch : List (Str × Int)} (h : Kvs kvs ch) (k : Str) : (kvs.any fun kv => decide (kv.1 = k)) = ch.any fun p => decide (p.1 = k) := by
  induction h with
  | nil => rfl
  | cons _ ih => rw [List.any_cons, List.any_cons, ih]
theorem Kvs.map {kvs : List (Str × Value)} {ch : List (Str × Int)} (h : Kvs kvs ch) (k : Str) (v : Int) (t : Tok) : Kvs (kvs.map fun kv => if kv.1 = k then (kv.1, .int v t) else kv) (ch.map fun p => if p.1 = k then (p.1, v) else p) := by
  induction h with
  | nil => exact .nil
  | @cons k' n t' r q _ ih =>
    rw [List.map_cons, List.map_cons]
    by_cases e : k' = k
    · rw [if_pos e, if_pos e]; exact .cons ih
    · rw [if_neg e, if_neg e]; exact .cons ih
theorem Kvs.put {kvs : List (Str × Value)} {ch : List (Str × Int)} (h : Kvs kvs ch) (k : Str) (v : Int) (t : Tok) : Kvs (stored kvs k (.int v t)) (putC ch k v) := by
  unfold stored putC
  rw [h.any k]
  by_cases e : (ch.any fun p => decide (p.1 = k)) = true
  · rw [if_pos e, if_pos e]; exact h.map k v t
  · rw [if_neg e, if_neg e]; exact h.app (.cons .nil)
theorem putC_len (ch : List (Str × Int)) (k : Str) (v : Int) : (putC ch k v).length ≤ ch.length + 1 := by
  unfold putC; split <;> simp

/-- the charges, as an object -/
noncomputable def DObj (prog : Program) (w : World) (o : Obj) (ch : List (Str × Int)) : Prop := ∃ kvs, o.IsDictOf (PySem.strKind prog w) kvs ∧ Kvs kvs ch
section
variable {prog : Program} {w : World} {A : Around} {E : Value → Shared → Prop} {s : Shared} {h₀ : Heap} {L d : Addr} {m : Str → Option Value} {news rest : List (Addr × Obj)} {o : Obj} {ch : List (Str × Int)}
theorem dct_method {pl : Sem Bool} {Q : Value × List Value → Shared → Prop} (N : News h₀ L s.heap news) (hp : (d, o) ∈ news) (hd : DObj prog w o ch) (h : Q (.builtin "dict.get", [.ref d]) s) : wpAny (model prog w) A (getMethod (.ref d) "get" pl) Q E s := by
  obtain ⟨kvs, h1, h2⟩ := hd
  exact kdg_method N hp h1 h
theorem dct_get {x : Str} {tx t0 : Tok} {Q : Value → Shared → Prop} (N : News h₀ L s.heap news) (hp : (d, o) ∈ news) (hd : DObj prog w o ch) (lo : (d == sysModules) = false) (h : ∀ t k, Q (.int (getC ch x) t) { s with toks := k }) :
    wpAny (model prog w) A (call (.builtin "dict.get") [.ref d, .str x tx, .int 0 t0]) Q E s := by
  obtain ⟨kvs, h1, h2⟩ := hd
  refine kdg_get2 N hp h1 lo (strKind_is _ _ x tx) _ rfl ?_
  obtain ⟨t, e⟩ := h2.get x t0
  rw [e]; exact h _ _
theorem dct_set {x : Str} {v : Int} {tx t : Tok} {Q : Unit → Shared → Prop} (F : Fr h₀ L s.heap m) (N : News h₀ L s.heap ((d, o) :: rest)) (hna : ∀ p ∈ rest, p.1 ≠ d) (hd : DObj prog w o ch) (hlen : ch.length ≤ 1000)
    (h : ∀ h' o' k, Fr h₀ L h' m → News h₀ L h' ((d, o') :: rest) → DObj prog w o' (putC ch x v) → Q () { s with heap := h', toks := k }) :
    wpAny (model prog w) A (setItem (.ref d) (.str x tx) (.int v t)) Q E s := by
  obtain ⟨kvs, h1, h2⟩ := hd
  exact kda_set F N (.head hna) h1 (strKind_is _ _ x tx) (by rw [h2.length, sizeLine_eq]; omega) fun h' o' F' N' hd' => h h' o' _ F' N' ⟨_, hd', h2.put x v t⟩
end
end

/-! Q2 -/
section
open PySem.Calls

noncomputable def foldS (l : List Nat) : Str := mkS (47 :: 109 :: segsL l)
theorem segsL_app (l r : List Nat) : segsL (l ++ r) = segsL l ++ segsL r := by
  induction l with
  | nil => rfl
  | cons c l ih => show 47 :: c :: segsL (l ++ r) = _; rw [ih]; rfl
theorem dir_under {l b : List Nat} (hl : ∀ c ∈ l, c ≠ 47) (hb : 47 ∉ b) : dirT (mkS (47 :: 109 :: segsL l ++ 47 :: b)) = foldS l := by
  rcases List.eq_nil_or_concat l with rfl | ⟨l', c, rfl⟩
  · exact dirT_mk (a := [47]) (d := 109) hb (by decide)
  · have e : 47 :: 109 :: segsL (l' ++ [c]) = (47 :: 109 :: segsL l' ++ [47]) ++ [c] := by rw [segsL_app]; show 47 :: 109 :: (segsL l' ++ [47, c]) = _; simp
    have e' : (47 :: 109 :: segsL (l'.concat c)) = (47 :: 109 :: segsL l' ++ [47]) ++ [c] := by rw [List.concat_eq_append]; exact e
    unfold foldS
    rw [e']
    exact dirT_mk hb (hl c (by simp))
theorem dir_fold {l : List Nat} {c : Nat} (hl : ∀ c ∈ l, c ≠ 47) (hc : c ≠ 47) : dirT (foldS (l ++ [c])) = foldS l := by
  have := dir_under (l := l) (b := [c]) hl (by simpa using Ne.symm hc)
  rw [← this]
  unfold foldS
  rw [segsL_app]; rfl
theorem dir_top : dirT (foldS []) = Str.ofString "/" := dirT_top (b := [109]) (by decide)
theorem foldS_len (l : List Nat) : (foldS l).length = 2 + 2 * l.length := by
  unfold foldS
  rw [mkS_len]
  have : ∀ l : List Nat, (segsL l).length = 2 * l.length := by
    intro l
    induction l with
    | nil => rfl
    | cons c l ih => show (47 :: c :: segsL l).length = _; rw [List.length_cons, List.length_cons, ih, List.length_cons]; omega
  show (segsL l).length + 2 = _
  rw [this]; omega
theorem foldS_ne (l : List Nat) : (foldS l != Str.ofString "/") = true := bne_iff_ne.mpr fun e => by
  have := congrArg Str.length e
  rw [foldS_len] at this
  have h1 : (Str.ofString "/").length = 1 := by decide
  omega
noncomputable def chargeN (l : List Nat) (d : Int) : Nat → List (Str × Int) → List (Str × Int)
  | 0, ch => ch
  | k + 1, ch => chargeN l d k (addC ch (foldS (l.take k)) d)
theorem take_next {l : List Nat} {k : Nat} (h : k < l.length) : ∃ c, l.take (k + 1) = l.take k ++ [c] ∧ c ∈ l := by
  refine ⟨l[k], ?_, List.getElem_mem h⟩
  rw [List.take_add_one, List.getElem?_eq_getElem h]; rfl
section
variable {w : World} {mean : ExcName → Option Value} {mg mb : Str → Option Value} {dp un : Nat} {gd : Option (List Code)} {cn : Str} {cs : Scope} {a : Addr} {ccd : Value} {cl : List (Str × Addr)} {outer : List Env} {A₀ : Around} {base h₀ : Heap} {L : Addr} {m : Str → Option Value} {news : List (Addr × Obj)} {s : Shared} {Q E : Value → Shared → Prop}

theorem charged_tells {CA : Addr} {o : Obj} {rest : List (Addr × Obj)} {ch : List (Str × Int)} {l : List Nat} {p : Str} {d : Int} {tp td : Tok}
  (B : Below A₀ base outer h₀) (F : Fr h₀ L s.heap m) (X : (_root_.Mine.hd.heap_1 w.params).In h₀) (N : News h₀ L s.heap news) (T : Top _root_.Mine.hd.view_1 (looseW _root_.Mine.hd.view_1 []) mean mg mb h₀) (hk : cs.kind = .function)
  (hd : dp + 3 < recursionLimit) (hu : un + 60 < cLine) (hn : news = (CA, o) :: rest) (hna : ∀ p ∈ rest, p.1 ≠ CA) (hD : DObj PG w o ch) (lo : (CA == sysModules) = false) (hlen : ch.length + l.length ≤ 900)
  (hl : ∀ c ∈ l, c ≠ 47) (hdir : dirT p = foldS l) (hl0 : p.length ≤ 1000) (hll : l.length ≤ 100)
  (hret : ∀ o' h' tk', Fr h₀ L h' m → News h₀ L h' ((CA, o') :: rest) → DObj PG w o' (chargeN l d (l.length + 1) ch) → Q .none { s with heap := h', toks := tk' }) :
    wpAny (model PG w) (ktrTop dp un gd cn cs L a ccd cl outer) (call (.ref 192) [.ref CA, .str p tp, .int d td]) Q E s := by
  subst hn
  (w_top off; have dummyFill : (∀ (_ : PySem.Challenge.rw_il0059_01 = PySem.Challenge.rw_il0059_01) (_ : _root_.Mine.hd.heap_1 = _root_.Mine.hd.heap_1), True) := (by k_fill; intros; trivial); clear dummyFill)
  refine wpAny_call ?_
  k_dflt (refine' code_def ?k1 ?k2 ?k3 ?k4 ?k5 ?kA ?kF ?kK ?k6 ?k7 ?k8 ?k9 ?kB ?_ ?c2 ?c3 ?c4 ?c5; (case kA => exact rfl); (case kF => exact rfl); (case kK => assumption); (case k1 => k_asm); (case k2 => k_asm); (case k3 => k_asm); (case k4 => k_asm); (case k5 => k_asm); (case k6 => k_is); (case k7 => k_is); (case k8 => first | exact rm0 hd | ktr_room); (case k9 => exact BindsTo.of_eq rfl); (case c5 => decide); (case kB => exact locs rfl); (case c2 => exact rfl); (case c3 => exact rfl); (case c4 => exact rfl); k_whole; intro g' L' h' FG' F' N' B' X' T'; (try dsimp only); (try k_fold))
  replace F' : Fr g' L' h' (fun y => if y = Str.ofString "size" then some (.int d td) else if y = Str.ofString "path" then some (.str p tp) else if y = Str.ofString "charges" then some (.ref CA) else none) := fr_map F' (fun y => lookup3 y)
  (repeat' ((fail_if_success (with_reducible first | show wpAny _ _ (pyIter _) _ _ _ | show wpAny _ _ (exec (Stmt.While _ _ _ _) _) _ _ _ | show wpAny _ _ (exec (Stmt.For _ _ _ _ _) _) _ _ _ | show TurnEnd _ _ _ _ _ _ _ | show TurnPost _ _ _ _ _ _ _ _ _ | show WhileStep _ _ _ _ _ _ _ | show WhileStep2 _ _ _ _ _ _ _ _ | show wpAny _ _ (eval (Expr.ListComp _ _ _ _) _) _ _ _ | show wpAny _ _ (exec (Stmt.Assign _ (Expr.ListComp _ _ _ _) _) _) _ _ _ | show wpAny _ _ (call (Value.builtin "sorted") _) _ _ _ | show wpAny _ _ (call (Value.builtin "sum") _) _ _ _ | show wpAny _ _ (call (Value.type "enumerate") _) _ _ _ | show wpAny _ _ (call (Value.type "range") _) _ _ _ | show wpAny _ _ (binaryOp _ (Value.ref _) (Value.ref _)) _ _ _ | show wpAny _ _ (call (Value.ref _) (Value.ref _ :: _)) _ _ _ | show wpAny _ _ (call (Value.ref 178) _) _ _ _)); first | ((with_reducible refine' isq_back ?e9 ?_); (case e9 => with_reducible assumption); (try dsimp only)) | ((with_reducible show wpAny _ _ (exec _ _) _ _ _); (refine gen_exec ?_); intro P9 hP9; walk1) | (k_unfold; (try dsimp only)) | (with_reducible ((with_reducible show wpAny _ _ (setItem (Value.ref _) (Value.str _ _) _) _ _ _); (k_here; (k_dflt (refine' dct_set ?qF ?qN ?qk2 ?qk3 ?qk4 ?_; (case qF => k_asm); (case qN => k_asm); (case qk2 => assumption); (case qk3 => assumption); (case qk4 => assumption); k_whole)); intro h' o' k' F' N' hd'))) | (with_reducible ((with_reducible show wpAny _ _ (call (Value.builtin "dict.get") _) _ _ _); (k_here; (k_dflt (refine' dct_get ?qk1 ?qk2 ?qk3 ?qk4 ?_; (case qk1 => k_asm); (case qk2 => k_mem); (case qk3 => assumption); (case qk4 => assumption); k_whole)); intro _ _))) | (with_reducible ((with_reducible show wpAny _ _ (getMethod (Value.ref _) _ _) _ _ _); (k_here; (k_dflt (refine' dct_method ?qk1 ?qk2 ?qk3 ?_; (case qk1 => k_asm); (case qk2 => k_mem); (case qk3 => assumption); k_whole))))) | (with_reducible (k_here; (with_reducible show wpAny _ _ (call (Value.ref 164) [Value.str _ _]) _ _ _); k_dflt (refine' dirname_tells ?qB ?qF ?qX ?qN ?qT ?qhk ?qhd ?qhu ?qhl ?_; (  (case qB => k_asm); (case qF => k_asm); (case qX => k_asm); (case qN => k_asm); (case qT => k_asm); (case qhk => first | exact rfl | assumption); (case qhd => ktr_room); (case qhu => ktr_units)); (case qhl => (first | (with_reducible assumption) | omega | assumption)); k_whole); intro t' h' tk' F' N'; (try k_sweep))) | (with_reducible ((with_reducible show wpAny _ _ (eval (PySem.Expr.Name _ _) _) _ _ _); (k_dflt (refine' ld ?qk1 ?qk2 ?_; (case qk1 => k_asm); (case qk2 => exact rfl); k_whole)))) | walk1 | (dsimp only; walk1)))
  (with_reducible rename Fr _ _ _ _ => F1)
  (with_reducible rename News _ _ _ _ => N1)
  rw [hdir] at F1
  (refine gen_exec ?_); intro P8 hP8
  k_dflt refine' While_invM (fun m0 k m₁ nx => (m₁ (Str.ofString "charges") = some (.ref CA) ∧ m₁ (Str.ofString "size") = some (.int d td)) ∧ k ≤ l.length + 1 ∧ (∃ t, m₁ (Str.ofString "folder") = some (.str (if k = 0 then Str.ofString "/" else foldS (l.take (k - 1))) t)) ∧
    ∃ o' ch', nx = (CA, o') :: rest ∧ DObj PG w o' ch' ∧ chargeN l d k ch' = chargeN l d (l.length + 1) ch ∧ ch'.length + k ≤ 901) (n₀ := l.length + 1) F1 N1 ?hJ ?turn
  case hJ =>
    refine ⟨⟨rfl, rfl⟩, Nat.le_refl _, ⟨_, (if_pos rfl).trans (congrArg (fun z => some (Value.str z _)) ?_)⟩, o, ch, rfl, hD, rfl, by omega⟩
    rw [if_neg (by omega), Nat.add_sub_cancel, List.take_length]
  case turn =>
    rintro k m₁ news₁ h₁ tk₁ F2 N2 ⟨⟨hm1, hm2⟩, hk1, ⟨t, hp⟩, o', ch', rfl, hD', hR, hlen'⟩
    have F3 := fr_known3 F2 hm1 hm2 hp
    clear F2
    have hlen'' : ch'.length ≤ 1000 := by omega
    rcases k with _ | k
    · rw [if_pos rfl] at F3
      have hR' : ch' = chargeN l d (l.length + 1) ch := hR
      rw [hR'] at hD'
      (repeat' ((fail_if_success (with_reducible first | show wpAny _ _ (pyIter _) _ _ _ | show wpAny _ _ (exec (Stmt.While _ _ _ _) _) _ _ _ | show wpAny _ _ (exec (Stmt.For _ _ _ _ _) _) _ _ _ | show TurnEnd _ _ _ _ _ _ _ | show TurnPost _ _ _ _ _ _ _ _ _ | show WhileStep _ _ _ _ _ _ _ | show WhileStep2 _ _ _ _ _ _ _ _ | show wpAny _ _ (eval (Expr.ListComp _ _ _ _) _) _ _ _ | show wpAny _ _ (exec (Stmt.Assign _ (Expr.ListComp _ _ _ _) _) _) _ _ _ | show wpAny _ _ (call (Value.builtin "sorted") _) _ _ _ | show wpAny _ _ (call (Value.builtin "sum") _) _ _ _ | show wpAny _ _ (call (Value.type "enumerate") _) _ _ _ | show wpAny _ _ (call (Value.type "range") _) _ _ _ | show wpAny _ _ (binaryOp _ (Value.ref _) (Value.ref _)) _ _ _ | show wpAny _ _ (call (Value.ref _) (Value.ref _ :: _)) _ _ _ | show wpAny _ _ (call (Value.ref 178) _) _ _ _)); first | ((with_reducible refine' isq_back ?e9 ?_); (case e9 => with_reducible assumption); (try dsimp only)) | ((with_reducible show wpAny _ _ (exec _ _) _ _ _); (refine gen_exec ?_); intro P9 hP9; walk1) | (k_unfold; (try dsimp only)) | (with_reducible ((with_reducible show wpAny _ _ (setItem (Value.ref _) (Value.str _ _) _) _ _ _); (k_here; (k_dflt (refine' dct_set ?qF ?qN ?qk2 ?qk3 ?qk4 ?_; (case qF => k_asm); (case qN => k_asm); (case qk2 => assumption); (case qk3 => assumption); (case qk4 => assumption); k_whole)); intro h' o' k' F' N' hd'))) | (with_reducible ((with_reducible show wpAny _ _ (call (Value.builtin "dict.get") _) _ _ _); (k_here; (k_dflt (refine' dct_get ?qk1 ?qk2 ?qk3 ?qk4 ?_; (case qk1 => k_asm); (case qk2 => k_mem); (case qk3 => assumption); (case qk4 => assumption); k_whole)); intro _ _))) | (with_reducible ((with_reducible show wpAny _ _ (getMethod (Value.ref _) _ _) _ _ _); (k_here; (k_dflt (refine' dct_method ?qk1 ?qk2 ?qk3 ?_; (case qk1 => k_asm); (case qk2 => k_mem); (case qk3 => assumption); k_whole))))) | (with_reducible (k_here; (with_reducible show wpAny _ _ (call (Value.ref 164) [Value.str _ _]) _ _ _); k_dflt (refine' dirname_tells ?qB ?qF ?qX ?qN ?qT ?qhk ?qhd ?qhu ?qhl ?_; (  (case qB => k_asm); (case qF => k_asm); (case qX => k_asm); (case qN => k_asm); (case qT => k_asm); (case qhk => first | exact rfl | assumption); (case qhd => ktr_room); (case qhu => ktr_units)); (case qhl => (first | (with_reducible assumption) | omega | assumption)); k_whole); intro t' h' tk' F' N'; (try k_sweep))) | (with_reducible ((with_reducible show wpAny _ _ (eval (PySem.Expr.Name _ _) _) _ _ _); (k_dflt (refine' ld ?qk1 ?qk2 ?_; (case qk1 => k_asm); (case qk2 => exact rfl); k_whole)))) | walk1 | (dsimp only; walk1)))
      (with_reducible rename Fr _ _ _ _ => F9)
      (with_reducible rename News _ _ _ _ => N9)
      exact hret _ _ _ F9 N9 hD'
    · rw [if_neg (by omega), Nat.add_sub_cancel] at F3
      have hne := foldS_ne (l.take k)
      have hfl : (foldS (l.take k)).length ≤ 1000 := by rw [foldS_len, List.length_take]; omega
      have hdn : dirT (foldS (l.take k)) = if k = 0 then Str.ofString "/" else foldS (l.take (k - 1)) := by
        rcases k with _ | k
        · exact dir_top
        · obtain ⟨c, e, hc⟩ := take_next (l := l) (k := k) (by omega)
          rw [if_neg (by omega), Nat.add_sub_cancel, e]
          exact dir_fold (fun c hc => hl c (List.mem_of_mem_take hc)) (hl c hc)
      (repeat' ((fail_if_success (with_reducible first | show wpAny _ _ (pyIter _) _ _ _ | show wpAny _ _ (exec (Stmt.While _ _ _ _) _) _ _ _ | show wpAny _ _ (exec (Stmt.For _ _ _ _ _) _) _ _ _ | show TurnEnd _ _ _ _ _ _ _ | show TurnPost _ _ _ _ _ _ _ _ _ | show WhileStep _ _ _ _ _ _ _ | show WhileStep2 _ _ _ _ _ _ _ _ | show wpAny _ _ (eval (Expr.ListComp _ _ _ _) _) _ _ _ | show wpAny _ _ (exec (Stmt.Assign _ (Expr.ListComp _ _ _ _) _) _) _ _ _ | show wpAny _ _ (call (Value.builtin "sorted") _) _ _ _ | show wpAny _ _ (call (Value.builtin "sum") _) _ _ _ | show wpAny _ _ (call (Value.type "enumerate") _) _ _ _ | show wpAny _ _ (call (Value.type "range") _) _ _ _ | show wpAny _ _ (binaryOp _ (Value.ref _) (Value.ref _)) _ _ _ | show wpAny _ _ (call (Value.ref _) (Value.ref _ :: _)) _ _ _ | show wpAny _ _ (call (Value.ref 178) _) _ _ _)); first | ((with_reducible refine' isq_back ?e9 ?_); (case e9 => with_reducible assumption); (try dsimp only)) | ((with_reducible show wpAny _ _ (exec _ _) _ _ _); (refine gen_exec ?_); intro P9 hP9; walk1) | (k_unfold; (try dsimp only)) | (with_reducible ((with_reducible show wpAny _ _ (setItem (Value.ref _) (Value.str _ _) _) _ _ _); (k_here; (k_dflt (refine' dct_set ?qF ?qN ?qk2 ?qk3 ?qk4 ?_; (case qF => k_asm); (case qN => k_asm); (case qk2 => assumption); (case qk3 => assumption); (case qk4 => assumption); k_whole)); intro h' o' k' F' N' hd'))) | (with_reducible ((with_reducible show wpAny _ _ (call (Value.builtin "dict.get") _) _ _ _); (k_here; (k_dflt (refine' dct_get ?qk1 ?qk2 ?qk3 ?qk4 ?_; (case qk1 => k_asm); (case qk2 => k_mem); (case qk3 => assumption); (case qk4 => assumption); k_whole)); intro _ _))) | (with_reducible ((with_reducible show wpAny _ _ (getMethod (Value.ref _) _ _) _ _ _); (k_here; (k_dflt (refine' dct_method ?qk1 ?qk2 ?qk3 ?_; (case qk1 => k_asm); (case qk2 => k_mem); (case qk3 => assumption); k_whole))))) | (with_reducible (k_here; (with_reducible show wpAny _ _ (call (Value.ref 164) [Value.str _ _]) _ _ _); k_dflt (refine' dirname_tells ?qB ?qF ?qX ?qN ?qT ?qhk ?qhd ?qhu ?qhl ?_; (  (case qB => k_asm); (case qF => k_asm); (case qX => k_asm); (case qN => k_asm); (case qT => k_asm); (case qhk => first | exact rfl | assumption); (case qhd => ktr_room); (case qhu => ktr_units)); (case qhl => (first | (with_reducible assumption) | omega | assumption)); k_whole); intro t' h' tk' F' N'; (try k_sweep))) | (with_reducible ((with_reducible show wpAny _ _ (eval (PySem.Expr.Name _ _) _) _ _ _); (k_dflt (refine' ld ?qk1 ?qk2 ?_; (case qk1 => k_asm); (case qk2 => exact rfl); k_whole)))) | walk1 | (dsimp only; walk1)))
      (with_reducible rename Fr _ _ _ _ => F9)
      (with_reducible rename News _ _ _ _ => N9)
      (rename DObj _ _ _ _ => hD9)
      refine WhileStep.intro (n' := k) F9 N9 (by omega) ⟨⟨rfl, rfl⟩, by omega, ⟨_, (if_pos rfl).trans (congrArg (fun z => some (Value.str z _)) hdn)⟩, _, _, rfl, hD9, hR, ?_⟩
      have := putC_len ch' (foldS (l.take k)) (getC ch' (foldS (l.take k)) + d)
      omega
end
end

/-! E1 -/
section
section
variable {prog : Program} {w : World} {A : Around} {E : Value → Shared → Prop} {s : Shared} {env : Env} {h₀ : Heap} {body : List Stmt} {Q : Flow → Shared → Prop}
open LCg
theorem for_enum {elts : List PySem.Expr} {k : Nat} {tp : Pos} {l : Addr} {vs : List Value} {m₀ : Str → Option Value} {news : List (Addr × Obj)} (J : Nat → (Str → Option Value) → List (Addr × Obj) → Prop)
    (hh : A.handled = none) (hl : s.heap.IsList l vs.toArray) (hlL : l ≠ env.locals) (F : Fr h₀ env.locals s.heap m₀) (N : News h₀ env.locals s.heap news) (hj : J 0 m₀ news)
    (turn : ∀ i v m₁ news₁ h tk own I T t, i < vs.length → vs[i]? = some v → J i m₁ news₁ → (∀ p ∈ own, p.1 = I + 1 ∨ p.1 = I ∨ p.1 = l) → (∀ p ∈ news₁, p.1 ≠ I ∧ p.1 ≠ I + 1) → (∃ o, (I, o) ∈ own) → (∃ o, (I + 1, o) ∈ own) → (∀ p ∈ news, p.1 < I) → IsTup h T #[.int (i : Int) t, v] → Fr h₀ env.locals h m₁ → News h₀ env.locals h (news₁ ++ own) →
      wpAny (model prog w) A (assign (.Tuple elts k tp) env (.ref T)) (fun _ s₂ => wpAny (model prog w) A (execs body env) (TurnPost h₀ env.locals own I (fun m nx => (∀ p ∈ nx, p.1 ≠ I + 1) ∧ J (i + 1) m nx) { s with heap := h, toks := tk } Q) E s₂) E { s with heap := h, toks := tk })
    (done : ∀ m₁ news₁ h tk, J vs.length m₁ news₁ → Fr h₀ env.locals h m₁ → News h₀ env.locals h news₁ → Q .next { s with heap := h, toks := tk }) :
    wpAny (model prog w) A (call (.type "enumerate") [.ref l]) (fun xv s₁ => wpAny (model prog w) A (pyIter xv) (fun it s₂ => TurnsAt prog w A h₀ env (.Tuple elts k tp) body Q E it s₂) E s₁) E s := by
  obtain ⟨ol, hol, _⟩ := id hl
  have hlt : l < s.heap.objs.size := Heap.lt_size hol
  have hLs : env.locals < s.heap.objs.size := F.ns.lt
  refine call_enumerate_list hl fun h' hE hI hsz' hk => ?_
  refine wpAny_pyIter_enum hE ?_
  have W0 := (WalksT.enumerate (prog := prog) (w := w) hh (s.heap.objs.size + 1) s.heap.objs.size l (Nat.succ_ne_self _) (ktN 1 hlt) (Nat.ne_of_lt hlt) vs.toArray).toU
  simp only [List.size_toArray, List.getElem?_toArray] at W0
  have W := KTurns.ofWalksU (elts := elts) (k := k) (pos := tp) W0
  refine ⟨_, _, _, _, _, _, _, m₀, news, J, rfl, W, ?_, ?_, ?_, ⟨⟨.none, hE⟩, hI, hl.at fun o e => hk l o e⟩, F.keeps hk, N.grown hk, hj, ?_, ?_⟩
  · intro hm
    have hb' : env.locals = s.heap.objs.size + 1 ∨ env.locals = s.heap.objs.size ∨ env.locals = l := by simpa using hm
    rcases hb' with e | e | e
    · exact ktN 1 hLs e
    · exact Nat.ne_of_lt hLs e
    · exact hlL e.symm
  · intro b hb
    have hb' : b = s.heap.objs.size + 1 ∨ b = s.heap.objs.size := by simpa using hb
    rcases hb' with rfl | rfl
    · exact ktu_new F (Nat.le_add_right _ _)
    · exact ktu_new F (Nat.le_refl _)
  · intro p hp hI'
    have hb' : p.1 = s.heap.objs.size + 1 ∨ p.1 = s.heap.objs.size := by simpa using hI'
    have hlp := Heap.lt_size (N p hp).1
    rcases hb' with e | e
    · exact ktN 1 hlp e
    · exact Nat.ne_of_lt hlp e
  · rintro i v m₁ news₁ h tk own hin ⟨T, vals, rfl, ⟨t, x, hx, rfl⟩, hT⟩ hJ hoff hown hget hall hst F₁ N₁
    have hown' : ∀ p ∈ own, p.1 = s.heap.objs.size + 1 ∨ p.1 = s.heap.objs.size ∨ p.1 = l := fun p hp => by
      have := hown p hp
      simpa using this
    have hoff' : ∀ p ∈ news₁, p.1 ≠ s.heap.objs.size ∧ p.1 ≠ s.heap.objs.size + 1 := fun p hp => by
      have := hoff p hp
      simp only [List.mem_cons, List.not_mem_nil, or_false, not_or] at this
      exact ⟨this.2, this.1⟩
    obtain ⟨⟨old, he⟩, ⟨oi, hoi, _⟩, _⟩ := hst
    have hI1 : ∃ o, (s.heap.objs.size, o) ∈ own := ⟨oi, hall _ (by simp) (ktu_new F (Nat.le_refl _)) _ hoi⟩
    have hI2 : ∃ o, (s.heap.objs.size + 1, o) ∈ own := ⟨_, hall _ (by simp) (ktu_new F (Nat.le_add_right _ _)) _ he⟩
    refine wpAny_mono (turn i x m₁ news₁ h tk own s.heap.objs.size T t hin hx hJ hown' hoff' hI1 hI2 (fun p hp => Heap.lt_size (N p hp).1) hT F₁ (news_swap N₁)) (fun _ s₂ h₂ => wpAny_mono h₂ (fun f s₃ p => ?_) fun _ _ e => e) fun _ _ e => e
    have fin : TurnEnd h₀ env.locals own s.heap.objs.size (fun m nx => (∀ p ∈ nx, p.1 ≠ s.heap.objs.size + 1) ∧ J (i + 1) m nx) { s with heap := h, toks := tk } s₃ → LoopStepU h₀ env.locals [s.heap.objs.size + 1, s.heap.objs.size] own (J (i + 1)) { s with heap := h, toks := tk } .next s₃ := by
      rintro ⟨h', tk', m', nx, e, F', N', hI, hI2, hm⟩
      refine ⟨rfl, h', tk', m', nx, e, F', N', fun p hp q => ?_, hm⟩
      rcases List.mem_cons.mp q with q | q
      · exact hI2 p hp q
      · exact hI p hp (List.mem_singleton.mp q)
    cases f with
    | ret v => exact .ret p
    | brk => exact .brk p
    | next => exact .next (fin p)
    | cont => exact .cont (fin p)
  · rintro h' tk m' news' F' N' _ hJ
    exact done m' news' h' tk hJ F' N'

theorem for_listT {target : PySem.Expr} {l : Addr} {vs : List Value} {m₀ : Str → Option Value} {news : List (Addr × Obj)} (J : Nat → (Str → Option Value) → List (Addr × Obj) → Prop)
    (hh : A.handled = none) (hl : s.heap.IsList l vs.toArray) (hlL : l ≠ env.locals) (F : Fr h₀ env.locals s.heap m₀) (N : News h₀ env.locals s.heap news) (hj : J 0 m₀ news)
    (turn : ∀ i v m₁ news₁ h tk own I, i < vs.length → vs[i]? = some v → J i m₁ news₁ → (∀ p ∈ own, p.1 = I ∨ p.1 = l) → (∀ p ∈ news₁, p.1 ≠ I) → (∃ o, (I, o) ∈ own) → (∀ p ∈ news, p.1 < I) → Fr h₀ env.locals h m₁ → News h₀ env.locals h (news₁ ++ own) →
      wpAny (model prog w) A (assign target env v) (fun _ s₂ => wpAny (model prog w) A (execs body env) (TurnPost h₀ env.locals own I (J (i + 1)) { s with heap := h, toks := tk } Q) E s₂) E { s with heap := h, toks := tk })
    (done : ∀ m₁ news₁ h tk, J vs.length m₁ news₁ → Fr h₀ env.locals h m₁ → News h₀ env.locals h news₁ → Q .next { s with heap := h, toks := tk }) :
    wpAny (model prog w) A (pyIter (.ref l)) (fun it s₂ => TurnsAt prog w A h₀ env target body Q E it s₂) E s := by
  obtain ⟨ol, hol, _⟩ := id hl
  have hlt : l < s.heap.objs.size := Heap.lt_size hol
  have hne : l ≠ s.heap.objs.size := Nat.ne_of_lt hlt
  refine wpAny_pyIter_list hl ?_
  have W := Walks.list (prog := prog) (w := w) hh s.heap.objs.size l hne vs.toArray
  simp only [List.size_toArray, List.getElem?_toArray] at W
  refine ⟨_, _, _, _, _, _, _, m₀, news, J, rfl, KTurns.ofWalks (target := target) W fun i v s Q E st q => letGo_listiter st.1 q, ?_, ?_, ?_, ⟨⟨_, Heap.get?_push_size _ rfl, rfl, rfl⟩, hl.at fun o e => Heap.get?_push_of_some _ e⟩, F.push _, (fun p hp => ⟨Heap.get?_push_of_some _ (N p hp).1, (N p hp).2⟩), hj, ?_, ?_⟩
  · intro hm
    rcases List.mem_cons.mp hm with e | hm
    · exact absurd F.ns.lt (e ▸ Nat.lt_irrefl _)
    · exact hlL (List.mem_singleton.mp hm).symm
  · intro b hb
    rw [List.mem_singleton.mp hb]
    exact next_is_new F
  · intro p hp hI
    exact absurd (Heap.lt_size (N p hp).1) ((List.mem_singleton.mp hI) ▸ Nat.lt_irrefl _)
  · rintro i v m₁ news₁ h tk own hin hv hJ hoff hown hget hall hst F₁ N₁
    obtain ⟨oi, hoi, _⟩ := hst.1
    have hI1 : ∃ o, (s.heap.objs.size, o) ∈ own := ⟨oi, hall _ (List.mem_cons_self ..) (next_is_new F) _ hoi⟩
    refine wpAny_mono (turn i v m₁ news₁ h tk own s.heap.objs.size hin hv hJ (fun p hp => ?_) (fun p hp e => hoff p hp (List.mem_singleton.mpr e)) hI1 (fun p hp => Heap.lt_size (N p hp).1) F₁ (news_swap N₁)) (fun _ s₂ h₂ => wpAny_mono h₂ (fun f s₃ p => ?_) fun _ _ e => e) fun _ _ e => e
    · rcases List.mem_cons.mp (hown p hp) with h | h
      · exact .inl h
      · exact .inr (List.mem_singleton.mp h)
    have fin : TurnEnd h₀ env.locals own s.heap.objs.size (J (i + 1)) { s with heap := h, toks := tk } s₃ → LoopStepU h₀ env.locals [s.heap.objs.size] own (J (i + 1)) { s with heap := h, toks := tk } .next s₃ := by
      rintro ⟨h', tk', m', nx, e, F', N', hI, hm⟩
      exact ⟨rfl, h', tk', m', nx, e, F', N', fun p hp q => hI p hp (List.mem_singleton.mp q), hm⟩
    cases f with
    | ret v => exact .ret p
    | brk => exact .brk p
    | next => exact .next (fin p)
    | cont => exact .cont (fin p)
  · rintro h' tk m' news' F' N' _ hJ
    exact done m' news' h' tk hJ F' N'
end
end

/-! E2 -/
section
open PySem.Calls PyProof.Rows.LCg
theorem Kvs.at {kvs : List (Str × Value)} {ch : List (Str × Int)} (h : Kvs kvs ch) : ∀ {i : Nat} {k : Str} {x : Value}, kvs[i]? = some (k, x) → ∃ n t, x = .int n t ∧ ch[i]? = some (k, n) := by
  induction h with
  | nil => intro i k x hx; simp at hx
  | @cons k' n t r q _ ih =>
    intro i k x hx
    cases i with
    | zero =>
      have e : (k', Value.int n t) = (k, x) := by simpa using hx
      cases e
      exact ⟨n, t, rfl, rfl⟩
    | succ i => exact ih (by simpa using hx)
section
variable {prog : Program} {w : World} {A : Around} {E : Value → Shared → Prop} {s : Shared} {env : Env} {h₀ : Heap} {L : Addr} {m : Str → Option Value}
variable {elt : PySem.Expr} {ifs : List PySem.Expr} {scope : Scope} {cl : List (Str × Addr)} {Fin : Shared → List Value → List (Addr × Obj) → Prop} {news : List (Addr × Obj)}
theorem comp_items {a b : Str} {pa pb tp : Pos} {kk : Nat} {vw d : Addr} {od : Obj} {ch : List (Str × Int)} (J : Nat → List Value → List (Addr × Obj) → Prop) (hh : A.handled = none) (hkind : scope.kind = .function) (hxa : scope.names.lookup a = some .local) (hxb : scope.names.lookup b = some .local) (hab : ¬ a = b)
    (F : Fr h₀ L s.heap m) (N : News h₀ L s.heap news)
    (hv : ∃ ov, s.heap.get? vw = some ov ∧ ov.cls = .type "dict_items" ∧ ov.data = .fields #[.ref d]) (hmd : (d, od) ∈ news) (hd : DObj prog w od ch) (hsz : ch.length ≤ 1000) (hlen : ∀ i ys nw, J i ys nw → ys.length ≤ i) (h0 : J 0 [] news)
    (step : ∀ s' I, I ≠ d → (∀ p ∈ news, p.1 < I) → CStep prog w A h₀ L m env elt ifs scope cl s' [I, d] [I] ch.length J (fun i mC => ∃ k n t t', ch[i]? = some (k, n) ∧ mC a = some (.str k t) ∧ mC b = some (.int n t')))
    (fin : ∀ s', s' = { s with heap := s'.heap } → ∀ ys nw, J ch.length ys nw → Fin s' ys nw) :
    wpAny (model prog w) A (pyIter (.ref vw)) (CompAt prog w A h₀ L m env elt (.Tuple [.Name a pa, .Name b pb] kk tp) ifs scope cl Fin) E s := by
  obtain ⟨kvs, hd1, hd2⟩ := hd
  have hkl := hd2.length
  have hnd := N _ hmd
  obtain ⟨ep, hat⟩ := (Heap.dictOf_iff.mpr ⟨od, hnd.1, hd1⟩ : s.heap.DictOf (PySem.strKind prog w) d kvs).dictAt
  have hne : d ≠ s.heap.objs.size := Nat.ne_of_lt (Heap.lt_size hnd.1)
  refine wpAny_pyIter_items hv hat ?_
  have W := kti_itemsTurns (knd := PySem.strKind prog w) (elts := [.Name a pa, .Name b pb]) (kk := kk) (pos := tp) hh s.heap.objs.size d hne kvs ep
  rw [hkl] at W
  refine ⟨_, _, _, _, _, _, _, news, J, _, rfl, W, by rw [sizeLine_eq]; omega, fun s Q E st q => ?_, ⟨⟨.none, .none, ?_⟩, hat.push _⟩, ?_, ?_, ?_, ?_, F.push _, (fun p hp => ⟨Heap.get?_push_of_some _ (N p hp).1, (N p hp).2⟩), ?_, hlen, h0, ?_, step _ _ (Ne.symm hne) fun p hp => Heap.lt_size (N p hp).1, fin _ rfl⟩
  · obtain ⟨⟨ok, ov, he⟩, _⟩ := st
    exact kcp_self he q
  · rw [← hkl]; exact Heap.get?_push_size _ rfl
  · rintro i h ⟨⟨ok, ov, he⟩, _⟩ b hb
    rw [List.mem_singleton.mp hb]
    exact ⟨_, he⟩
  · intro b hb
    show b < (s.heap.push _).objs.size
    rw [Heap.size_push]
    rcases List.mem_cons.mp hb with rfl | hb
    · exact Nat.lt_succ_self _
    · rw [List.mem_singleton.mp hb]; exact Nat.lt_succ_of_lt (Heap.lt_size hnd.1)
  · intro hm
    rcases List.mem_cons.mp hm with e | hm
    · exact absurd F.ns.lt (e ▸ Nat.lt_irrefl _)
    · exact hnd.2.1 (List.mem_singleton.mp hm).symm
  · intro b hb
    rw [List.mem_singleton.mp hb]
    exact next_is_new F
  · intro p hp hI
    exact absurd (Heap.lt_size (N p hp).1) ((List.mem_singleton.mp hI) ▸ Nat.lt_irrefl _)
  · intro i v ys news₁ s C mC Q E' hi hP hJ N hn h
    obtain ⟨T, key, k, x, rfl, hx, hkey, hT⟩ := hP
    obtain ⟨n, t', rfl, hch⟩ := hd2.at hx
    obtain ⟨t, rfl⟩ := Value.isStrOf_shape hkey
    refine kcp_assign (env := compEnvC scope cl C env) hh hT (lookup_relabel_local hxa) (lookup_relabel_local hxb) (cenv_hp hkind) hn fun h' tk hn' hk => h h' tk _ ⟨k, n, t, t', hch, ?_, ?_⟩ hn' hk
    · rw [if_neg hab, if_pos rfl]
    · rw [if_pos rfl]
theorem dct_items_method {pl : Sem Bool} {d : Addr} {o : Obj} {ch : List (Str × Int)} {Q : Value × List Value → Shared → Prop} (N : News h₀ L s.heap news) (hp : (d, o) ∈ news) (hd : DObj prog w o ch) (h : Q (.builtin "dict.items", [.ref d]) s) : wpAny (model prog w) A (getMethod (.ref d) "items" pl) Q E s := by
  obtain ⟨kvs, h1, h2⟩ := hd
  exact kdl_method PySem.F.slot_dict_items PySem.F.type_dict_items N hp h1 h
theorem dct_items {d : Addr} {o : Obj} {ch : List (Str × Int)} {Q : Value → Shared → Prop} (F : Fr h₀ L s.heap m) (N : News h₀ L s.heap news) (hp : (d, o) ∈ news) (hd : DObj prog w o ch) (lo : (d == sysModules) = false)
    (h : ∀ V h', (∃ ov, h'.get? V = some ov ∧ ov.cls = .type "dict_items" ∧ ov.data = .fields #[.ref d]) → Fr h₀ L h' m → News h₀ L h' news → Q (.ref V) { s with heap := h' }) : wpAny (model prog w) A (call (.builtin "dict.items") [.ref d]) Q E s := by
  obtain ⟨kvs, h1, h2⟩ := hd
  exact kta_callItems F N hp h1 lo fun h' hv F' N' => h _ h' hv F' N'
end
end

/-! E4 -/
section
open PySem.Calls PyProof.Rows.LCg
section
variable {prog : Program} {w : World} {A : Around} {E : Value → Shared → Prop} {s : Shared} {env : Env} {h₀ : Heap} {L : Addr} {m : Str → Option Value}
variable {scope : Scope} {cl : List (Str × Addr)} {Fin : Shared → List Value → List (Addr × Obj) → Prop} {news : List (Addr × Obj)}
theorem cend {wr : List Addr} {own news₁ : List (Addr × Obj)} {C D : Addr} {ys : List Value} {oC : Obj} {mC : Str → Option Value} {Jn : List (Addr × Obj) → Prop} {s₁ : Shared} {h' : Heap} {tk : Nat}
    (F : Fr h₀ L h' m) (hC : NsObj oC mC) (N : News h₀ L h' ((C, oC) :: (D, lst ys) :: (news₁ ++ own))) (off : ∀ p ∈ news₁, p.1 ∉ wr ∧ p.1 ≠ C ∧ p.1 ≠ D) (hj : Jn news₁) : CEnd h₀ L m wr own C D ys Jn s₁ { s₁ with heap := h', toks := tk } :=
  ⟨h', tk, news₁, oC, mC, rfl, F, hC, N, off, hj⟩
noncomputable def namesOf (es : List PySem.Expr) : List (Str × Pos) := es.filterMap fun e => match e with
  | .Name x p => some (x, p)
  | _ => none
/-- a comprehension that takes one of the names of its target -/
theorem comp_pick {elts : List PySem.Expr} {k : Nat} {tp px : Pos} {x : Str} {l : Addr} {vs : List Value} (T : Nat → List Value → Prop) (V : Nat → Value → Prop)
    (hh : A.handled = none) (hl : s.heap.IsList l vs.toArray) (hlL : l ≠ L) (F : Fr h₀ L s.heap m) (N : News h₀ L s.heap news) (hsz : vs.length ≤ 1000)
    (hkind : scope.kind = .function) (hx : ∀ x ∈ namesOf elts, scope.names.lookup x.1 = some .local)
    (hel : ∀ C, (assignEach elts (compEnvC scope cl C env)).map (·.2) = (namesOf elts).map fun x => assign (.Name x.1 x.2) (compEnvC scope cl C env)) (hstar : ∀ C, (assignEach elts (compEnvC scope cl C env)).findIdx? (·.1) = none) (hnl : ∀ C, (assignEach elts (compEnvC scope cl C env)).length = (namesOf elts).length)
    (hin : ∀ (i : Nat) v, vs[i]? = some v → ∃ a o its, v = .ref a ∧ (a, o) ∈ news ∧ o.cls = .type "list" ∧ (∃ k, o.data = .seq (List.toArray its) k) ∧ (namesOf elts).length = its.length ∧ T i its)
    (hxn : scope.names.lookup x = some .local) (hdb : (x == ("__debug__" : Str)) = false) (hval : ∀ i its m', T i its → ∃ v, bindAll (namesOf elts) its m' x = some v ∧ V i v)
    (fin : ∀ s', s' = { s with heap := s'.heap } → ∀ ys : List Value, ys.length = vs.length → (∀ j, j < vs.length → ∃ v, ys[j]? = some v ∧ V j v) → Fin s' ys news) :
    wpAny (model prog w) A (pyIter (.ref l)) (CompAt prog w A h₀ L m env (.Name x px) (.Tuple elts k tp) [] scope cl Fin) E s := by
  refine comp_list (fun i ys nw => nw = news ∧ ys.length = i ∧ ∀ j, j < i → ∃ v, ys[j]? = some v ∧ V j v) _ hh hl hlL F N (by rw [sizeLine_eq]; omega) (fun i ys nw h => Nat.le_of_eq h.2.1) ⟨rfl, rfl, fun j hj => absurd hj (Nat.not_lt_zero j)⟩
    (casg_tup T hh hkind hx hel hstar hnl fun i v ys nw hJ hv => by rw [hJ.1]; exact hin i v hv) (fun s' I hIl hlt => ?_) (fun s' hs he ys nw hJ => by rw [hJ.1]; exact fin s' he ys hJ.2.1 hJ.2.2)
  rintro i ys news₁ own h₁ tk₁ C oC mC D E' hi ⟨rfl, hyl, hys⟩ ⟨its, m', hT, rfl⟩ hoff hown hwr hCD F₁ hoC N₁
  obtain ⟨v, hv, hV⟩ := hval i its m' hT
  refine tst_nil ?_
  rw [if_pos rfl]
  refine LCgL.ld_own N₁ (.head _) hoC hv ?_ hkind (lookup_relabel_local hxn) hdb
  refine cend F₁ hoC N₁ hoff ⟨rfl, by rw [List.length_append, hyl]; rfl, fun j hj => ?_⟩
  by_cases hji : j < i
  · obtain ⟨u, hu, hVu⟩ := hys j hji
    exact ⟨u, by rw [List.getElem?_append_left (by omega)]; exact hu, hVu⟩
  · have : j = i := by omega
    subst this
    exact ⟨v, by rw [List.getElem?_append_right (by omega), hyl, Nat.sub_self]; rfl, hV⟩
end
end

/-! E5 -/
section
open LCg PySem.StrLaws
noncomputable abbrev Lt := Int × Int × Int
inductive LetsAt (rest : List (Addr × Obj)) : List Value → List Lt → Prop
  | nil : LetsAt rest [] []
  | cons {a n t1 t2 t3 x r q} : (a, listOf #[.int x.1 t1, .int x.2.1 t2, .int x.2.2 t3] n) ∈ rest → LetsAt rest r q → LetsAt rest (.ref a :: r) (x :: q)
theorem LetsAt.len {rest : List (Addr × Obj)} {lv : List Value} {ls : List Lt} (h : LetsAt rest lv ls) : lv.length = ls.length := by
  induction h with
  | nil => rfl
  | cons _ _ ih => rw [List.length_cons, List.length_cons, ih]
theorem LetsAt.at {rest : List (Addr × Obj)} {lv : List Value} {ls : List Lt} (h : LetsAt rest lv ls) : ∀ {i : Nat} {v : Value}, lv[i]? = some v → ∃ a n t1 t2 t3 x, v = .ref a ∧ ls[i]? = some x ∧ (a, listOf #[.int x.1 t1, .int x.2.1 t2, .int x.2.2 t3] n) ∈ rest := by
  induction h with
  | nil => intro i v hv; simp at hv
  | @cons a n t1 t2 t3 x r q hm _ ih =>
    intro i v hv
    cases i with
    | zero =>
      have e : Value.ref a = v := by simpa using hv
      exact ⟨a, n, t1, t2, t3, x, e.symm, rfl, hm⟩
    | succ i => exact ih (by simpa using hv)
theorem LetsAt.grow {rest rest' : List (Addr × Obj)} {lv : List Value} {ls : List Lt} (h : LetsAt rest lv ls) (hs : ∀ p ∈ rest, p ∈ rest') : LetsAt rest' lv ls := by
  induction h with
  | nil => exact .nil
  | cons hm _ ih => exact .cons (hs _ hm) ih
theorem ints_of : ∀ {ys : List Value} {ns : List Int}, ys.length = ns.length → (∀ j : Nat, j < ns.length → ∃ v, ys[j]? = some v ∧ ∃ n t, ns[j]? = some n ∧ v = .int n t) → IntsAre ys ns
  | [], [], _, _ => .nil
  | [], _ :: _, h, _ => by simp at h
  | _ :: _, [], h, _ => by simp at h
  | y :: ys, n :: ns, h, hj => by
    obtain ⟨v, e1, n', t, e2, rfl⟩ := hj 0 (Nat.succ_pos _)
    have e1' : y = .int n' t := by simpa using e1
    have e2' : n = n' := by simpa using e2
    subst e1' e2'
    exact .cons _ _ (ints_of (Nat.succ.inj h) fun j hlt => hj (j + 1) (Nat.succ_lt_succ hlt))
theorem news_second {P : Prop} {h₀ h : Heap} {L a b : Addr} {o1 o2 : Obj} {r : List (Addr × Obj)} (N : News h₀ L h ((a, o1) :: (b, o2) :: r)) (k : ∀ ob, ob = o2 → News h₀ L h ((a, o1) :: (b, ob) :: r) → P) : P := k o2 rfl N
theorem name4 {P : Prop} {h₀ h : Heap} {L a b c d e : Addr} {o1 o2 o3 o4 o5 : Obj} {r : List (Addr × Obj)} (N : News h₀ L h ((a, o1) :: (b, o2) :: (c, o3) :: (d, o4) :: (e, o5) :: r)) (k : ∀ TA CA HA o, TA = c → CA = d → HA = e → o = o4 → P) : P := k c d e o4 rfl rfl rfl rfl
noncomputable def digS (i : Nat) : Str := Str.ofString (toString (i : Int))
noncomputable def dig (i : Nat) : List Nat := (digS i).cps.toList
noncomputable def pathL (i : Nat) (x : Lt) : List Nat := 47 :: 109 :: segsL (hexL x.2.2.natAbs) ++ 47 :: dig i
noncomputable def keyL (i : Nat) (x : Lt) : List Key := [.i x.1, .i (-x.2.1), .s (pathL i x)]
noncomputable def keysF : Nat → List Lt → List (List Key)
  | _, [] => []
  | i, x :: r => keyL i x :: keysF (i + 1) r
theorem dig_ok {i : Nat} (h : i < 12) : (digS i).length ≤ 100 ∧ (dig i).head? ≠ some 47 ∧ 47 ∉ dig i := by
  have all : ∀ x : Fin 12, (digS x).length ≤ 100 ∧ (dig x).head? ≠ some 47 ∧ 47 ∉ dig x := by decide +kernel
  exact all ⟨i, h⟩
theorem hex_ne {n : Nat} (h : n < 16 ^ 12) : ∀ c ∈ hexL n, c ≠ 47 := fun c hc e => by have := hexL_in 12 n h c hc; lia
theorem join_path {i : Nat} {x : Lt} (h : i < 12) (hn : x.2.2.natAbs < 16 ^ 12) : joinT (wayS x.2.2.natAbs) (Str.ofString (toString (i : Int))) = mkS (pathL i x) := by
  have e : Str.ofString (toString (i : Int)) = mkS (dig i) := mkS_of (digS i)
  rw [e]
  exact way_join (hex_ne hn) (dig_ok h).2.1
theorem pathL_len {i : Nat} {x : Lt} (h : i < 12) (hn : x.2.2.natAbs < 16 ^ 12) : (mkS (pathL i x)).length ≤ 1000 := by
  have h1 := foldS_len (hexL x.2.2.natAbs)
  have h2 := hexL_len 12 _ hn
  have h3 : (dig i).length ≤ 100 := (dig_ok h).1
  unfold foldS at h1
  rw [mkS_len] at h1 ⊢
  unfold pathL
  rw [List.length_append, h1, List.length_cons]
  lia
theorem keysF_mem : ∀ {ls : List Lt} {i : Nat} {k : List Key}, k ∈ keysF i ls → ∃ j y, k = keyL j y
  | [], _, _, h => by simp [keysF] at h
  | y :: r, i, k, h => by
    rcases List.mem_cons.mp h with rfl | h
    · exact ⟨i, y, rfl⟩
    · exact keysF_mem h
theorem keysF_len : ∀ (ls : List Lt) (i : Nat), (keysF i ls).length = ls.length
  | [], _ => rfl
  | _ :: r, i => by show (keysF (i + 1) r).length + 1 = _; rw [keysF_len r]; rfl
theorem alike_keys {l : List PK} {ls : List Lt} {i : Nat} (h : (l.map (·.2)).Perm (keysF i ls)) : AlikeAll l := by
  intro p hp q hq
  obtain ⟨j, y, e⟩ := keysF_mem (h.mem_iff.mp (List.mem_map.mpr ⟨p, hp, rfl⟩))
  obtain ⟨j', y', e'⟩ := keysF_mem (h.mem_iff.mp (List.mem_map.mpr ⟨q, hq, rfl⟩))
  rw [e, e']; rfl
noncomputable def chargeX (ch : List (Str × Int)) (x : Lt) : List (Str × Int) := chargeN (hexL x.2.2.natAbs) x.2.1 ((hexL x.2.2.natAbs).length + 1) ch
noncomputable def chF (ls : List Lt) : List (Str × Int) := ls.foldl chargeX []
theorem keysF_app : ∀ (l : List Lt) (i : Nat) (x : Lt), keysF i (l ++ [x]) = keysF i l ++ [keyL (i + l.length) x]
  | [], i, x => rfl
  | y :: l, i, x => by
    show keyL i y :: keysF (i + 1) (l ++ [x]) = _
    rw [keysF_app l (i + 1) x, List.length_cons, show i + (l.length + 1) = i + 1 + l.length by lia]; rfl
theorem chF_app (l : List Lt) (x : Lt) : chF (l ++ [x]) = chargeX (chF l) x := by
  unfold chF; rw [List.foldl_append]; rfl
theorem chargeN_len (l : List Nat) (d : Int) : ∀ (k : Nat) (ch : List (Str × Int)), (chargeN l d k ch).length ≤ ch.length + k
  | 0, ch => Nat.le_refl _
  | k + 1, ch => by
    have h1 := chargeN_len l d k (addC ch (foldS (l.take k)) d)
    have h2 := putC_len ch (foldS (l.take k)) (getC ch (foldS (l.take k)) + d)
    show (chargeN l d k (addC ch (foldS (l.take k)) d)).length ≤ _
    unfold addC at h1 ⊢
    lia
theorem chF_len : ∀ (ls : List Lt) (ch : List (Str × Int)), (∀ x ∈ ls, x.2.2.natAbs < 16 ^ 12) → (ls.foldl chargeX ch).length ≤ ch.length + 13 * ls.length
  | [], ch, _ => by simp
  | x :: r, ch, h => by
    have h1 := chF_len r (chargeX ch x) fun y hy => h y (.tail _ hy)
    have h2 := chargeN_len (hexL x.2.2.natAbs) x.2.1 ((hexL x.2.2.natAbs).length + 1) ch
    have h3 := hexL_len 12 _ (h x (.head _))
    show (r.foldl chargeX (chargeX ch x)).length ≤ _
    unfold chargeX at h1 ⊢
    rw [List.length_cons]
    lia

/-! the letters, numbered, and their order -/
noncomputable abbrev En := Nat × Lt
noncomputable def ent : Nat → List Lt → List En
  | _, [] => []
  | i, x :: r => (i, x) :: ent (i + 1) r
noncomputable def keyE (e : En) : List Key := keyL e.1 e.2
theorem keysF_ent : ∀ (i : Nat) (ls : List Lt), keysF i ls = (ent i ls).map keyE
  | _, [] => rfl
  | i, x :: r => by show keyL i x :: keysF (i + 1) r = _; rw [keysF_ent (i + 1) r]; rfl
theorem ent_snd : ∀ (i : Nat) (ls : List Lt), (ent i ls).map (·.2) = ls
  | _, [] => rfl
  | i, x :: r => by show x :: (ent (i + 1) r).map (·.2) = _; rw [ent_snd (i + 1) r]
theorem ent_mem : ∀ {i : Nat} {ls : List Lt} {e : En}, e ∈ ent i ls → i ≤ e.1 ∧ e.1 < i + ls.length ∧ e.2 ∈ ls
  | _, [], _, h => by simp [ent] at h
  | i, x :: r, e, h => by
    rcases List.mem_cons.mp h with rfl | h
    · exact ⟨Nat.le_refl _, by rw [List.length_cons]; show i < _; lia, .head _⟩
    · have := ent_mem h
      exact ⟨by lia, by rw [List.length_cons]; lia, .tail _ this.2.2⟩
theorem ent_len : ∀ (i : Nat) (ls : List Lt), (ent i ls).length = ls.length
  | _, [] => rfl
  | i, _ :: r => by show (ent (i + 1) r).length + 1 = _; rw [ent_len (i + 1) r]; rfl
noncomputable def sizes (so : List En) : List Int := so.map (·.2.2.1)
noncomputable def cut : List En → Int → Nat
  | [], _ => 0
  | e :: r, half => if (sizes (e :: r)).sum ≤ half then 0 else 1 + cut r half
noncomputable def unX (ch : List (Str × Int)) (x : Lt) : List (Str × Int) := chargeN (hexL x.2.2.natAbs) (-x.2.1) ((hexL x.2.2.natAbs).length + 1) ch
noncomputable def InOrder (so : List En) : Prop := so.Pairwise fun a b => lexLt (keyE b) (keyE a) = false
structure SoOK (ls : List Lt) (so : List En) : Prop where
  perm : so.Perm (ent 0 ls)
  ord : InOrder so
theorem cut_stop {so : List En} {half : Int} (h : (sizes so).sum ≤ half) : cut so half = 0 := by
  cases so with
  | nil => rfl
  | cons e r => unfold cut; rw [if_pos h]
theorem cut_go {e : En} {r : List En} {half : Int} (h : ¬ (sizes (e :: r)).sum ≤ half) : cut (e :: r) half = 1 + cut r half := by
  rw [cut, if_neg h]
/-- what the heap gives is the next of the order -/
theorem next_key {l : List PK} {q : PK} {e : En} {r : List En} (hH : HeapP (l ++ [q])) (hp : ((l ++ [q]).map (·.2)).Perm ((e :: r).map keyE)) (ho : InOrder (e :: r)) :
    (popV l q).2 = keyE e ∧ ((popL l q).map (·.2)).Perm (r.map keyE) := by
  have hpp := (pop_perm l q).map (·.2)
  rw [List.map_cons] at hpp
  have hall := hpp.trans hp
  rw [List.map_cons] at hall
  have hk : (popV l q).2 = keyE e := by
    apply Classical.byContradiction
    intro hne
    have hmin := pop_min hH
    have h1 : ∀ f ∈ e :: r, lexLt (keyE f) (keyE e) = false := fun f hf => by
      rcases List.mem_cons.mp hf with rfl | hf
      · exact lexLt_irrefl _
      · exact (List.pairwise_cons.mp ho).1 f hf
    rcases lexLt_total hne with h | h
    · have hm : (popV l q).2 ∈ (e :: r).map keyE := by rw [List.map_cons]; exact hall.mem_iff.mp (.head _)
      obtain ⟨f, hf, e1⟩ := List.mem_map.mp hm
      have := h1 f hf
      rw [e1, h] at this; cases this
    · have hm : keyE e ∈ (l ++ [q]).map (·.2) := hp.mem_iff.mpr (by rw [List.map_cons]; exact .head _)
      obtain ⟨b, hb, e1⟩ := List.mem_map.mp hm
      have := hmin b hb
      unfold kle at this
      rw [e1, h] at this; cases this
  refine ⟨hk, ?_⟩
  rw [hk] at hall
  exact hall.cons_inv
theorem keys3 {its : List Value} {e : En} (h : KeysV its (keyE e)) : ∃ t1 t2 p t3, its = [.int e.2.1 t1, .int (-e.2.2.1) t2, .str p t3] ∧ p = mkS (pathL e.1 e.2) := by
  unfold keyE keyL at h
  cases h with
  | cons h1 h =>
    cases h with
    | cons h2 h =>
      cases h with
      | cons h3 h =>
        cases h
        rename_i v1 v2 v3
        cases v1 <;> first | exact h1.elim | skip
        cases v2 <;> first | exact h2.elim | skip
        cases v3 <;> first | exact h3.elim | skip
        have e1 : _ = _ := h1
        have e2 : _ = _ := h2
        have e3 : _ = _ := h3
        subst e1 e2
        refine ⟨_, _, _, _, rfl, ?_⟩
        rw [← e3]
theorem sizes_pos {so : List En} (h : ∀ e ∈ so, 1 ≤ e.2.2.1) : 0 ≤ (sizes so).sum := by
  induction so with
  | nil => exact Int.le_refl _
  | cons e r ih =>
    have h1 := h e (.head _)
    have h2 := ih fun f hf => h f (.tail _ hf)
    have e1 : (sizes (e :: r)).sum = e.2.2.1 + (sizes r).sum := by unfold sizes; rw [List.map_cons, List.sum_cons]
    lia

inductive PairsAt (rest : List (Addr × Obj)) : List Value → List (Str × Int) → Prop
  | nil : PairsAt rest [] []
  | cons {a n t1 t2 k v r q} : (a, listOf #[.str k t1, .int v t2] n) ∈ rest → PairsAt rest r q → PairsAt rest (.ref a :: r) ((k, v) :: q)
theorem PairsAt.grow {rest rest' : List (Addr × Obj)} {vs : List Value} {ps : List (Str × Int)} (h : PairsAt rest vs ps) (hs : ∀ p ∈ rest, p ∈ rest') : PairsAt rest' vs ps := by
  induction h with
  | nil => exact .nil
  | cons hm _ ih => exact .cons (hs _ hm) ih
theorem PairsAt.app {rest : List (Addr × Obj)} {vs vs' : List Value} {ps ps' : List (Str × Int)} (h : PairsAt rest vs ps) (h' : PairsAt rest vs' ps') : PairsAt rest (vs ++ vs') (ps ++ ps') := by
  induction h with
  | nil => exact h'
  | cons hm _ ih => exact .cons hm ih
theorem PairsAt.len {rest : List (Addr × Obj)} {vs : List Value} {ps : List (Str × Int)} (h : PairsAt rest vs ps) : vs.length = ps.length := by
  induction h with
  | nil => rfl
  | cons _ _ ih => rw [List.length_cons, List.length_cons, ih]
theorem filt_next (p : Str × Int → Bool) (l : List (Str × Int)) (i : Nat) (v : Str × Int) (h : l[i]? = some v) : (l.take (i + 1)).filter p = (l.take i).filter p ++ (if p v then [v] else []) := by
  rw [List.take_add_one, h, List.filter_append]
  cases hp : p v <;> simp [hp]
noncomputable def pkey (p : Str × Int) : List Key := [.s p.1.cps.toList, .i p.2]
noncomputable def PSorted (l : List (Str × Int)) : Prop := l.Pairwise fun a b => lexLt (pkey b) (pkey a) = false
noncomputable def unkey (k : List Key) : Str × Int := match k with
  | [.s l, .i n] => (⟨l.toArray⟩, n)
  | _ => (⟨#[]⟩, 0)
theorem unkey_pkey (p : Str × Int) : unkey (pkey p) = p := by
  obtain ⟨⟨c⟩, n⟩ := p
  rfl
noncomputable def prsOf : List Value → List (Str × Int) → List PK
  | v :: vs, p :: ps => (v, pkey p) :: prsOf vs ps
  | _, _ => []
theorem prs_fst {rest : List (Addr × Obj)} {vs : List Value} {ps : List (Str × Int)} (h : PairsAt rest vs ps) : (prsOf vs ps).map (·.1) = vs := by
  induction h with
  | nil => rfl
  | cons _ _ ih => show _ :: List.map _ (prsOf _ _) = _; rw [ih]
theorem prs_snd {rest : List (Addr × Obj)} {vs : List Value} {ps : List (Str × Int)} (h : PairsAt rest vs ps) : (prsOf vs ps).map (fun q => unkey q.2) = ps := by
  induction h with
  | nil => rfl
  | @cons a n t1 t2 k v r q _ _ ih =>
    show unkey (pkey (k, v)) :: List.map _ (prsOf _ _) = _
    rw [ih, unkey_pkey]
theorem prs_mem {rest : List (Addr × Obj)} {vs : List Value} {ps : List (Str × Int)} (h : PairsAt rest vs ps) : ∀ q ∈ prsOf vs ps, ∃ a n t1 t2 p, q.1 = .ref a ∧ q.2 = pkey p ∧ (a, listOf #[.str p.1 t1, .int p.2 t2] n) ∈ rest := by
  induction h with
  | nil => intro q hq; simp [prsOf] at hq
  | @cons a n t1 t2 k v r q hm _ ih =>
    intro x hx
    rcases List.mem_cons.mp hx with rfl | hx
    · exact ⟨a, n, t1, t2, (k, v), rfl, rfl, hm⟩
    · exact ih x hx
theorem prs_alike {rest : List (Addr × Obj)} {vs : List Value} {ps : List (Str × Int)} (h : PairsAt rest vs ps) : AlikeAll (prsOf vs ps) := by
  intro p hp q hq
  obtain ⟨_, _, _, _, x, _, e, _⟩ := prs_mem h p hp
  obtain ⟨_, _, _, _, y, _, e', _⟩ := prs_mem h q hq
  rw [e, e']; rfl
theorem prs_keyed {h₀ hh : Heap} {L : Addr} {rest : List (Addr × Obj)} {vs : List Value} {ps : List (Str × Int)} (h : PairsAt rest vs ps) (N : News h₀ L hh rest) : Keyed' hh (prsOf vs ps) := by
  intro q hq
  obtain ⟨a, n, t1, t2, p, e1, e2, hm⟩ := prs_mem h q hq
  refine ⟨a, [.str p.1 t1, .int p.2 t2], e1, ⟨_, (N _ hm).1, rfl, n, rfl⟩, ?_⟩
  rw [e2]
  exact .cons rfl (.cons rfl .nil)
theorem prs_back {rest : List (Addr × Obj)} : ∀ {l : List PK}, (∀ q ∈ l, ∃ a n t1 t2 p, q.1 = .ref a ∧ q.2 = pkey p ∧ (a, listOf #[.str p.1 t1, .int p.2 t2] n) ∈ rest) → PairsAt rest (l.map (·.1)) (l.map fun q => unkey q.2)
  | [], _ => .nil
  | q :: l, h => by
    obtain ⟨a, n, t1, t2, p, e1, e2, hm⟩ := h q (.head _)
    show PairsAt rest (q.1 :: _) (unkey q.2 :: _)
    rw [e1, e2, unkey_pkey]
    exact .cons hm (prs_back fun x hx => h x (.tail _ hx))
theorem prs_sorted {rest : List (Addr × Obj)} {vs : List Value} {ps : List (Str × Int)} {l : List PK} (h : PairsAt rest vs ps) (hs : SortedOf (prsOf vs ps) l) : PairsAt rest (l.map (·.1)) (l.map fun q => unkey q.2) ∧ (l.map fun q => unkey q.2).Perm ps ∧ PSorted (l.map fun q => unkey q.2) := by
  have hm : ∀ q ∈ l, _ := fun q hq => prs_mem h q (hs.1.mem_iff.mp hq)
  refine ⟨prs_back hm, ?_, ?_⟩
  · have := hs.1.map (fun q => unkey q.2)
    rwa [prs_snd h] at this
  · unfold PSorted
    rw [List.pairwise_map]
    refine List.Pairwise.imp_of_mem (fun {a b} ha hb hab => ?_) hs.2
    obtain ⟨_, _, _, _, p, _, e, _⟩ := hm a ha
    obtain ⟨_, _, _, _, q, _, e', _⟩ := hm b hb
    rw [e, e'] at hab
    rw [e, e', unkey_pkey, unkey_pkey]; exact hab
noncomputable def ResAt (rest : List (Addr × Obj)) (v : Value) (th : List Str) (fs : List (Str × Int)) : Prop :=
  ∃ RA TA SA n1 n2 n3 tv sv, v = .ref RA ∧ (RA, listOf #[.ref TA, .ref SA] n1) ∈ rest ∧ (TA, listOf (List.toArray tv) n2) ∈ rest ∧ StrsAre tv th ∧ (SA, listOf (List.toArray sv) n3) ∈ rest ∧ PairsAt rest sv fs
noncomputable def pathS (e : En) : Str := mkS (pathL e.1 e.2)
noncomputable def chUn (ch : List (Str × Int)) (so : List En) : List (Str × Int) := so.foldl (fun ch e => unX ch e.2) ch
theorem chUn_app (ch : List (Str × Int)) (so : List En) (e : En) : chUn ch (so ++ [e]) = unX (chUn ch so) e.2 := by
  unfold chUn; rw [List.foldl_append]; rfl
theorem chUn_len : ∀ (so : List En) (ch : List (Str × Int)), (∀ e ∈ so, e.2.2.2.natAbs < 16 ^ 12) → (chUn ch so).length ≤ ch.length + 13 * so.length
  | [], ch, _ => by simp [chUn]
  | x :: r, ch, h => by
    have h1 := chUn_len r (unX ch x.2) fun y hy => h y (.tail _ hy)
    have h2 := chargeN_len (hexL x.2.2.2.natAbs) (-x.2.2.1) ((hexL x.2.2.2.natAbs).length + 1) ch
    have h3 := hexL_len 12 _ (h x (.head _))
    show (chUn (unX ch x.2) r).length ≤ _
    unfold unX at h1 ⊢
    rw [List.length_cons]
    lia
noncomputable def halfOf (ls : List Lt) : Int := (List.sum (ls.map fun x : Lt => x.2.1) : Int).fdiv 2
noncomputable def chRun (ls : List Lt) (so : List En) : List (Str × Int) := chUn (chF ls) (so.take (cut so (halfOf ls)))
theorem so_mem {ls : List Lt} {so : List En} (h : SoOK ls so) {e : En} (he : e ∈ so) : e.1 < ls.length ∧ e.2 ∈ ls := by
  have := ent_mem (h.perm.mem_iff.mp he)
  exact ⟨by lia, this.2.2⟩
theorem so_sum {ls : List Lt} {so : List En} (h : SoOK ls so) : (sizes so).sum = List.sum (ls.map fun x : Lt => x.2.1) := by
  have h1 : List.Perm (sizes so) (List.map (fun x : Lt => x.2.1) ls) := by
    have := h.perm.map (fun e : En => e.2.2.1)
    have e : (ent 0 ls).map (fun e : En => e.2.2.1) = List.map (fun x : Lt => x.2.1) ls := by
      have := congrArg (List.map (fun x : Lt => x.2.1)) (ent_snd 0 ls)
      rw [List.map_map] at this
      exact this
    rw [e] at this
    exact this
  have psum : ∀ {a b : List Int}, a.Perm b → a.sum = b.sum := by
    intro a b hp
    induction hp with
    | nil => rfl
    | cons x _ ih => rw [List.sum_cons, List.sum_cons, ih]
    | swap x y l => simp only [List.sum_cons]; lia
    | trans _ _ i1 i2 => exact i1.trans i2
  exact psum h1
end

/-! E3 -/
section
open PySem.Calls

open LCg

theorem add_list_N {prog : Program} {w : World} {A : Around} {E : Value → Shared → Prop} {s : Shared} {h₀ : Heap} {L : Addr} {m : Str → Option Value} {news : List (Addr × Obj)} {l b : Addr} {n k : Nat} {vs ws : List Value} {Q : Value → Shared → Prop} (F : Fr h₀ L s.heap m) (N : News h₀ L s.heap news) (hl : (l, listOf vs.toArray n) ∈ news) (hb : (b, listOf ws.toArray k) ∈ news) (hsz : vs.length + ws.length ≤ 1000)
    (h : ∀ D h', Fr h₀ L h' m → News h₀ L h' ((D, listOf (vs ++ ws).toArray 0) :: news) → (∀ p ∈ news, p.1 < D) → Q (.ref D) { s with heap := h' }) :
    wpAny (model prog w) A (binaryOp .Add (.ref l) (.ref b)) Q E s :=
  add_lists F N ⟨_, (N _ hl).1, rfl, n, rfl⟩ ⟨_, (N _ hb).1, rfl, k, rfl⟩ (fun h' F' N' => h _ h' F' N' fun p hp => Heap.lt_size (N p hp).1) (by rw [sizeLine_eq]; (clear h hb hl N F; lia))
structure RunA (HA CA TA : Addr) (rest0 : List (Addr × Obj)) (w : World) (ls : List Lt) (i : Nat) (m₁ : Str → Option Value) (nx : List (Addr × Obj)) (l : List PK) (n' : Nat) (o : Obj) (r : List (Addr × Obj)) : Prop where
  a1 : ∃ t, m₁ (Str.ofString "whole") = some (.int (ls.map (·.2.1)).sum t)
  a2 : m₁ (Str.ofString "heap") = some (.ref HA)
  a3 : m₁ (Str.ofString "charges") = some (.ref CA)
  a4 : m₁ (Str.ofString "thrown") = some (.ref TA)
  a5 : nx = (HA, LObj l n') :: (CA, o) :: r
  a6 : ∀ p ∈ r, p.1 ≠ HA ∧ p.1 ≠ CA
  a7 : ∀ p ∈ rest0, p ∈ r
  a8 : HK r l
  a9 : HeapP l
  a10 : (l.map (·.2)).Perm (keysF 0 (ls.take i))
  a11 : DObj PG w o (chF (ls.take i))
structure RunB (HA CA : Addr) (news : List (Addr × Obj)) (w : World) (ls : List Lt) (so : List En) (k : Nat) (m₁ : Str → Option Value) (nx : List (Addr × Obj)) (j : Nat) (l : List PK) (n' : Nat) (o : Obj) (r : List (Addr × Obj)) (TB : Addr) (tv : List Value) (n3 : Nat) : Prop where
  b1 : k = so.length - j
  b2 : j ≤ so.length
  b3 : ∃ t, m₁ (Str.ofString "whole") = some (.int (ls.map (·.2.1)).sum t)
  b4 : m₁ (Str.ofString "heap") = some (.ref HA)
  b5 : m₁ (Str.ofString "charges") = some (.ref CA)
  b6 : ∃ t, m₁ (Str.ofString "left") = some (.int (sizes (so.drop j)).sum t)
  b7 : nx = (HA, LObj l n') :: (CA, o) :: r
  b8 : m₁ (Str.ofString "thrown") = some (.ref TB)
  b9 : ∀ p ∈ r, p.1 ≠ HA ∧ p.1 ≠ CA
  b10 : ∀ p ∈ news, p ∈ r
  b11 : (TB, listOf (List.toArray tv) n3) ∈ r
  b12 : StrsAre tv ((so.take j).map pathS)
  b13 : HK r l
  b14 : HeapP l
  b15 : (l.map (·.2)).Perm ((so.drop j).map keyE)
  b16 : DObj PG w o (chUn (chF ls) (so.take j))
  b17 : cut so (halfOf ls) = j + cut (so.drop j) (halfOf ls)
section
variable {w : World} {mean : ExcName → Option Value} {mg mb : Str → Option Value} {dp un : Nat} {gd : Option (List Code)} {cn : Str} {cs : Scope} {a : Addr} {ccd : Value} {cl : List (Str × Addr)} {outer : List Env} {A₀ : Around} {base h₀ : Heap} {L : Addr} {m : Str → Option Value} {news : List (Addr × Obj)} {s : Shared} {Q E : Value → Shared → Prop}

theorem news_both {h₀ h : Heap} {L : Addr} {a b : List (Addr × Obj)} (N : News h₀ L h a) (hs : ∀ p ∈ b, p ∈ a) : News h₀ L h (a ++ b) := fun p hp => (List.mem_append.mp hp).elim (N p) fun hp => N p (hs p hp)
theorem run_tells {LA : Addr} {n : Nat} {lv : List Value} {ls : List Lt} {so : List En}
  (B : Below A₀ base outer h₀) (F : Fr h₀ L s.heap m) (X : (_root_.Mine.hd.heap_1 w.params).In h₀) (N : News h₀ L s.heap news) (T : Top _root_.Mine.hd.view_1 (looseW _root_.Mine.hd.view_1 []) mean mg mb h₀) (hk : cs.kind = .function)
  (hd : dp + 20 < recursionLimit) (hu : un + 400 < cLine) (hLA : (LA, listOf lv.toArray n) ∈ news) (hls : LetsAt news lv ls) (hlen : ls.length ≤ 11) (hsz : ∀ x ∈ ls, 1 ≤ x.2.1 ∧ x.2.1 ≤ 8) (hnm : ∀ x ∈ ls, x.2.2.natAbs < 16 ^ 12) (hso : SoOK ls so)
  (hret : ∀ v h' tk' nw fs, Fr h₀ L h' m → News h₀ L h' (nw ++ news) → ResAt nw v ((so.take (cut so (halfOf ls))).map pathS) fs → fs.Perm ((chRun ls so).filter fun p => decide (p.2 ≠ 0)) → PSorted fs → Q v { s with heap := h', toks := tk' }) :
    wpAny (model PG w) (ktrTop dp un gd cn cs L a ccd cl outer) (call (.ref 197) [.ref LA]) Q E s := by
  (w_top off; have dummyFill : (∀ (_ : PySem.Challenge.rw_il0059_01 = PySem.Challenge.rw_il0059_01) (_ : _root_.Mine.hd.heap_1 = _root_.Mine.hd.heap_1), True) := (by k_fill; intros; trivial); clear dummyFill)
  refine wpAny_call ?_
  k_dflt (refine' code_def ?k1 ?k2 ?k3 ?k4 ?k5 ?kA ?kF ?kK ?k6 ?k7 ?k8 ?k9 ?kB ?_ ?c2 ?c3 ?c4 ?c5; (case kA => exact rfl); (case kF => exact rfl); (case kK => assumption); (case k1 => k_asm); (case k2 => k_asm); (case k3 => k_asm); (case k4 => k_asm); (case k5 => k_asm); (case k6 => k_is); (case k7 => k_is); (case k8 => first | exact rm0 hd | ktr_room); (case k9 => exact BindsTo.of_eq rfl); (case c5 => decide); (case kB => exact locs rfl); (case c2 => exact rfl); (case c3 => exact rfl); (case c4 => exact rfl); k_whole; intro g' L' h' FG' F' N' B' X' T'; (try dsimp only); (try k_fold))
  replace F' : Fr g' L' h' (fun y => if y = Str.ofString "letters" then some (.ref LA) else none) := fr_map F' (fun y => lookup1 y)
  (repeat' ((fail_if_success (with_reducible first | show wpAny _ _ (pyIter _) _ _ _ | show wpAny _ _ (exec (Stmt.While _ _ _ _) _) _ _ _ | show wpAny _ _ (exec (Stmt.For _ _ _ _ _) _) _ _ _ | show TurnEnd _ _ _ _ _ _ _ | show TurnPost _ _ _ _ _ _ _ _ _ | show WhileStep _ _ _ _ _ _ _ | show WhileStep2 _ _ _ _ _ _ _ _ | show wpAny _ _ (eval (Expr.ListComp _ _ _ _) _) _ _ _ | show wpAny _ _ (exec (Stmt.Assign _ (Expr.ListComp _ _ _ _) _) _) _ _ _ | show wpAny _ _ (call (Value.builtin "sorted") _) _ _ _ | show wpAny _ _ (call (Value.builtin "sum") _) _ _ _ | show wpAny _ _ (call (Value.type "enumerate") _) _ _ _ | show wpAny _ _ (call (Value.type "range") _) _ _ _ | show wpAny _ _ (binaryOp _ (Value.ref _) (Value.ref _)) _ _ _ | show wpAny _ _ (call (Value.ref _) (Value.ref _ :: _)) _ _ _ | show wpAny _ _ (call (Value.ref 178) _) _ _ _)); first | ((with_reducible refine' isq_back ?e9 ?_); (case e9 => with_reducible assumption); (try dsimp only)) | ((with_reducible show wpAny _ _ (exec _ _) _ _ _); (refine gen_exec ?_); intro P9 hP9; walk1) | (k_unfold; (try dsimp only)) | (with_reducible ((with_reducible show wpAny _ _ (call (Value.builtin "dict.items") _) _ _ _); (k_here; (k_dflt (refine' dct_items ?qF ?qN ?qk2 ?qk3 ?qk4 ?_; (case qF => k_asm); (case qN => k_asm); (case qk2 => k_mem); (case qk3 => assumption); (case qk4 => assumption); k_whole)); intro V' h' hv' F' N'))) | (with_reducible ((with_reducible show wpAny _ _ (getMethod (Value.ref _) _ _) _ _ _); (k_here; (k_dflt (refine' dct_items_method ?qk1 ?qk2 ?qk3 ?_; (case qk1 => k_asm); (case qk2 => k_mem); (case qk3 => assumption); k_whole))))) | (with_reducible (k_here; (with_reducible show wpAny _ _ (call (Value.ref 185) [Value.int _ _]) _ _ _); k_dflt (refine' folder_tells ?qB ?qF ?qX ?qN ?qT ?qhk ?qhd ?qhu ?qhk1 ?_; (  (case qB => k_asm); (case qF => k_asm); (case qX => k_asm); (case qN => k_asm); (case qT => k_asm); (case qhk => first | exact rfl | assumption); (case qhd => ktr_room); (case qhu => ktr_units)); (case qhk1 => (first | (with_reducible assumption) | omega | assumption)); k_whole); intro t' h' tk' F' N'; (try k_sweep))) | (with_reducible (k_here; (with_reducible show wpAny _ _ (call (Value.ref 150) [Value.str _ _, Value.str _ _]) _ _ _); k_dflt (refine' join_tells ?qB ?qF ?qX ?qN ?qT ?qhk ?qhd ?qhu ?qhl ?qhl2 ?_; (  (case qB => k_asm); (case qF => k_asm); (case qX => k_asm); (case qN => k_asm); (case qT => k_asm); (case qhk => first | exact rfl | assumption); (case qhd => ktr_room); (case qhu => ktr_units)); (case qhl => (first | (with_reducible assumption) | omega | assumption)); (case qhl2 => (first | (with_reducible assumption) | omega | assumption)); k_whole); intro t' h' tk' F' N'; (try k_sweep))) | (with_reducible ((with_reducible show wpAny _ _ (eval (PySem.Expr.Name _ _) _) _ _ _); (k_dflt (refine' ld ?qk1 ?qk2 ?_; (case qk1 => k_asm); (case qk2 => exact rfl); k_whole)))) | walk1 | (dsimp only; walk1)))
  (with_reducible rename Fr _ _ _ _ => F1)
  (with_reducible rename News _ _ _ _ => N1)
  k_dflt (refine' comp_eval F1 ?c1 ?c2 ?c3 ?c4 ?_; (case c1 => with_unfolding_all rfl); (case c2 => decide); (case c3 => exact rfl); (case c4 => decide))
  (repeat' ((fail_if_success (with_reducible first | show wpAny _ _ (pyIter _) _ _ _ | show wpAny _ _ (exec (Stmt.While _ _ _ _) _) _ _ _ | show wpAny _ _ (exec (Stmt.For _ _ _ _ _) _) _ _ _ | show TurnEnd _ _ _ _ _ _ _ | show TurnPost _ _ _ _ _ _ _ _ _ | show WhileStep _ _ _ _ _ _ _ | show WhileStep2 _ _ _ _ _ _ _ _ | show wpAny _ _ (eval (Expr.ListComp _ _ _ _) _) _ _ _ | show wpAny _ _ (exec (Stmt.Assign _ (Expr.ListComp _ _ _ _) _) _) _ _ _ | show wpAny _ _ (call (Value.builtin "sorted") _) _ _ _ | show wpAny _ _ (call (Value.builtin "sum") _) _ _ _ | show wpAny _ _ (call (Value.type "enumerate") _) _ _ _ | show wpAny _ _ (call (Value.type "range") _) _ _ _ | show wpAny _ _ (binaryOp _ (Value.ref _) (Value.ref _)) _ _ _ | show wpAny _ _ (call (Value.ref _) (Value.ref _ :: _)) _ _ _ | show wpAny _ _ (call (Value.ref 178) _) _ _ _)); first | ((with_reducible refine' isq_back ?e9 ?_); (case e9 => with_reducible assumption); (try dsimp only)) | ((with_reducible show wpAny _ _ (exec _ _) _ _ _); (refine gen_exec ?_); intro P9 hP9; walk1) | (k_unfold; (try dsimp only)) | (with_reducible ((with_reducible show wpAny _ _ (call (Value.builtin "dict.items") _) _ _ _); (k_here; (k_dflt (refine' dct_items ?qF ?qN ?qk2 ?qk3 ?qk4 ?_; (case qF => k_asm); (case qN => k_asm); (case qk2 => k_mem); (case qk3 => assumption); (case qk4 => assumption); k_whole)); intro V' h' hv' F' N'))) | (with_reducible ((with_reducible show wpAny _ _ (getMethod (Value.ref _) _ _) _ _ _); (k_here; (k_dflt (refine' dct_items_method ?qk1 ?qk2 ?qk3 ?_; (case qk1 => k_asm); (case qk2 => k_mem); (case qk3 => assumption); k_whole))))) | (with_reducible (k_here; (with_reducible show wpAny _ _ (call (Value.ref 185) [Value.int _ _]) _ _ _); k_dflt (refine' folder_tells ?qB ?qF ?qX ?qN ?qT ?qhk ?qhd ?qhu ?qhk1 ?_; (  (case qB => k_asm); (case qF => k_asm); (case qX => k_asm); (case qN => k_asm); (case qT => k_asm); (case qhk => first | exact rfl | assumption); (case qhd => ktr_room); (case qhu => ktr_units)); (case qhk1 => (first | (with_reducible assumption) | omega | assumption)); k_whole); intro t' h' tk' F' N'; (try k_sweep))) | (with_reducible (k_here; (with_reducible show wpAny _ _ (call (Value.ref 150) [Value.str _ _, Value.str _ _]) _ _ _); k_dflt (refine' join_tells ?qB ?qF ?qX ?qN ?qT ?qhk ?qhd ?qhu ?qhl ?qhl2 ?_; (  (case qB => k_asm); (case qF => k_asm); (case qX => k_asm); (case qN => k_asm); (case qT => k_asm); (case qhk => first | exact rfl | assumption); (case qhd => ktr_room); (case qhu => ktr_units)); (case qhl => (first | (with_reducible assumption) | omega | assumption)); (case qhl2 => (first | (with_reducible assumption) | omega | assumption)); k_whole); intro t' h' tk' F' N'; (try k_sweep))) | (with_reducible ((with_reducible show wpAny _ _ (eval (PySem.Expr.Name _ _) _) _ _ _); (k_dflt (refine' ld ?qk1 ?qk2 ?_; (case qk1 => k_asm); (case qk2 => exact rfl); k_whole)))) | walk1 | (dsimp only; walk1)))
  (with_reducible rename Fr _ _ _ _ => F1)
  (with_reducible rename News _ _ _ _ => N1)
  have hLA1 := N1 _ (.tail _ (.tail _ (.tail _ hLA)))
  k_dflt (refine' comp_pick (vs := lv) (fun i its => ∃ x t1 t2 t3, ls[i]? = some x ∧ its = [.int x.1 t1, .int x.2.1 t2, .int x.2.2 t3]) (fun i v => ∃ n t, (ls.map (·.2.1))[i]? = some n ∧ v = .int n t) ?hh ?hl ?hlL F1 N1 ?hsz ?hkind ?hx ?hel ?hstar ?hnl ?hin ?hxn ?hdb ?hval ?fin; (case hh => exact rfl); (case hl => exact ⟨_, hLA1.1, rfl, n, rfl⟩); (case hlL => exact hLA1.2.1); (case hsz => rw [hls.len]; (clear hLA1 N1 F1 T' X' B' FG' hret hso hnm hsz hls hLA hu hd hk T N X F B; lia)); (case hkind => exact rfl); (case hx => decide); (case hel => exact fun C => rfl); (case hstar => exact fun C => rfl); (case hnl => exact fun C => rfl); (case hxn => decide); (case hdb => decide))
  case hin =>
    intro i v hv
    obtain ⟨a, n, t1, t2, t3, x, rfl, hx, hm⟩ := hls.at hv
    exact ⟨a, _, _, rfl, .tail _ (.tail _ (.tail _ hm)), rfl, ⟨n, rfl⟩, rfl, x, t1, t2, t3, hx, rfl⟩
  case hval =>
    rintro i its m' ⟨x, t1, t2, t3, hx, rfl⟩
    exact ⟨_, rfl, _, _, by rw [List.getElem?_map, hx]; rfl, rfl⟩
  case fin =>
    rintro s' hs' ys hyl hys D h' tk F2 N2 hD
    have hI : IntsAre ys (ls.map (·.2.1)) := ints_of (by rw [hyl, hls.len, List.length_map]) fun j hj => hys j (by rw [hls.len]; simpa using hj)
    rw [hs']
    (repeat' ((fail_if_success (with_reducible first | show wpAny _ _ (pyIter _) _ _ _ | show wpAny _ _ (exec (Stmt.While _ _ _ _) _) _ _ _ | show wpAny _ _ (exec (Stmt.For _ _ _ _ _) _) _ _ _ | show TurnEnd _ _ _ _ _ _ _ | show TurnPost _ _ _ _ _ _ _ _ _ | show WhileStep _ _ _ _ _ _ _ | show WhileStep2 _ _ _ _ _ _ _ _ | show wpAny _ _ (eval (Expr.ListComp _ _ _ _) _) _ _ _ | show wpAny _ _ (exec (Stmt.Assign _ (Expr.ListComp _ _ _ _) _) _) _ _ _ | show wpAny _ _ (call (Value.builtin "sorted") _) _ _ _ | show wpAny _ _ (call (Value.builtin "sum") _) _ _ _ | show wpAny _ _ (call (Value.type "enumerate") _) _ _ _ | show wpAny _ _ (call (Value.type "range") _) _ _ _ | show wpAny _ _ (binaryOp _ (Value.ref _) (Value.ref _)) _ _ _ | show wpAny _ _ (call (Value.ref _) (Value.ref _ :: _)) _ _ _ | show wpAny _ _ (call (Value.ref 178) _) _ _ _)); first | ((with_reducible refine' isq_back ?e9 ?_); (case e9 => with_reducible assumption); (try dsimp only)) | ((with_reducible show wpAny _ _ (exec _ _) _ _ _); (refine gen_exec ?_); intro P9 hP9; walk1) | (k_unfold; (try dsimp only)) | (with_reducible ((with_reducible show wpAny _ _ (call (Value.builtin "dict.items") _) _ _ _); (k_here; (k_dflt (refine' dct_items ?qF ?qN ?qk2 ?qk3 ?qk4 ?_; (case qF => k_asm); (case qN => k_asm); (case qk2 => k_mem); (case qk3 => assumption); (case qk4 => assumption); k_whole)); intro V' h' hv' F' N'))) | (with_reducible ((with_reducible show wpAny _ _ (getMethod (Value.ref _) _ _) _ _ _); (k_here; (k_dflt (refine' dct_items_method ?qk1 ?qk2 ?qk3 ?_; (case qk1 => k_asm); (case qk2 => k_mem); (case qk3 => assumption); k_whole))))) | (with_reducible (k_here; (with_reducible show wpAny _ _ (call (Value.ref 185) [Value.int _ _]) _ _ _); k_dflt (refine' folder_tells ?qB ?qF ?qX ?qN ?qT ?qhk ?qhd ?qhu ?qhk1 ?_; (  (case qB => k_asm); (case qF => k_asm); (case qX => k_asm); (case qN => k_asm); (case qT => k_asm); (case qhk => first | exact rfl | assumption); (case qhd => ktr_room); (case qhu => ktr_units)); (case qhk1 => (first | (with_reducible assumption) | omega | assumption)); k_whole); intro t' h' tk' F' N'; (try k_sweep))) | (with_reducible (k_here; (with_reducible show wpAny _ _ (call (Value.ref 150) [Value.str _ _, Value.str _ _]) _ _ _); k_dflt (refine' join_tells ?qB ?qF ?qX ?qN ?qT ?qhk ?qhd ?qhu ?qhl ?qhl2 ?_; (  (case qB => k_asm); (case qF => k_asm); (case qX => k_asm); (case qN => k_asm); (case qT => k_asm); (case qhk => first | exact rfl | assumption); (case qhd => ktr_room); (case qhu => ktr_units)); (case qhl => (first | (with_reducible assumption) | omega | assumption)); (case qhl2 => (first | (with_reducible assumption) | omega | assumption)); k_whole); intro t' h' tk' F' N'; (try k_sweep))) | (with_reducible ((with_reducible show wpAny _ _ (eval (PySem.Expr.Name _ _) _) _ _ _); (k_dflt (refine' ld ?qk1 ?qk2 ?_; (case qk1 => k_asm); (case qk2 => exact rfl); k_whole)))) | walk1 | (dsimp only; walk1)))
    k_dflt refine' PyProof.Rows.LSm.sum_ints ?F ?N ?hh ?hl ?hi ?_
    case F => exact F2
    case N => exact N2
    case hi => exact hI
    case hh => exact rfl
    case hl => exact ⟨_, (N2 _ (.head _)).1, rfl, _, rfl⟩
    intro h2 tk2 t2 F3 N3
    clear hs' hys F1 N1
    (repeat' ((fail_if_success (with_reducible first | show wpAny _ _ (pyIter _) _ _ _ | show wpAny _ _ (exec (Stmt.While _ _ _ _) _) _ _ _ | show wpAny _ _ (exec (Stmt.For _ _ _ _ _) _) _ _ _ | show TurnEnd _ _ _ _ _ _ _ | show TurnPost _ _ _ _ _ _ _ _ _ | show WhileStep _ _ _ _ _ _ _ | show WhileStep2 _ _ _ _ _ _ _ _ | show wpAny _ _ (eval (Expr.ListComp _ _ _ _) _) _ _ _ | show wpAny _ _ (exec (Stmt.Assign _ (Expr.ListComp _ _ _ _) _) _) _ _ _ | show wpAny _ _ (call (Value.builtin "sorted") _) _ _ _ | show wpAny _ _ (call (Value.builtin "sum") _) _ _ _ | show wpAny _ _ (call (Value.type "enumerate") _) _ _ _ | show wpAny _ _ (call (Value.type "range") _) _ _ _ | show wpAny _ _ (binaryOp _ (Value.ref _) (Value.ref _)) _ _ _ | show wpAny _ _ (call (Value.ref _) (Value.ref _ :: _)) _ _ _ | show wpAny _ _ (call (Value.ref 178) _) _ _ _)); first | ((with_reducible refine' isq_back ?e9 ?_); (case e9 => with_reducible assumption); (try dsimp only)) | ((with_reducible show wpAny _ _ (exec _ _) _ _ _); (refine gen_exec ?_); intro P9 hP9; walk1) | (k_unfold; (try dsimp only)) | (with_reducible ((with_reducible show wpAny _ _ (call (Value.builtin "dict.items") _) _ _ _); (k_here; (k_dflt (refine' dct_items ?qF ?qN ?qk2 ?qk3 ?qk4 ?_; (case qF => k_asm); (case qN => k_asm); (case qk2 => k_mem); (case qk3 => assumption); (case qk4 => assumption); k_whole)); intro V' h' hv' F' N'))) | (with_reducible ((with_reducible show wpAny _ _ (getMethod (Value.ref _) _ _) _ _ _); (k_here; (k_dflt (refine' dct_items_method ?qk1 ?qk2 ?qk3 ?_; (case qk1 => k_asm); (case qk2 => k_mem); (case qk3 => assumption); k_whole))))) | (with_reducible (k_here; (with_reducible show wpAny _ _ (call (Value.ref 185) [Value.int _ _]) _ _ _); k_dflt (refine' folder_tells ?qB ?qF ?qX ?qN ?qT ?qhk ?qhd ?qhu ?qhk1 ?_; (  (case qB => k_asm); (case qF => k_asm); (case qX => k_asm); (case qN => k_asm); (case qT => k_asm); (case qhk => first | exact rfl | assumption); (case qhd => ktr_room); (case qhu => ktr_units)); (case qhk1 => (first | (with_reducible assumption) | omega | assumption)); k_whole); intro t' h' tk' F' N'; (try k_sweep))) | (with_reducible (k_here; (with_reducible show wpAny _ _ (call (Value.ref 150) [Value.str _ _, Value.str _ _]) _ _ _); k_dflt (refine' join_tells ?qB ?qF ?qX ?qN ?qT ?qhk ?qhd ?qhu ?qhl ?qhl2 ?_; (  (case qB => k_asm); (case qF => k_asm); (case qX => k_asm); (case qN => k_asm); (case qT => k_asm); (case qhk => first | exact rfl | assumption); (case qhd => ktr_room); (case qhu => ktr_units)); (case qhl => (first | (with_reducible assumption) | omega | assumption)); (case qhl2 => (first | (with_reducible assumption) | omega | assumption)); k_whole); intro t' h' tk' F' N'; (try k_sweep))) | (with_reducible ((with_reducible show wpAny _ _ (eval (PySem.Expr.Name _ _) _) _ _ _); (k_dflt (refine' ld ?qk1 ?qk2 ?_; (case qk1 => k_asm); (case qk2 => exact rfl); k_whole)))) | walk1 | (dsimp only; walk1)))
    (rename Obj.IsDictOf (PySem.strKind _ _) _ _ => hdc)
    (with_reducible rename Fr _ _ _ _ => F4)
    (with_reducible rename News _ _ _ _ => N4)
    refine name4 N4 ?_
    intro TA CA HA o0 e1 e2 e3 e4
    subst e1 e2 e3 e4
    (refine gen_exec ?_); intro P8 hP8
    k_dflt refine' For_turns F4 ?_
    (repeat' ((fail_if_success (with_reducible first | show wpAny _ _ (pyIter _) _ _ _ | show wpAny _ _ (exec (Stmt.While _ _ _ _) _) _ _ _ | show wpAny _ _ (exec (Stmt.For _ _ _ _ _) _) _ _ _ | show TurnEnd _ _ _ _ _ _ _ | show TurnPost _ _ _ _ _ _ _ _ _ | show WhileStep _ _ _ _ _ _ _ | show WhileStep2 _ _ _ _ _ _ _ _ | show wpAny _ _ (eval (Expr.ListComp _ _ _ _) _) _ _ _ | show wpAny _ _ (exec (Stmt.Assign _ (Expr.ListComp _ _ _ _) _) _) _ _ _ | show wpAny _ _ (call (Value.builtin "sorted") _) _ _ _ | show wpAny _ _ (call (Value.builtin "sum") _) _ _ _ | show wpAny _ _ (call (Value.type "enumerate") _) _ _ _ | show wpAny _ _ (call (Value.type "range") _) _ _ _ | show wpAny _ _ (binaryOp _ (Value.ref _) (Value.ref _)) _ _ _ | show wpAny _ _ (call (Value.ref _) (Value.ref _ :: _)) _ _ _ | show wpAny _ _ (call (Value.ref 178) _) _ _ _)); first | ((with_reducible refine' isq_back ?e9 ?_); (case e9 => with_reducible assumption); (try dsimp only)) | ((with_reducible show wpAny _ _ (exec _ _) _ _ _); (refine gen_exec ?_); intro P9 hP9; walk1) | (k_unfold; (try dsimp only)) | (with_reducible ((with_reducible show wpAny _ _ (call (Value.builtin "dict.items") _) _ _ _); (k_here; (k_dflt (refine' dct_items ?qF ?qN ?qk2 ?qk3 ?qk4 ?_; (case qF => k_asm); (case qN => k_asm); (case qk2 => k_mem); (case qk3 => assumption); (case qk4 => assumption); k_whole)); intro V' h' hv' F' N'))) | (with_reducible ((with_reducible show wpAny _ _ (getMethod (Value.ref _) _ _) _ _ _); (k_here; (k_dflt (refine' dct_items_method ?qk1 ?qk2 ?qk3 ?_; (case qk1 => k_asm); (case qk2 => k_mem); (case qk3 => assumption); k_whole))))) | (with_reducible (k_here; (with_reducible show wpAny _ _ (call (Value.ref 185) [Value.int _ _]) _ _ _); k_dflt (refine' folder_tells ?qB ?qF ?qX ?qN ?qT ?qhk ?qhd ?qhu ?qhk1 ?_; (  (case qB => k_asm); (case qF => k_asm); (case qX => k_asm); (case qN => k_asm); (case qT => k_asm); (case qhk => first | exact rfl | assumption); (case qhd => ktr_room); (case qhu => ktr_units)); (case qhk1 => (first | (with_reducible assumption) | omega | assumption)); k_whole); intro t' h' tk' F' N'; (try k_sweep))) | (with_reducible (k_here; (with_reducible show wpAny _ _ (call (Value.ref 150) [Value.str _ _, Value.str _ _]) _ _ _); k_dflt (refine' join_tells ?qB ?qF ?qX ?qN ?qT ?qhk ?qhd ?qhu ?qhl ?qhl2 ?_; (  (case qB => k_asm); (case qF => k_asm); (case qX => k_asm); (case qN => k_asm); (case qT => k_asm); (case qhk => first | exact rfl | assumption); (case qhd => ktr_room); (case qhu => ktr_units)); (case qhl => (first | (with_reducible assumption) | omega | assumption)); (case qhl2 => (first | (with_reducible assumption) | omega | assumption)); k_whole); intro t' h' tk' F' N'; (try k_sweep))) | (with_reducible ((with_reducible show wpAny _ _ (eval (PySem.Expr.Name _ _) _) _ _ _); (k_dflt (refine' ld ?qk1 ?qk2 ?_; (case qk1 => k_asm); (case qk2 => exact rfl); k_whole)))) | walk1 | (dsimp only; walk1)))
    (with_reducible rename Fr _ _ _ _ => F5)
    (with_reducible rename News _ _ _ _ => N5)
    have hord : HA < CA ∧ CA < TA ∧ ∀ p ∈ news, p.1 < HA := by
      rename_i o1 o2 o3 o4 o5
      exact ⟨(by assumption : HA < CA ∧ AllLt CA news).1, (by assumption : CA < TA ∧ HA < TA ∧ AllLt TA news).1, by assumption⟩
    have hneHC : HA ≠ CA := Nat.ne_of_lt hord.1
    have N6 : News _ _ _ ((HA, LObj [] 0) :: (CA, o0) :: ((TA, listOf #[] 0) :: news)) := fun p hp => N5 p (by
      rcases mem3 hp with rfl | rfl | hp
      · exact .tail _ (.tail _ (.tail _ (.tail _ (.head _))))
      · exact .tail _ (.tail _ (.tail _ (.head _)))
      · rcases List.mem_cons.mp hp with rfl | hp
        · exact .tail _ (.tail _ (.head _))
        · exact .tail _ (.tail _ (.tail _ (.tail _ (.tail _ hp)))))
    have hr0 : ∀ p ∈ (TA, listOf #[] 0) :: news, p.1 ≠ HA ∧ p.1 ≠ CA := fun p hp => by
      rcases List.mem_cons.mp hp with rfl | hp
      · exact ⟨Nat.ne_of_gt (Nat.lt_trans hord.1 hord.2.1), Nat.ne_of_gt hord.2.1⟩
      · have := hord.2.2 p hp
        exact ⟨Nat.ne_of_lt this, Nat.ne_of_lt (Nat.lt_trans this hord.1)⟩
    clear N5
    k_dflt refine' for_enum (vs := lv) (fun i m₁ nx => ∃ l n' o r, RunA HA CA TA ((TA, listOf #[] 0) :: news) w ls i m₁ nx l n' o r) ?hh ?hl ?hlL F5 N6 ?hj ?turn ?done
    case hh => exact rfl
    case hl => exact ⟨_, (N6 _ (.tail _ (.tail _ (.tail _ hLA)))).1, rfl, n, rfl⟩
    case hlL => exact hLA1.2.1
    case hj => exact ⟨[], 0, o0, _, ⟨_, rfl⟩, rfl, rfl, rfl, rfl, hr0, fun _ h => h, fun p hp => by simp at hp, fun i a b _ hb => by simp at hb, .refl _, ⟨[], hdc, .nil⟩⟩
    case turn =>
      rintro i v m₁ nx h tk own I T t hi hv ⟨l, n', o, r, ⟨t5, hm1⟩, hm2, hm3, hm4, rfl, hr, hin, hK, hHp, hperm, hDo⟩ hown hoff ⟨oI, hI1⟩ ⟨oI2, hI2⟩ hlt hT F2 N2
      obtain ⟨a, n2, t6, t7, t8, x, rfl, hx, hma⟩ := hls.at hv
      have F3 := fr_known4 F2 hm1 hm2 hm3 hm4
      clear F2
      have hmr : (a, listOf #[.int x.1 t6, .int x.2.1 t7, .int x.2.2 t8] n2) ∈ r := hin _ (.tail _ hma)
      have N3 : News _ _ _ ((a, listOf #[.int x.1 t6, .int x.2.1 t7, .int x.2.2 t8] n2) :: (HA, LObj l n') :: (CA, o) :: (r ++ own)) := fun p hp => N2 p (by
        rcases List.mem_cons.mp hp with rfl | hp
        · exact List.mem_append_left _ (.tail _ (.tail _ hmr))
        · exact hp)
      clear N2
      have hxl : x ∈ ls := List.mem_of_getElem? hx
      have hxs := hsz x hxl
      have hxn := hnm x hxl
      have hwl : (wayS x.2.2.natAbs).length ≤ 1000 := by
        have := hexL_len 12 _ hxn
        have h2 := foldS_len (hexL x.2.2.natAbs)
        show (mkS (47 :: 109 :: segsL (hexL x.2.2.natAbs))).length ≤ 1000
        unfold foldS at h2
        (clear hxn hxs hxl N3 hmr F3 hma hx hT hv hlt hI2 hI1 hoff hown hm1 hDo hperm hHp hK hin hr hm4 hm3 hm2 hi hr0 N6 hneHC hord hP8 hD hdc F5 hI hyl hLA1 T' X' B' FG' hret hso hnm hsz hlen hls hLA hu hd hk N X F B; lia)
      have hi12 : i < 12 := by rw [hls.len] at hi; (clear hwl hxn hxs hxl N3 hmr F3 hma hx hT hv hlt hI2 hI1 hoff hown hm1 hDo hperm hHp hK hin hr hm4 hm3 hm2 hr0 N6 hneHC hord hP8 hD hdc F5 hI hyl hLA1 T' X' B' FG' hret hso hnm hsz hls hLA hu hd hk N X F B; lia)
      have hsl : (Str.ofString (toString (i : Int))).length ≤ 1000 := Nat.le_trans (dig_ok hi12).1 (by decide)
      have hjp := join_path (x := x) hi12 hxn
      have hll : (l ++ [((.none : Value), keyL i x)]).length ≤ 900 := by
        have := hperm.length_eq
        rw [List.length_map, keysF_len, List.length_take] at this
        rw [List.length_append]
        show l.length + 1 ≤ 900
        (clear hjp hsl hwl hxn hxs hxl N3 hmr F3 hma hx hT hv hlt hI2 hI1 hoff hown hm1 hDo hperm hHp hK hin hr hm4 hm3 hm2 hi hr0 N6 hneHC hord hP8 hD hdc F5 hI hyl hLA1 T' X' B' FG' hret hso hnm hsz hls hLA hu hd hk N X F B; lia)
      have hpi : (pathL i x) = (joinT (wayS x.2.2.natAbs) (Str.ofString (toString (i : Int)))).cps.toList := by rw [hjp]
      (repeat' ((fail_if_success (with_reducible first | show wpAny _ _ (pyIter _) _ _ _ | show wpAny _ _ (exec (Stmt.While _ _ _ _) _) _ _ _ | show wpAny _ _ (exec (Stmt.For _ _ _ _ _) _) _ _ _ | show TurnEnd _ _ _ _ _ _ _ | show TurnPost _ _ _ _ _ _ _ _ _ | show WhileStep _ _ _ _ _ _ _ | show WhileStep2 _ _ _ _ _ _ _ _ | show wpAny _ _ (eval (Expr.ListComp _ _ _ _) _) _ _ _ | show wpAny _ _ (exec (Stmt.Assign _ (Expr.ListComp _ _ _ _) _) _) _ _ _ | show wpAny _ _ (call (Value.builtin "sorted") _) _ _ _ | show wpAny _ _ (call (Value.builtin "sum") _) _ _ _ | show wpAny _ _ (call (Value.type "enumerate") _) _ _ _ | show wpAny _ _ (call (Value.type "range") _) _ _ _ | show wpAny _ _ (binaryOp _ (Value.ref _) (Value.ref _)) _ _ _ | show wpAny _ _ (call (Value.ref _) (Value.ref _ :: _)) _ _ _ | show wpAny _ _ (call (Value.ref 178) _) _ _ _)); first | ((with_reducible refine' isq_back ?e9 ?_); (case e9 => with_reducible assumption); (try dsimp only)) | ((with_reducible show wpAny _ _ (exec _ _) _ _ _); (refine gen_exec ?_); intro P9 hP9; walk1) | (k_unfold; (try dsimp only)) | (with_reducible ((with_reducible show wpAny _ _ (call (Value.builtin "dict.items") _) _ _ _); (k_here; (k_dflt (refine' dct_items ?qF ?qN ?qk2 ?qk3 ?qk4 ?_; (case qF => k_asm); (case qN => k_asm); (case qk2 => k_mem); (case qk3 => assumption); (case qk4 => assumption); k_whole)); intro V' h' hv' F' N'))) | (with_reducible ((with_reducible show wpAny _ _ (getMethod (Value.ref _) _ _) _ _ _); (k_here; (k_dflt (refine' dct_items_method ?qk1 ?qk2 ?qk3 ?_; (case qk1 => k_asm); (case qk2 => k_mem); (case qk3 => assumption); k_whole))))) | (with_reducible (k_here; (with_reducible show wpAny _ _ (call (Value.ref 185) [Value.int _ _]) _ _ _); k_dflt (refine' folder_tells ?qB ?qF ?qX ?qN ?qT ?qhk ?qhd ?qhu ?qhk1 ?_; (  (case qB => k_asm); (case qF => k_asm); (case qX => k_asm); (case qN => k_asm); (case qT => k_asm); (case qhk => first | exact rfl | assumption); (case qhd => ktr_room); (case qhu => ktr_units)); (case qhk1 => (first | (with_reducible assumption) | omega | assumption)); k_whole); intro t' h' tk' F' N'; (try k_sweep))) | (with_reducible (k_here; (with_reducible show wpAny _ _ (call (Value.ref 150) [Value.str _ _, Value.str _ _]) _ _ _); k_dflt (refine' join_tells ?qB ?qF ?qX ?qN ?qT ?qhk ?qhd ?qhu ?qhl ?qhl2 ?_; (  (case qB => k_asm); (case qF => k_asm); (case qX => k_asm); (case qN => k_asm); (case qT => k_asm); (case qhk => first | exact rfl | assumption); (case qhd => ktr_room); (case qhu => ktr_units)); (case qhl => (first | (with_reducible assumption) | omega | assumption)); (case qhl2 => (first | (with_reducible assumption) | omega | assumption)); k_whole); intro t' h' tk' F' N'; (try k_sweep))) | (with_reducible ((with_reducible show wpAny _ _ (eval (PySem.Expr.Name _ _) _) _ _ _); (k_dflt (refine' ld ?qk1 ?qk2 ?_; (case qk1 => k_asm); (case qk2 => exact rfl); k_whole)))) | walk1 | (dsimp only; walk1)))
      (with_reducible rename Fr _ _ _ _ => F7)
      (with_reducible rename News _ _ _ _ => N7)
      refine news_name N7 fun IB rest' e1 e2 N8 => ?_
      subst e1
      have hIB : HA < IB ∧ CA < IB ∧ AllLt IB (r ++ own) := (by assumption : _ < IB ∧ HA < IB ∧ CA < IB ∧ AllLt IB (r ++ own)).2
      have hIBne := allLt_ne hIB.2.2
      have hownHC : ∀ p ∈ own, p.1 ≠ HA ∧ p.1 ≠ CA := fun p hp => by
        have h1 := hlt _ (.head _)
        have h2 := hlt _ (.tail _ (.head _))
        rcases hown p hp with e | e | e <;> rw [e]
        · exact ⟨Nat.ne_of_gt (Nat.lt_succ_of_lt h1), Nat.ne_of_gt (Nat.lt_succ_of_lt h2)⟩
        · exact ⟨Nat.ne_of_gt h1, Nat.ne_of_gt h2⟩
        · exact hr0 _ (.tail _ hLA)
      have hro : ∀ p ∈ r ++ own, p.1 ≠ HA ∧ p.1 ≠ CA := fun p hp => (List.mem_append.mp hp).elim (hr p) (hownHC p)
      have hK1 : ∀ u1 u2, HK ((IB, listOf #[.int x.1 t6, .int (-x.2.1) u1, .str (joinT (wayS x.2.2.natAbs) (Str.ofString (toString (i : Int)))) u2] 0) :: (CA, o) :: (r ++ own)) (l ++ [(.ref IB, keyL i x)]) := fun u1 u2 p hp => by
        rcases List.mem_append.mp hp with hp | hp
        · exact hK.grow (fun q hq => .tail _ (.tail _ (List.mem_append_left _ hq))) p hp
        · rw [List.mem_singleton.mp hp]
          exact ⟨IB, _, 0, rfl, .head _, .cons rfl (.cons rfl (.cons hpi.symm .nil))⟩
      have htk : ls.take (i + 1) = ls.take i ++ [x] := by rw [List.take_add_one, hx]; rfl
      have hti : (ls.take i).length = i := by
        have := (List.getElem?_eq_some_iff.mp hx).1
        rw [List.length_take]; (clear htk hK1 hro hownHC hIBne hIB N7 N8 e2 F7 hpi hll hjp hsl hi12 hwl hxn hxs hxl hmr hma hx hT hv hlt hI2 hI1 hoff hown hm1 hDo hperm hHp hK hin hr hm4 hm3 hm2 hi hr0 hneHC hord hP8 hD hdc hI hyl hLA1 T' X' B' FG' hret hso hnm hsz hlen hls hLA hu hd hk N X F B; lia)
      have hks : ((l ++ [((.ref IB : Value), keyL i x)]).map (·.2)).Perm (keysF 0 (ls.take (i + 1))) := by
        rw [htk, keysF_app, hti, Nat.zero_add, List.map_append]
        exact hperm.append_right _
      have hll1 : l.length ≤ 900 := by rw [List.length_append] at hll; (clear hks hti htk hK1 hro hownHC hIBne hIB N7 N8 e2 F7 hpi hjp hsl hi12 hwl hxn hxs hxl hmr hma hx hT hv hlt hI2 hI1 hoff hown hm1 hDo hperm hHp hK hin hr hm4 hm3 hm2 hi hr0 hneHC hord hP8 hD hdc hI hyl hLA1 T' X' B' FG' hret hso hnm hsz hlen hls hLA hu hd hk N X F B; lia)
      have N9 : News _ _ _ ((HA, LObj l n') :: (IB, _) :: (CA, o) :: (r ++ own)) := fun p hp => N8 p (by
        rcases mem3 hp with rfl | rfl | hp
        · exact .tail _ (e2 ▸ .tail _ (.head _))
        · exact .head _
        · exact .tail _ (e2 ▸ .tail _ (.tail _ hp)))
      clear N7 N8
      have hna9 : ∀ u1 u2, ∀ p ∈ ((IB, listOf #[.int x.1 t6, .int (-x.2.1) u1, .str (joinT (wayS x.2.2.natAbs) (Str.ofString (toString (i : Int)))) u2] 0) :: (CA, o) :: (r ++ own) : List (Addr × Obj)), p.1 ≠ HA := by
        intro u1 u2 p hp
        rcases mem3 hp with rfl | rfl | hp
        · exact Nat.ne_of_gt hIB.1
        · exact Ne.symm hneHC
        · exact (hro p hp).1
      k_dflt (refine' heappush_tells (l := l) (p := (.ref IB, keyL i x)) ?B ?F ?X ?N ?T ?hk ?hd ?hu ?e1 ?hna hll1 ?hK (alike_keys hks) ?_; (  (case B => k_asm); (case F => k_asm); (case X => k_asm); (case N => k_asm); (case T => k_asm); (case hk => first | exact rfl | assumption); (case hd => first | exact rm2 hd | exact rm3 hd | exact rm4 hd | exact rm6 hd | ktr_room); (case hu => first | exact ru hu | ktr_units)); (case e1 => exact rfl); (case hna => exact hna9 _ _); (case hK => exact hK1 _ _); k_whole)
      intro n8 h8 tk8 F8 N10
      clear N9
      (repeat' ((fail_if_success (with_reducible first | show wpAny _ _ (pyIter _) _ _ _ | show wpAny _ _ (exec (Stmt.While _ _ _ _) _) _ _ _ | show wpAny _ _ (exec (Stmt.For _ _ _ _ _) _) _ _ _ | show TurnEnd _ _ _ _ _ _ _ | show TurnPost _ _ _ _ _ _ _ _ _ | show WhileStep _ _ _ _ _ _ _ | show WhileStep2 _ _ _ _ _ _ _ _ | show wpAny _ _ (eval (Expr.ListComp _ _ _ _) _) _ _ _ | show wpAny _ _ (exec (Stmt.Assign _ (Expr.ListComp _ _ _ _) _) _) _ _ _ | show wpAny _ _ (call (Value.builtin "sorted") _) _ _ _ | show wpAny _ _ (call (Value.builtin "sum") _) _ _ _ | show wpAny _ _ (call (Value.type "enumerate") _) _ _ _ | show wpAny _ _ (call (Value.type "range") _) _ _ _ | show wpAny _ _ (binaryOp _ (Value.ref _) (Value.ref _)) _ _ _ | show wpAny _ _ (call (Value.ref _) (Value.ref _ :: _)) _ _ _ | show wpAny _ _ (call (Value.ref 178) _) _ _ _)); first | ((with_reducible refine' isq_back ?e9 ?_); (case e9 => with_reducible assumption); (try dsimp only)) | ((with_reducible show wpAny _ _ (exec _ _) _ _ _); (refine gen_exec ?_); intro P9 hP9; walk1) | (k_unfold; (try dsimp only)) | (with_reducible ((with_reducible show wpAny _ _ (call (Value.builtin "dict.items") _) _ _ _); (k_here; (k_dflt (refine' dct_items ?qF ?qN ?qk2 ?qk3 ?qk4 ?_; (case qF => k_asm); (case qN => k_asm); (case qk2 => k_mem); (case qk3 => assumption); (case qk4 => assumption); k_whole)); intro V' h' hv' F' N'))) | (with_reducible ((with_reducible show wpAny _ _ (getMethod (Value.ref _) _ _) _ _ _); (k_here; (k_dflt (refine' dct_items_method ?qk1 ?qk2 ?qk3 ?_; (case qk1 => k_asm); (case qk2 => k_mem); (case qk3 => assumption); k_whole))))) | (with_reducible (k_here; (with_reducible show wpAny _ _ (call (Value.ref 185) [Value.int _ _]) _ _ _); k_dflt (refine' folder_tells ?qB ?qF ?qX ?qN ?qT ?qhk ?qhd ?qhu ?qhk1 ?_; (  (case qB => k_asm); (case qF => k_asm); (case qX => k_asm); (case qN => k_asm); (case qT => k_asm); (case qhk => first | exact rfl | assumption); (case qhd => ktr_room); (case qhu => ktr_units)); (case qhk1 => (first | (with_reducible assumption) | omega | assumption)); k_whole); intro t' h' tk' F' N'; (try k_sweep))) | (with_reducible (k_here; (with_reducible show wpAny _ _ (call (Value.ref 150) [Value.str _ _, Value.str _ _]) _ _ _); k_dflt (refine' join_tells ?qB ?qF ?qX ?qN ?qT ?qhk ?qhd ?qhu ?qhl ?qhl2 ?_; (  (case qB => k_asm); (case qF => k_asm); (case qX => k_asm); (case qN => k_asm); (case qT => k_asm); (case qhk => first | exact rfl | assumption); (case qhd => ktr_room); (case qhu => ktr_units)); (case qhl => (first | (with_reducible assumption) | omega | assumption)); (case qhl2 => (first | (with_reducible assumption) | omega | assumption)); k_whole); intro t' h' tk' F' N'; (try k_sweep))) | (with_reducible ((with_reducible show wpAny _ _ (eval (PySem.Expr.Name _ _) _) _ _ _); (k_dflt (refine' ld ?qk1 ?qk2 ?_; (case qk1 => k_asm); (case qk2 => exact rfl); k_whole)))) | walk1 | (dsimp only; walk1)))
      have N11 := N10
      clear N10
      have hHK2 : ∀ u1 u2, HK ((IB, listOf #[.int x.1 t6, .int (-x.2.1) u1, .str (joinT (wayS x.2.2.natAbs) (Str.ofString (toString (i : Int)))) u2] 0) :: r) (sdown (.ref IB, keyL i x) l.length (l ++ [(.ref IB, keyL i x)])) := fun u1 u2 p hp => by
        rcases List.mem_append.mp ((push_perm l (.ref IB, keyL i x)).mem_iff.mp hp) with hp | hp
        · exact hK.grow (fun q hq => .tail _ hq) p hp
        · rw [List.mem_singleton.mp hp]
          exact ⟨IB, _, 0, rfl, .head _, .cons rfl (.cons rfl (.cons hpi.symm .nil))⟩
      have hHp2 := push_heap (p := (.ref IB, keyL i x)) hHp
      have hks2 := ((push_perm l (.ref IB, keyL i x)).map (·.2)).trans hks
      generalize sdown (.ref IB, keyL i x) l.length (l ++ [(.ref IB, keyL i x)]) = l2 at hHK2 hHp2 hks2 N11
      refine news_second N11 fun ob eob N12 => ?_
      have hHK3 : HK ((IB, ob) :: r) l2 := eob ▸ hHK2 _ _
      clear N11 hHK2 eob
      have N13 : News _ _ _ ((CA, o) :: (HA, LObj l2 n8) :: (IB, ob) :: (r ++ own)) := fun p hp => N12 p (by
        rcases mem3 hp with rfl | rfl | hp
        · exact .tail _ (.tail _ (.head _))
        · exact .head _
        · rcases List.mem_cons.mp hp with rfl | hp
          · exact .tail _ (.head _)
          · exact .tail _ (.tail _ (.tail _ hp)))
      clear N12
      have hnaC : ∀ p ∈ ((HA, LObj l2 n8) :: (IB, ob) :: (r ++ own) : List (Addr × Obj)), p.1 ≠ CA := by
        intro p hp
        rcases mem3 hp with rfl | rfl | hp
        · exact hneHC
        · exact Nat.ne_of_gt hIB.2.1
        · exact (hro p hp).2
      have hx12 := hexL_len 12 _ hxn
      have hchl : (chF (ls.take i)).length + (hexL x.2.2.natAbs).length ≤ 900 := by
        have := chF_len (ls.take i) [] fun y hy => hnm y (List.mem_of_mem_take hy)
        unfold chF
        simp only [List.length_nil] at this
        (clear hnaC N13 hHK3 hks2 hHp2 F8 hna9 hll1 hks htk hK1 hro hownHC hIBne hIB e2 F7 hpi hll hjp hsl hwl hxn hxs hxl hmr hma hx hT hv hlt hI2 hI1 hoff hown hm1 hDo hperm hHp hK hin hr hm4 hm3 hm2 hi hr0 hneHC hord hP8 hD hdc hI hyl hLA1 T' X' B' FG' hret hso hnm hsz hlen hls hLA hu hd hk N X F B; lia)
      have hdir : dirT (joinT (wayS x.2.2.natAbs) (Str.ofString (toString (i : Int)))) = foldS (hexL x.2.2.natAbs) := by
        rw [hjp]; exact dir_under (hex_ne hxn) (dig_ok hi12).2.2
      have hpl : (joinT (wayS x.2.2.natAbs) (Str.ofString (toString (i : Int)))).length ≤ 1000 := by rw [hjp]; exact pathL_len hi12 hxn
      k_dflt (refine' charged_tells (l := hexL x.2.2.natAbs) (ch := chF (ls.take i)) ?B ?F ?X ?N ?T ?hk ?hd ?hu ?e1 ?hna ?hD ?lo hchl (hex_ne hxn) hdir hpl ?hll ?_; (  (case B => k_asm); (case F => k_asm); (case X => k_asm); (case N => k_asm); (case T => k_asm); (case hk => first | exact rfl | assumption); (case hd => first | exact rm2 hd | exact rm3 hd | exact rm4 hd | exact rm6 hd | ktr_room); (case hu => first | exact ru hu | ktr_units)); (case e1 => exact rfl); (case hna => exact hnaC); (case hD => exact hDo); (case lo => assumption); (case hll => (clear hpl hdir hchl hnaC N13 hHK3 hks2 hHp2 F8 hna9 hll1 hks hti htk hK1 hro hownHC hIBne hIB e2 F7 hpi hll hjp hsl hi12 hwl hxn hxs hxl hmr hma hx hT hv hlt hI2 hI1 hoff hown hm1 hDo hperm hHp hK hin hr hm4 hm3 hm2 hi hr0 hneHC hord hP8 hD hdc hI hyl hLA1 T' X' B' FG' hret hso hnm hsz hlen hls hLA hu hd hk N X F B; lia)); k_whole)
      intro o9 h9 tk9 F9 N14 hD9
      clear N13
      (repeat' ((fail_if_success (with_reducible first | show wpAny _ _ (pyIter _) _ _ _ | show wpAny _ _ (exec (Stmt.While _ _ _ _) _) _ _ _ | show wpAny _ _ (exec (Stmt.For _ _ _ _ _) _) _ _ _ | show TurnEnd _ _ _ _ _ _ _ | show TurnPost _ _ _ _ _ _ _ _ _ | show WhileStep _ _ _ _ _ _ _ | show WhileStep2 _ _ _ _ _ _ _ _ | show wpAny _ _ (eval (Expr.ListComp _ _ _ _) _) _ _ _ | show wpAny _ _ (exec (Stmt.Assign _ (Expr.ListComp _ _ _ _) _) _) _ _ _ | show wpAny _ _ (call (Value.builtin "sorted") _) _ _ _ | show wpAny _ _ (call (Value.builtin "sum") _) _ _ _ | show wpAny _ _ (call (Value.type "enumerate") _) _ _ _ | show wpAny _ _ (call (Value.type "range") _) _ _ _ | show wpAny _ _ (binaryOp _ (Value.ref _) (Value.ref _)) _ _ _ | show wpAny _ _ (call (Value.ref _) (Value.ref _ :: _)) _ _ _ | show wpAny _ _ (call (Value.ref 178) _) _ _ _)); first | ((with_reducible refine' isq_back ?e9 ?_); (case e9 => with_reducible assumption); (try dsimp only)) | ((with_reducible show wpAny _ _ (exec _ _) _ _ _); (refine gen_exec ?_); intro P9 hP9; walk1) | (k_unfold; (try dsimp only)) | (with_reducible ((with_reducible show wpAny _ _ (call (Value.builtin "dict.items") _) _ _ _); (k_here; (k_dflt (refine' dct_items ?qF ?qN ?qk2 ?qk3 ?qk4 ?_; (case qF => k_asm); (case qN => k_asm); (case qk2 => k_mem); (case qk3 => assumption); (case qk4 => assumption); k_whole)); intro V' h' hv' F' N'))) | (with_reducible ((with_reducible show wpAny _ _ (getMethod (Value.ref _) _ _) _ _ _); (k_here; (k_dflt (refine' dct_items_method ?qk1 ?qk2 ?qk3 ?_; (case qk1 => k_asm); (case qk2 => k_mem); (case qk3 => assumption); k_whole))))) | (with_reducible (k_here; (with_reducible show wpAny _ _ (call (Value.ref 185) [Value.int _ _]) _ _ _); k_dflt (refine' folder_tells ?qB ?qF ?qX ?qN ?qT ?qhk ?qhd ?qhu ?qhk1 ?_; (  (case qB => k_asm); (case qF => k_asm); (case qX => k_asm); (case qN => k_asm); (case qT => k_asm); (case qhk => first | exact rfl | assumption); (case qhd => ktr_room); (case qhu => ktr_units)); (case qhk1 => (first | (with_reducible assumption) | omega | assumption)); k_whole); intro t' h' tk' F' N'; (try k_sweep))) | (with_reducible (k_here; (with_reducible show wpAny _ _ (call (Value.ref 150) [Value.str _ _, Value.str _ _]) _ _ _); k_dflt (refine' join_tells ?qB ?qF ?qX ?qN ?qT ?qhk ?qhd ?qhu ?qhl ?qhl2 ?_; (  (case qB => k_asm); (case qF => k_asm); (case qX => k_asm); (case qN => k_asm); (case qT => k_asm); (case qhk => first | exact rfl | assumption); (case qhd => ktr_room); (case qhu => ktr_units)); (case qhl => (first | (with_reducible assumption) | omega | assumption)); (case qhl2 => (first | (with_reducible assumption) | omega | assumption)); k_whole); intro t' h' tk' F' N'; (try k_sweep))) | (with_reducible ((with_reducible show wpAny _ _ (eval (PySem.Expr.Name _ _) _) _ _ _); (k_dflt (refine' ld ?qk1 ?qk2 ?_; (case qk1 => k_asm); (case qk2 => exact rfl); k_whole)))) | walk1 | (dsimp only; walk1)))
      (with_reducible rename Fr _ _ _ _ => F15)
      (with_reducible rename News _ _ _ _ => N15)
      refine TurnEnd.intro (nx := (HA, LObj l2 n8) :: (CA, o9) :: ((IB, ob) :: r)) F15 (fun p hp => N15 p ?_) ?_ ⟨?_, l2, n8, o9, (IB, ob) :: r, ⟨_, rfl⟩, rfl, rfl, rfl, rfl, ?_, ?_, hHK3, hHp2, hks2, ?_⟩
      · rcases List.mem_append.mp hp with hp | hp
        · exact .tail _ (.tail _ (.tail _ (List.mem_append_right _ hp)))
        · rcases mem3 hp with rfl | rfl | hp
          · exact .tail _ (.head _)
          · exact .head _
          · rcases List.mem_cons.mp hp with rfl | hp
            · exact .tail _ (.tail _ (.head _))
            · exact .tail _ (.tail _ (.tail _ (List.mem_append_left _ hp)))
      · intro p hp
        rcases mem3 hp with rfl | rfl | hp
        · exact (hoff _ (.head _)).1
        · exact (hoff (CA, o) (.tail _ (.head _))).1
        · rcases List.mem_cons.mp hp with rfl | hp
          · exact Ne.symm (hIBne _ (List.mem_append_right _ hI1))
          · exact (hoff p (.tail _ (.tail _ hp))).1
      · intro p hp
        rcases mem3 hp with rfl | rfl | hp
        · exact (hoff _ (.head _)).2
        · exact (hoff (CA, o) (.tail _ (.head _))).2
        · rcases List.mem_cons.mp hp with rfl | hp
          · exact Ne.symm (hIBne _ (List.mem_append_right _ hI2))
          · exact (hoff p (.tail _ (.tail _ hp))).2
      · intro p hp
        rcases List.mem_cons.mp hp with rfl | hp
        · exact ⟨Nat.ne_of_gt hIB.1, Nat.ne_of_gt hIB.2.1⟩
        · exact hr p hp
      · exact fun p hp => .tail _ (hin p hp)
      · rw [htk, chF_app]; exact hD9
    case done =>
      rintro m₁ nx h tk ⟨l, n', o, r, ⟨t5, hm1⟩, hm2, hm3, hm4, rfl, hr, hin, hK, hHp, hperm, hDo⟩ F2 N2
      rw [hls.len, List.take_length] at hperm hDo
      have F3 := fr_known4 F2 hm1 hm2 hm3 hm4
      clear F2
      have hsom : ∀ e ∈ so, e.1 < 12 ∧ 1 ≤ e.2.2.1 ∧ e.2.2.2.natAbs < 16 ^ 12 := fun e he => by
        have := so_mem hso he
        exact ⟨by (clear he F3 N2 hm1 hDo hperm hHp hK hin hr hm4 hm3 hm2 hr0 N6 hneHC hord hP8 hD hdc F5 hI hyl hLA1 T' X' B' FG' hret hso hnm hsz hls hLA hu hd hk T N X F B; lia), (hsz _ this.2).1, hnm _ this.2⟩
      have hsol : so.length ≤ 11 := by rw [hso.perm.length_eq, ent_len]; exact hlen
      (try dsimp only)
      (repeat' ((fail_if_success (with_reducible first | show wpAny _ _ (pyIter _) _ _ _ | show wpAny _ _ (exec (Stmt.While _ _ _ _) _) _ _ _ | show wpAny _ _ (exec (Stmt.For _ _ _ _ _) _) _ _ _ | show TurnEnd _ _ _ _ _ _ _ | show TurnPost _ _ _ _ _ _ _ _ _ | show WhileStep _ _ _ _ _ _ _ | show WhileStep2 _ _ _ _ _ _ _ _ | show wpAny _ _ (eval (Expr.ListComp _ _ _ _) _) _ _ _ | show wpAny _ _ (exec (Stmt.Assign _ (Expr.ListComp _ _ _ _) _) _) _ _ _ | show wpAny _ _ (call (Value.builtin "sorted") _) _ _ _ | show wpAny _ _ (call (Value.builtin "sum") _) _ _ _ | show wpAny _ _ (call (Value.type "enumerate") _) _ _ _ | show wpAny _ _ (call (Value.type "range") _) _ _ _ | show wpAny _ _ (binaryOp _ (Value.ref _) (Value.ref _)) _ _ _ | show wpAny _ _ (call (Value.ref _) (Value.ref _ :: _)) _ _ _ | show wpAny _ _ (call (Value.ref 178) _) _ _ _)); first | ((with_reducible refine' isq_back ?e9 ?_); (case e9 => with_reducible assumption); (try dsimp only)) | ((with_reducible show wpAny _ _ (exec _ _) _ _ _); (refine gen_exec ?_); intro P9 hP9; walk1) | (k_unfold; (try dsimp only)) | (with_reducible ((with_reducible show wpAny _ _ (call (Value.builtin "dict.items") _) _ _ _); (k_here; (k_dflt (refine' dct_items ?qF ?qN ?qk2 ?qk3 ?qk4 ?_; (case qF => k_asm); (case qN => k_asm); (case qk2 => k_mem); (case qk3 => assumption); (case qk4 => assumption); k_whole)); intro V' h' hv' F' N'))) | (with_reducible ((with_reducible show wpAny _ _ (getMethod (Value.ref _) _ _) _ _ _); (k_here; (k_dflt (refine' dct_items_method ?qk1 ?qk2 ?qk3 ?_; (case qk1 => k_asm); (case qk2 => k_mem); (case qk3 => assumption); k_whole))))) | (with_reducible (k_here; (with_reducible show wpAny _ _ (call (Value.ref 185) [Value.int _ _]) _ _ _); k_dflt (refine' folder_tells ?qB ?qF ?qX ?qN ?qT ?qhk ?qhd ?qhu ?qhk1 ?_; (  (case qB => k_asm); (case qF => k_asm); (case qX => k_asm); (case qN => k_asm); (case qT => k_asm); (case qhk => first | exact rfl | assumption); (case qhd => ktr_room); (case qhu => ktr_units)); (case qhk1 => (first | (with_reducible assumption) | omega | assumption)); k_whole); intro t' h' tk' F' N'; (try k_sweep))) | (with_reducible (k_here; (with_reducible show wpAny _ _ (call (Value.ref 150) [Value.str _ _, Value.str _ _]) _ _ _); k_dflt (refine' join_tells ?qB ?qF ?qX ?qN ?qT ?qhk ?qhd ?qhu ?qhl ?qhl2 ?_; (  (case qB => k_asm); (case qF => k_asm); (case qX => k_asm); (case qN => k_asm); (case qT => k_asm); (case qhk => first | exact rfl | assumption); (case qhd => ktr_room); (case qhu => ktr_units)); (case qhl => (first | (with_reducible assumption) | omega | assumption)); (case qhl2 => (first | (with_reducible assumption) | omega | assumption)); k_whole); intro t' h' tk' F' N'; (try k_sweep))) | (with_reducible ((with_reducible show wpAny _ _ (eval (PySem.Expr.Name _ _) _) _ _ _); (k_dflt (refine' ld ?qk1 ?qk2 ?_; (case qk1 => k_asm); (case qk2 => exact rfl); k_whole)))) | walk1 | (dsimp only; walk1)))
      (with_reducible rename Fr _ _ _ _ => F4)
      (with_reducible rename News _ _ _ _ => N4)
      (refine gen_exec ?_); intro P8 hP8
      k_dflt refine' While_invM (fun m0 k m₁ nx => ∃ j l n' o r TB tv n3, RunB HA CA news w ls so k m₁ nx j l n' o r TB tv n3) (n₀ := so.length) F4 N4 ?hJ ?turn
      case hJ =>
        refine ⟨0, l, n', o, r, TA, [], 0, rfl, Nat.zero_le _, ⟨_, rfl⟩, rfl, rfl, ⟨_, (if_pos rfl).trans (congrArg (fun z => some (Value.int z _)) (so_sum hso).symm)⟩, rfl, rfl, hr, fun p hp => hin p (.tail _ hp), hin _ (.head _), .nil, hK, hHp, ?_, hDo, by rw [Nat.zero_add]; rfl⟩
        rw [keysF_ent] at hperm
        exact hperm.trans (hso.perm.map keyE).symm
      case turn =>
        rintro k m₂ nx2 h2 tk2 F5 N5 ⟨j, l2, n2, o2, r2, TB, tv, n3, rfl, hjl, ⟨t6, hw1⟩, hw2, hw3, ⟨t7, hw4⟩, rfl, hw5, hr2, hin2, hTB, hSt, hK2, hHp2, hperm2, hDo2, hcut⟩
        have F6 := fr_known5 F5 hw1 hw2 hw3 hw4 hw5
        clear F5
        by_cases hc : (sizes (so.drop j)).sum ≤ halfOf ls
        · have hc' : ¬ (List.sum (ls.map fun x : Lt => x.2.1) : Int).fdiv 2 < (sizes (so.drop j)).sum := Int.not_lt.mpr hc
          (repeat' ((fail_if_success (with_reducible first | show wpAny _ _ (pyIter _) _ _ _ | show wpAny _ _ (exec (Stmt.While _ _ _ _) _) _ _ _ | show wpAny _ _ (exec (Stmt.For _ _ _ _ _) _) _ _ _ | show TurnEnd _ _ _ _ _ _ _ | show TurnPost _ _ _ _ _ _ _ _ _ | show WhileStep _ _ _ _ _ _ _ | show WhileStep2 _ _ _ _ _ _ _ _ | show wpAny _ _ (eval (Expr.ListComp _ _ _ _) _) _ _ _ | show wpAny _ _ (exec (Stmt.Assign _ (Expr.ListComp _ _ _ _) _) _) _ _ _ | show wpAny _ _ (call (Value.builtin "sorted") _) _ _ _ | show wpAny _ _ (call (Value.builtin "sum") _) _ _ _ | show wpAny _ _ (call (Value.type "enumerate") _) _ _ _ | show wpAny _ _ (call (Value.type "range") _) _ _ _ | show wpAny _ _ (binaryOp _ (Value.ref _) (Value.ref _)) _ _ _ | show wpAny _ _ (call (Value.ref _) (Value.ref _ :: _)) _ _ _ | show wpAny _ _ (call (Value.ref 178) _) _ _ _)); first | ((with_reducible refine' isq_back ?e9 ?_); (case e9 => with_reducible assumption); (try dsimp only)) | ((with_reducible show wpAny _ _ (exec _ _) _ _ _); (refine gen_exec ?_); intro P9 hP9; walk1) | (k_unfold; (try dsimp only)) | (with_reducible ((with_reducible show wpAny _ _ (call (Value.builtin "dict.items") _) _ _ _); (k_here; (k_dflt (refine' dct_items ?qF ?qN ?qk2 ?qk3 ?qk4 ?_; (case qF => k_asm); (case qN => k_asm); (case qk2 => k_mem); (case qk3 => assumption); (case qk4 => assumption); k_whole)); intro V' h' hv' F' N'))) | (with_reducible ((with_reducible show wpAny _ _ (getMethod (Value.ref _) _ _) _ _ _); (k_here; (k_dflt (refine' dct_items_method ?qk1 ?qk2 ?qk3 ?_; (case qk1 => k_asm); (case qk2 => k_mem); (case qk3 => assumption); k_whole))))) | (with_reducible (k_here; (with_reducible show wpAny _ _ (call (Value.ref 185) [Value.int _ _]) _ _ _); k_dflt (refine' folder_tells ?qB ?qF ?qX ?qN ?qT ?qhk ?qhd ?qhu ?qhk1 ?_; (  (case qB => k_asm); (case qF => k_asm); (case qX => k_asm); (case qN => k_asm); (case qT => k_asm); (case qhk => first | exact rfl | assumption); (case qhd => ktr_room); (case qhu => ktr_units)); (case qhk1 => (first | (with_reducible assumption) | omega | assumption)); k_whole); intro t' h' tk' F' N'; (try k_sweep))) | (with_reducible (k_here; (with_reducible show wpAny _ _ (call (Value.ref 150) [Value.str _ _, Value.str _ _]) _ _ _); k_dflt (refine' join_tells ?qB ?qF ?qX ?qN ?qT ?qhk ?qhd ?qhu ?qhl ?qhl2 ?_; (  (case qB => k_asm); (case qF => k_asm); (case qX => k_asm); (case qN => k_asm); (case qT => k_asm); (case qhk => first | exact rfl | assumption); (case qhd => ktr_room); (case qhu => ktr_units)); (case qhl => (first | (with_reducible assumption) | omega | assumption)); (case qhl2 => (first | (with_reducible assumption) | omega | assumption)); k_whole); intro t' h' tk' F' N'; (try k_sweep))) | (with_reducible ((with_reducible show wpAny _ _ (eval (PySem.Expr.Name _ _) _) _ _ _); (k_dflt (refine' ld ?qk1 ?qk2 ?_; (case qk1 => k_asm); (case qk2 => exact rfl); k_whole)))) | walk1 | (dsimp only; walk1)))
          (with_reducible rename Fr _ _ _ _ => F7)
          k_dflt (refine' comp_eval F7 ?c1 ?c2 ?c3 ?c4 ?_; (case c1 => with_unfolding_all rfl); (case c2 => decide); (case c3 => exact rfl); (case c4 => decide))
          (repeat' ((fail_if_success (with_reducible first | show wpAny _ _ (pyIter _) _ _ _ | show wpAny _ _ (exec (Stmt.While _ _ _ _) _) _ _ _ | show wpAny _ _ (exec (Stmt.For _ _ _ _ _) _) _ _ _ | show TurnEnd _ _ _ _ _ _ _ | show TurnPost _ _ _ _ _ _ _ _ _ | show WhileStep _ _ _ _ _ _ _ | show WhileStep2 _ _ _ _ _ _ _ _ | show wpAny _ _ (eval (Expr.ListComp _ _ _ _) _) _ _ _ | show wpAny _ _ (exec (Stmt.Assign _ (Expr.ListComp _ _ _ _) _) _) _ _ _ | show wpAny _ _ (call (Value.builtin "sorted") _) _ _ _ | show wpAny _ _ (call (Value.builtin "sum") _) _ _ _ | show wpAny _ _ (call (Value.type "enumerate") _) _ _ _ | show wpAny _ _ (call (Value.type "range") _) _ _ _ | show wpAny _ _ (binaryOp _ (Value.ref _) (Value.ref _)) _ _ _ | show wpAny _ _ (call (Value.ref _) (Value.ref _ :: _)) _ _ _ | show wpAny _ _ (call (Value.ref 178) _) _ _ _)); first | ((with_reducible refine' isq_back ?e9 ?_); (case e9 => with_reducible assumption); (try dsimp only)) | ((with_reducible show wpAny _ _ (exec _ _) _ _ _); (refine gen_exec ?_); intro P9 hP9; walk1) | (k_unfold; (try dsimp only)) | (with_reducible ((with_reducible show wpAny _ _ (call (Value.builtin "dict.items") _) _ _ _); (k_here; (k_dflt (refine' dct_items ?qF ?qN ?qk2 ?qk3 ?qk4 ?_; (case qF => k_asm); (case qN => k_asm); (case qk2 => k_mem); (case qk3 => assumption); (case qk4 => assumption); k_whole)); intro V' h' hv' F' N'))) | (with_reducible ((with_reducible show wpAny _ _ (getMethod (Value.ref _) _ _) _ _ _); (k_here; (k_dflt (refine' dct_items_method ?qk1 ?qk2 ?qk3 ?_; (case qk1 => k_asm); (case qk2 => k_mem); (case qk3 => assumption); k_whole))))) | (with_reducible (k_here; (with_reducible show wpAny _ _ (call (Value.ref 185) [Value.int _ _]) _ _ _); k_dflt (refine' folder_tells ?qB ?qF ?qX ?qN ?qT ?qhk ?qhd ?qhu ?qhk1 ?_; (  (case qB => k_asm); (case qF => k_asm); (case qX => k_asm); (case qN => k_asm); (case qT => k_asm); (case qhk => first | exact rfl | assumption); (case qhd => ktr_room); (case qhu => ktr_units)); (case qhk1 => (first | (with_reducible assumption) | omega | assumption)); k_whole); intro t' h' tk' F' N'; (try k_sweep))) | (with_reducible (k_here; (with_reducible show wpAny _ _ (call (Value.ref 150) [Value.str _ _, Value.str _ _]) _ _ _); k_dflt (refine' join_tells ?qB ?qF ?qX ?qN ?qT ?qhk ?qhd ?qhu ?qhl ?qhl2 ?_; (  (case qB => k_asm); (case qF => k_asm); (case qX => k_asm); (case qN => k_asm); (case qT => k_asm); (case qhk => first | exact rfl | assumption); (case qhd => ktr_room); (case qhu => ktr_units)); (case qhl => (first | (with_reducible assumption) | omega | assumption)); (case qhl2 => (first | (with_reducible assumption) | omega | assumption)); k_whole); intro t' h' tk' F' N'; (try k_sweep))) | (with_reducible ((with_reducible show wpAny _ _ (eval (PySem.Expr.Name _ _) _) _ _ _); (k_dflt (refine' ld ?qk1 ?qk2 ?_; (case qk1 => k_asm); (case qk2 => exact rfl); k_whole)))) | walk1 | (dsimp only; walk1)))
          clear F7
          (with_reducible rename Fr _ _ _ _ => F8)
          (with_reducible rename News _ _ _ _ => N8)
          have hchl : (chUn (chF ls) (so.take j)).length ≤ 900 := by
            have h1 := chF_len ls [] hnm
            have h2 := chUn_len (so.take j) (chF ls) fun f hf => (hsom f (List.mem_of_mem_take hf)).2.2
            have h3 : (so.take j).length ≤ so.length := by rw [List.length_take]; (clear h2 h1 N8 F8 hc' hc N5 hw4 hw1 hDo2 hperm2 hHp2 hK2 hSt hTB hin2 hr2 hw5 hw3 hw2 hP8 N4 F4 hsol hsom F3 N2 hm1 hDo hperm hHp hK hin hr hm4 hm3 hm2 hr0 hneHC hord hD hdc hI hyl hLA1 T' X' B' FG' hret hso hnm hsz hlen hls hLA hu hd hk T N X F B; lia)
            unfold chF at h2 ⊢
            simp only [List.length_nil] at h1
            (clear N8 F8 hc' hc N5 hw4 hw1 hcut hDo2 hperm2 hHp2 hK2 hSt hTB hin2 hr2 hw5 hw3 hw2 hjl hP8 N4 F4 hsom F3 N2 hm1 hDo hperm hHp hK hin hr hm4 hm3 hm2 hr0 hneHC hord hD hdc hI hyl hLA1 T' X' B' FG' hret hso hnm hsz hls hLA hu hd hk T N X F B; lia)
          k_dflt (refine' comp_items (ch := chUn (chF ls) (so.take j)) (fun i ys nw => (∀ p ∈ (HA, LObj l2 n2) :: (CA, o2) :: r2, p ∈ nw) ∧ ys.length ≤ i ∧ PairsAt nw ys (((chUn (chF ls) (so.take j)).take i).filter fun p => decide (p.2 ≠ 0))) ?hh ?hkind ?hxa ?hxb ?hab F8 N8 ?hv ?hmd ?hD ?hsz ?hlen ?h0 ?step ?fin; (case hh => exact rfl); (case hkind => exact rfl); (case hxa => decide); (case hxb => decide); (case hab => decide); (case hv => assumption); (case hmd => exact .tail _ (.head _)); (case hD => exact hDo2); (case hsz => (clear N8 F8 hc' hc N5 hw4 hw1 hcut hDo2 hperm2 hHp2 hK2 hSt hTB hin2 hr2 hw5 hw3 hw2 hjl hP8 N4 F4 hsol hsom F3 N2 hm1 hDo hperm hHp hK hin hr hm4 hm3 hm2 hr0 hneHC hord hD hdc hI hyl hLA1 T' X' B' FG' hret hso hnm hsz hlen hls hLA hu hd hk T N X F B; lia)); (case hlen => exact fun i ys nw h => h.2.1); (case h0 => exact ⟨fun _ h => h, Nat.zero_le _, .nil⟩))
          case step =>
            rintro s9 I hIC hIl i ys nw own h₁ tk₁ C oC mC D E' hi ⟨hbase, hyl, hpa⟩ ⟨k, nn, t8, t9, hch, hma, hmb⟩ hoff hown hwr hCD F₁ hoC N₁
            refine tst_one ?_
            (repeat' ((fail_if_success (with_reducible first | show wpAny _ _ (pyIter _) _ _ _ | show wpAny _ _ (exec (Stmt.While _ _ _ _) _) _ _ _ | show wpAny _ _ (exec (Stmt.For _ _ _ _ _) _) _ _ _ | show TurnEnd _ _ _ _ _ _ _ | show TurnPost _ _ _ _ _ _ _ _ _ | show WhileStep _ _ _ _ _ _ _ | show WhileStep2 _ _ _ _ _ _ _ _ | show wpAny _ _ (eval (Expr.ListComp _ _ _ _) _) _ _ _ | show wpAny _ _ (exec (Stmt.Assign _ (Expr.ListComp _ _ _ _) _) _) _ _ _ | show wpAny _ _ (call (Value.builtin "sorted") _) _ _ _ | show wpAny _ _ (call (Value.builtin "sum") _) _ _ _ | show wpAny _ _ (call (Value.type "enumerate") _) _ _ _ | show wpAny _ _ (call (Value.type "range") _) _ _ _ | show wpAny _ _ (binaryOp _ (Value.ref _) (Value.ref _)) _ _ _ | show wpAny _ _ (call (Value.ref _) (Value.ref _ :: _)) _ _ _ | show wpAny _ _ (call (Value.ref 178) _) _ _ _)); first | ((with_reducible refine' isq_back ?e9 ?_); (case e9 => with_reducible assumption); (try dsimp only)) | ((with_reducible show wpAny _ _ (exec _ _) _ _ _); (refine gen_exec ?_); intro P9 hP9; walk1) | (k_unfold; (try dsimp only)) | (with_reducible ((with_reducible show wpAny _ _ (call (Value.builtin "dict.items") _) _ _ _); (k_here; (k_dflt (refine' dct_items ?qF ?qN ?qk2 ?qk3 ?qk4 ?_; (case qF => k_asm); (case qN => k_asm); (case qk2 => k_mem); (case qk3 => assumption); (case qk4 => assumption); k_whole)); intro V' h' hv' F' N'))) | (with_reducible ((with_reducible show wpAny _ _ (getMethod (Value.ref _) _ _) _ _ _); (k_here; (k_dflt (refine' dct_items_method ?qk1 ?qk2 ?qk3 ?_; (case qk1 => k_asm); (case qk2 => k_mem); (case qk3 => assumption); k_whole))))) | (with_reducible (k_here; (with_reducible show wpAny _ _ (call (Value.ref 185) [Value.int _ _]) _ _ _); k_dflt (refine' folder_tells ?qB ?qF ?qX ?qN ?qT ?qhk ?qhd ?qhu ?qhk1 ?_; (  (case qB => k_asm); (case qF => k_asm); (case qX => k_asm); (case qN => k_asm); (case qT => k_asm); (case qhk => first | exact rfl | assumption); (case qhd => ktr_room); (case qhu => ktr_units)); (case qhk1 => (first | (with_reducible assumption) | omega | assumption)); k_whole); intro t' h' tk' F' N'; (try k_sweep))) | (with_reducible (k_here; (with_reducible show wpAny _ _ (call (Value.ref 150) [Value.str _ _, Value.str _ _]) _ _ _); k_dflt (refine' join_tells ?qB ?qF ?qX ?qN ?qT ?qhk ?qhd ?qhu ?qhl ?qhl2 ?_; (  (case qB => k_asm); (case qF => k_asm); (case qX => k_asm); (case qN => k_asm); (case qT => k_asm); (case qhk => first | exact rfl | assumption); (case qhd => ktr_room); (case qhu => ktr_units)); (case qhl => (first | (with_reducible assumption) | omega | assumption)); (case qhl2 => (first | (with_reducible assumption) | omega | assumption)); k_whole); intro t' h' tk' F' N'; (try k_sweep))) | (with_reducible ((with_reducible show wpAny _ _ (eval (PySem.Expr.Name _ _) _) _ _ _); (k_dflt (refine' ld ?qk1 ?qk2 ?_; (case qk1 => k_asm); (case qk2 => exact rfl); k_whole)))) | walk1 | (dsimp only; walk1)))
            · (with_reducible rename Fr _ _ _ _ => F10)
              (with_reducible rename News _ _ _ _ => N10)
              refine news_name N10 fun B2 rest2 e1 e2 N11 => ?_
              subst e1
              have hB2 : C < B2 ∧ D < B2 ∧ AllLt B2 (nw ++ own) := by assumption
              have hB2ne := allLt_ne hB2.2.2
              refine cend (news₁ := (B2, listOf #[.str k t8, .int nn t9] 0) :: nw) F10 hoC (fun p hp => N11 p ?_) (fun p hp => ?_) ⟨fun p hp => .tail _ (hbase p hp), by rw [List.length_append]; exact Nat.succ_le_succ hyl, ?_⟩
              · rcases mem3 hp with rfl | rfl | hp
                · exact .tail _ (e2 ▸ .head _)
                · exact .tail _ (e2 ▸ .tail _ (.head _))
                · rcases List.mem_cons.mp hp with rfl | hp
                  · exact .head _
                  · exact .tail _ (e2 ▸ .tail _ (.tail _ hp))
              · rcases List.mem_cons.mp hp with rfl | hp
                · obtain ⟨oI, hoI⟩ := hwr I (List.mem_singleton.mpr rfl)
                  exact ⟨fun h => hB2ne _ (List.mem_append_right _ hoI) (List.mem_singleton.mp h).symm, Nat.ne_of_gt hB2.1, Nat.ne_of_gt hB2.2.1⟩
                · exact hoff p hp
              · rw [filt_next _ _ _ _ hch, if_pos (by simp_all)]
                exact (hpa.grow fun p hp => .tail _ hp).app (.cons (.head _) .nil)
            · refine cend F₁ hoC N₁ hoff ⟨hbase, Nat.le_succ_of_le hyl, ?_⟩
              rw [filt_next _ _ _ _ hch, if_neg (by simp_all), List.append_nil]
              exact hpa
          case fin =>
            rintro s9 hs9 ys nw ⟨hbase, hyl, hpa⟩ D5 h5 tk5 F5 N5' hD5
            rw [hs9]
            rw [List.take_length] at hpa
            have hpn : PairsAt ((D5, LCg.lst ys) :: nw) ys _ := hpa.grow fun p hp => .tail _ hp
            (repeat' ((fail_if_success (with_reducible first | show wpAny _ _ (pyIter _) _ _ _ | show wpAny _ _ (exec (Stmt.While _ _ _ _) _) _ _ _ | show wpAny _ _ (exec (Stmt.For _ _ _ _ _) _) _ _ _ | show TurnEnd _ _ _ _ _ _ _ | show TurnPost _ _ _ _ _ _ _ _ _ | show WhileStep _ _ _ _ _ _ _ | show WhileStep2 _ _ _ _ _ _ _ _ | show wpAny _ _ (eval (Expr.ListComp _ _ _ _) _) _ _ _ | show wpAny _ _ (exec (Stmt.Assign _ (Expr.ListComp _ _ _ _) _) _) _ _ _ | show wpAny _ _ (call (Value.builtin "sorted") _) _ _ _ | show wpAny _ _ (call (Value.builtin "sum") _) _ _ _ | show wpAny _ _ (call (Value.type "enumerate") _) _ _ _ | show wpAny _ _ (call (Value.type "range") _) _ _ _ | show wpAny _ _ (binaryOp _ (Value.ref _) (Value.ref _)) _ _ _ | show wpAny _ _ (call (Value.ref _) (Value.ref _ :: _)) _ _ _ | show wpAny _ _ (call (Value.ref 178) _) _ _ _)); first | ((with_reducible refine' isq_back ?e9 ?_); (case e9 => with_reducible assumption); (try dsimp only)) | ((with_reducible show wpAny _ _ (exec _ _) _ _ _); (refine gen_exec ?_); intro P9 hP9; walk1) | (k_unfold; (try dsimp only)) | (with_reducible ((with_reducible show wpAny _ _ (call (Value.builtin "dict.items") _) _ _ _); (k_here; (k_dflt (refine' dct_items ?qF ?qN ?qk2 ?qk3 ?qk4 ?_; (case qF => k_asm); (case qN => k_asm); (case qk2 => k_mem); (case qk3 => assumption); (case qk4 => assumption); k_whole)); intro V' h' hv' F' N'))) | (with_reducible ((with_reducible show wpAny _ _ (getMethod (Value.ref _) _ _) _ _ _); (k_here; (k_dflt (refine' dct_items_method ?qk1 ?qk2 ?qk3 ?_; (case qk1 => k_asm); (case qk2 => k_mem); (case qk3 => assumption); k_whole))))) | (with_reducible (k_here; (with_reducible show wpAny _ _ (call (Value.ref 185) [Value.int _ _]) _ _ _); k_dflt (refine' folder_tells ?qB ?qF ?qX ?qN ?qT ?qhk ?qhd ?qhu ?qhk1 ?_; (  (case qB => k_asm); (case qF => k_asm); (case qX => k_asm); (case qN => k_asm); (case qT => k_asm); (case qhk => first | exact rfl | assumption); (case qhd => ktr_room); (case qhu => ktr_units)); (case qhk1 => (first | (with_reducible assumption) | omega | assumption)); k_whole); intro t' h' tk' F' N'; (try k_sweep))) | (with_reducible (k_here; (with_reducible show wpAny _ _ (call (Value.ref 150) [Value.str _ _, Value.str _ _]) _ _ _); k_dflt (refine' join_tells ?qB ?qF ?qX ?qN ?qT ?qhk ?qhd ?qhu ?qhl ?qhl2 ?_; (  (case qB => k_asm); (case qF => k_asm); (case qX => k_asm); (case qN => k_asm); (case qT => k_asm); (case qhk => first | exact rfl | assumption); (case qhd => ktr_room); (case qhu => ktr_units)); (case qhl => (first | (with_reducible assumption) | omega | assumption)); (case qhl2 => (first | (with_reducible assumption) | omega | assumption)); k_whole); intro t' h' tk' F' N'; (try k_sweep))) | (with_reducible ((with_reducible show wpAny _ _ (eval (PySem.Expr.Name _ _) _) _ _ _); (k_dflt (refine' ld ?qk1 ?qk2 ?_; (case qk1 => k_asm); (case qk2 => exact rfl); k_whole)))) | walk1 | (dsimp only; walk1)))
            k_dflt refine' sorted_lists (vs := ys) (news := (D5, LCg.lst ys) :: nw) ?F ?N ?hl ?hk (prs_fst hpn) (prs_alike hpn) ?hun ?hlen ?_
            case F => k_asm
            case N => k_asm
            case hl => exact ⟨_, (N5' _ (.head _)).1, rfl, _, rfl⟩
            case hk => exact prs_keyed hpn N5'
            case hun => ktr_units
            case hlen => exact Nat.le_trans hyl (Nat.le_trans hchl (by decide))
            intro SD se h6 prs' hsd F6' N6' hSD
            obtain ⟨hp1, hp2, hp3⟩ := prs_sorted hpn hsd
            (repeat' ((fail_if_success (with_reducible first | show wpAny _ _ (pyIter _) _ _ _ | show wpAny _ _ (exec (Stmt.While _ _ _ _) _) _ _ _ | show wpAny _ _ (exec (Stmt.For _ _ _ _ _) _) _ _ _ | show TurnEnd _ _ _ _ _ _ _ | show TurnPost _ _ _ _ _ _ _ _ _ | show WhileStep _ _ _ _ _ _ _ | show WhileStep2 _ _ _ _ _ _ _ _ | show wpAny _ _ (eval (Expr.ListComp _ _ _ _) _) _ _ _ | show wpAny _ _ (exec (Stmt.Assign _ (Expr.ListComp _ _ _ _) _) _) _ _ _ | show wpAny _ _ (call (Value.builtin "sorted") _) _ _ _ | show wpAny _ _ (call (Value.builtin "sum") _) _ _ _ | show wpAny _ _ (call (Value.type "enumerate") _) _ _ _ | show wpAny _ _ (call (Value.type "range") _) _ _ _ | show wpAny _ _ (binaryOp _ (Value.ref _) (Value.ref _)) _ _ _ | show wpAny _ _ (call (Value.ref _) (Value.ref _ :: _)) _ _ _ | show wpAny _ _ (call (Value.ref 178) _) _ _ _)); first | ((with_reducible refine' isq_back ?e9 ?_); (case e9 => with_reducible assumption); (try dsimp only)) | ((with_reducible show wpAny _ _ (exec _ _) _ _ _); (refine gen_exec ?_); intro P9 hP9; walk1) | (k_unfold; (try dsimp only)) | (with_reducible ((with_reducible show wpAny _ _ (call (Value.builtin "dict.items") _) _ _ _); (k_here; (k_dflt (refine' dct_items ?qF ?qN ?qk2 ?qk3 ?qk4 ?_; (case qF => k_asm); (case qN => k_asm); (case qk2 => k_mem); (case qk3 => assumption); (case qk4 => assumption); k_whole)); intro V' h' hv' F' N'))) | (with_reducible ((with_reducible show wpAny _ _ (getMethod (Value.ref _) _ _) _ _ _); (k_here; (k_dflt (refine' dct_items_method ?qk1 ?qk2 ?qk3 ?_; (case qk1 => k_asm); (case qk2 => k_mem); (case qk3 => assumption); k_whole))))) | (with_reducible (k_here; (with_reducible show wpAny _ _ (call (Value.ref 185) [Value.int _ _]) _ _ _); k_dflt (refine' folder_tells ?qB ?qF ?qX ?qN ?qT ?qhk ?qhd ?qhu ?qhk1 ?_; (  (case qB => k_asm); (case qF => k_asm); (case qX => k_asm); (case qN => k_asm); (case qT => k_asm); (case qhk => first | exact rfl | assumption); (case qhd => ktr_room); (case qhu => ktr_units)); (case qhk1 => (first | (with_reducible assumption) | omega | assumption)); k_whole); intro t' h' tk' F' N'; (try k_sweep))) | (with_reducible (k_here; (with_reducible show wpAny _ _ (call (Value.ref 150) [Value.str _ _, Value.str _ _]) _ _ _); k_dflt (refine' join_tells ?qB ?qF ?qX ?qN ?qT ?qhk ?qhd ?qhu ?qhl ?qhl2 ?_; (  (case qB => k_asm); (case qF => k_asm); (case qX => k_asm); (case qN => k_asm); (case qT => k_asm); (case qhk => first | exact rfl | assumption); (case qhd => ktr_room); (case qhu => ktr_units)); (case qhl => (first | (with_reducible assumption) | omega | assumption)); (case qhl2 => (first | (with_reducible assumption) | omega | assumption)); k_whole); intro t' h' tk' F' N'; (try k_sweep))) | (with_reducible ((with_reducible show wpAny _ _ (eval (PySem.Expr.Name _ _) _) _ _ _); (k_dflt (refine' ld ?qk1 ?qk2 ?_; (case qk1 => k_asm); (case qk2 => exact rfl); k_whole)))) | walk1 | (dsimp only; walk1)))
            (with_reducible rename Fr h₀ L _ m => kF)
            (with_reducible rename News h₀ L _ _ => kN)
            have hcj : cut so (halfOf ls) = j := by rw [hcut, cut_stop hc]; rfl
            refine hret _ _ _ _ (prs'.map fun q => unkey q.2) kF (news_both kN ?_) ⟨_, TB, SD, _, n3, se, tv, _, rfl, .head _, .tail _ (.tail _ (.tail _ (hbase _ (.tail _ (.tail _ hTB))))), by rw [hcj]; exact hSt, .tail _ (.head _), hp1.grow fun p hp => .tail _ (.tail _ hp)⟩ (by unfold chRun; rw [hcj]; exact hp2) hp3
            exact fun p hp => .tail _ (.tail _ (.tail _ (hbase _ (.tail _ (.tail _ (hin2 p hp))))))
        · have hc' : (List.sum (ls.map fun x : Lt => x.2.1) : Int).fdiv 2 < (sizes (so.drop j)).sum := Int.not_le.mp hc
          obtain ⟨e, er⟩ : ∃ e r, so.drop j = e :: r := by
            cases hd : so.drop j with
            | nil =>
              exfalso
              rw [hd] at hc
              have h0 : (0 : Int) ≤ halfOf ls := by
                have : 0 ≤ (sizes so).sum := sizes_pos fun e he => (hsom e he).2.1
                rw [so_sum hso] at this
                unfold halfOf
                exact Int.fdiv_nonneg this (by decide)
              exact hc h0
            | cons e r => exact ⟨e, r, rfl⟩
          obtain ⟨r', hdr⟩ := er
          obtain ⟨l', q, rfl⟩ : ∃ l' q, l2 = l' ++ [q] := by
            rcases List.eq_nil_or_concat l2 with rfl | ⟨l', q, e⟩
            · rw [hdr] at hperm2
              exact absurd hperm2.length_eq (by simp)
            · exact ⟨l', q, by rw [e, List.concat_eq_append]⟩
          rw [hdr] at hperm2
          have hord2 : InOrder (e :: r') := by
            have := List.Pairwise.sublist (List.drop_sublist j so) hso.ord
            rw [hdr] at this
            exact this
          obtain ⟨hkey, hrestp⟩ := next_key hHp2 hperm2 hord2
          have hll2 : l'.length ≤ 900 := by
            have := hperm2.length_eq
            have h3 : (so.drop j).length ≤ so.length := by rw [List.length_drop]; (clear this hrestp hkey hord2 N5 hperm2 hHp2 hK2 hdr hc' hc F6 hw4 hw1 hDo2 hSt hTB hin2 hr2 hw5 hw3 hw2 hP8 N4 F4 hsol hsom F3 N2 hm1 hDo hperm hHp hK hin hr hm4 hm3 hm2 hr0 hneHC hord hD hdc hI hyl hLA1 T' X' B' FG' hret hso hnm hsz hlen hls hLA hu hd hk T N X F B; lia)
            rw [hdr] at h3
            rw [List.length_map, List.length_map, List.length_append] at this
            have h4 : ([q] : List PK).length = 1 := rfl
            (clear hrestp hkey hord2 N5 hperm2 hHp2 hK2 hdr hc' hc F6 hw4 hw1 hcut hDo2 hSt hTB hin2 hr2 hw5 hw3 hw2 hjl hP8 N4 F4 hsom F3 N2 hm1 hDo hperm hHp hK hin hr hm4 hm3 hm2 hr0 hneHC hord hD hdc hI hyl hLA1 T' X' B' FG' hret hso hnm hsz hlen hls hLA hu hd hk T N X F B; lia)
          have hvin : popV l' q ∈ l' ++ [q] := (pop_perm l' q).mem_iff.mp (.head _)
          obtain ⟨ia, its, ik, eia, hma, hkv⟩ := hK2 _ hvin
          rw [hkey] at hkv
          obtain ⟨t8, t9, pp, t10, rfl, hpp⟩ := keys3 hkv
          have hnaH : ∀ p ∈ ((CA, o2) :: r2 : List (Addr × Obj)), p.1 ≠ HA := by
            intro p hp
            rcases List.mem_cons.mp hp with rfl | hp
            · exact Ne.symm hneHC
            · exact (hr2 p hp).1
          have hK3 : HK ((CA, o2) :: r2) (l' ++ [q]) := hK2.grow fun p hp => .tail _ hp
          have hal3 : AlikeAll (l' ++ [q]) := by
            have e1 : (e :: r').map keyE = (so.drop j).map keyE := by rw [hdr]
            have hp9 : ((l' ++ [q]).map (·.2)).Perm ((so.drop j).map keyE) := e1 ▸ hperm2
            intro a ha b hb
            obtain ⟨f, _, ef⟩ := List.mem_map.mp (hp9.mem_iff.mp (List.mem_map.mpr ⟨a, ha, rfl⟩))
            obtain ⟨g, _, eg⟩ := List.mem_map.mp (hp9.mem_iff.mp (List.mem_map.mpr ⟨b, hb, rfl⟩))
            rw [← ef, ← eg]; rfl
          (repeat' ((fail_if_success (with_reducible first | show wpAny _ _ (pyIter _) _ _ _ | show wpAny _ _ (exec (Stmt.While _ _ _ _) _) _ _ _ | show wpAny _ _ (exec (Stmt.For _ _ _ _ _) _) _ _ _ | show TurnEnd _ _ _ _ _ _ _ | show TurnPost _ _ _ _ _ _ _ _ _ | show WhileStep _ _ _ _ _ _ _ | show WhileStep2 _ _ _ _ _ _ _ _ | show wpAny _ _ (eval (Expr.ListComp _ _ _ _) _) _ _ _ | show wpAny _ _ (exec (Stmt.Assign _ (Expr.ListComp _ _ _ _) _) _) _ _ _ | show wpAny _ _ (call (Value.builtin "sorted") _) _ _ _ | show wpAny _ _ (call (Value.builtin "sum") _) _ _ _ | show wpAny _ _ (call (Value.type "enumerate") _) _ _ _ | show wpAny _ _ (call (Value.type "range") _) _ _ _ | show wpAny _ _ (binaryOp _ (Value.ref _) (Value.ref _)) _ _ _ | show wpAny _ _ (call (Value.ref _) (Value.ref _ :: _)) _ _ _ | show wpAny _ _ (call (Value.ref 178) _) _ _ _)); first | ((with_reducible refine' isq_back ?e9 ?_); (case e9 => with_reducible assumption); (try dsimp only)) | ((with_reducible show wpAny _ _ (exec _ _) _ _ _); (refine gen_exec ?_); intro P9 hP9; walk1) | (k_unfold; (try dsimp only)) | (with_reducible ((with_reducible show wpAny _ _ (call (Value.builtin "dict.items") _) _ _ _); (k_here; (k_dflt (refine' dct_items ?qF ?qN ?qk2 ?qk3 ?qk4 ?_; (case qF => k_asm); (case qN => k_asm); (case qk2 => k_mem); (case qk3 => assumption); (case qk4 => assumption); k_whole)); intro V' h' hv' F' N'))) | (with_reducible ((with_reducible show wpAny _ _ (getMethod (Value.ref _) _ _) _ _ _); (k_here; (k_dflt (refine' dct_items_method ?qk1 ?qk2 ?qk3 ?_; (case qk1 => k_asm); (case qk2 => k_mem); (case qk3 => assumption); k_whole))))) | (with_reducible (k_here; (with_reducible show wpAny _ _ (call (Value.ref 185) [Value.int _ _]) _ _ _); k_dflt (refine' folder_tells ?qB ?qF ?qX ?qN ?qT ?qhk ?qhd ?qhu ?qhk1 ?_; (  (case qB => k_asm); (case qF => k_asm); (case qX => k_asm); (case qN => k_asm); (case qT => k_asm); (case qhk => first | exact rfl | assumption); (case qhd => ktr_room); (case qhu => ktr_units)); (case qhk1 => (first | (with_reducible assumption) | omega | assumption)); k_whole); intro t' h' tk' F' N'; (try k_sweep))) | (with_reducible (k_here; (with_reducible show wpAny _ _ (call (Value.ref 150) [Value.str _ _, Value.str _ _]) _ _ _); k_dflt (refine' join_tells ?qB ?qF ?qX ?qN ?qT ?qhk ?qhd ?qhu ?qhl ?qhl2 ?_; (  (case qB => k_asm); (case qF => k_asm); (case qX => k_asm); (case qN => k_asm); (case qT => k_asm); (case qhk => first | exact rfl | assumption); (case qhd => ktr_room); (case qhu => ktr_units)); (case qhl => (first | (with_reducible assumption) | omega | assumption)); (case qhl2 => (first | (with_reducible assumption) | omega | assumption)); k_whole); intro t' h' tk' F' N'; (try k_sweep))) | (with_reducible ((with_reducible show wpAny _ _ (eval (PySem.Expr.Name _ _) _) _ _ _); (k_dflt (refine' ld ?qk1 ?qk2 ?_; (case qk1 => k_asm); (case qk2 => exact rfl); k_whole)))) | walk1 | (dsimp only; walk1)))
          k_dflt (refine' heappop_tells (l := l') (q := q) ?B ?F ?X ?N ?T ?hk ?hd ?hu ?e1 hnaH hll2 hK3 hal3 ?_; (  (case B => k_asm); (case F => k_asm); (case X => k_asm); (case N => k_asm); (case T => k_asm); (case hk => first | exact rfl | assumption); (case hd => first | exact rm2 hd | exact rm3 hd | exact rm4 hd | exact rm6 hd | ktr_room); (case hu => first | exact ru hu | ktr_units)); (case e1 => exact rfl); k_whole)
          intro n7 h7 tk7 F7 N7
          rw [eia]
          have N8 : News _ _ _ ((ia, listOf #[.int e.2.1 t8, .int (-e.2.2.1) t9, .str pp t10] ik) :: (HA, LObj (popL l' q) n7) :: (CA, o2) :: r2) := fun p hp => by
            rcases List.mem_cons.mp hp with rfl | hp
            · exact N7 _ (.tail _ (.tail _ hma))
            · exact N7 p hp
          clear N7
          (repeat' ((fail_if_success (with_reducible first | show wpAny _ _ (pyIter _) _ _ _ | show wpAny _ _ (exec (Stmt.While _ _ _ _) _) _ _ _ | show wpAny _ _ (exec (Stmt.For _ _ _ _ _) _) _ _ _ | show TurnEnd _ _ _ _ _ _ _ | show TurnPost _ _ _ _ _ _ _ _ _ | show WhileStep _ _ _ _ _ _ _ | show WhileStep2 _ _ _ _ _ _ _ _ | show wpAny _ _ (eval (Expr.ListComp _ _ _ _) _) _ _ _ | show wpAny _ _ (exec (Stmt.Assign _ (Expr.ListComp _ _ _ _) _) _) _ _ _ | show wpAny _ _ (call (Value.builtin "sorted") _) _ _ _ | show wpAny _ _ (call (Value.builtin "sum") _) _ _ _ | show wpAny _ _ (call (Value.type "enumerate") _) _ _ _ | show wpAny _ _ (call (Value.type "range") _) _ _ _ | show wpAny _ _ (binaryOp _ (Value.ref _) (Value.ref _)) _ _ _ | show wpAny _ _ (call (Value.ref _) (Value.ref _ :: _)) _ _ _ | show wpAny _ _ (call (Value.ref 178) _) _ _ _)); first | ((with_reducible refine' isq_back ?e9 ?_); (case e9 => with_reducible assumption); (try dsimp only)) | ((with_reducible show wpAny _ _ (exec _ _) _ _ _); (refine gen_exec ?_); intro P9 hP9; walk1) | (k_unfold; (try dsimp only)) | (with_reducible ((with_reducible show wpAny _ _ (call (Value.builtin "dict.items") _) _ _ _); (k_here; (k_dflt (refine' dct_items ?qF ?qN ?qk2 ?qk3 ?qk4 ?_; (case qF => k_asm); (case qN => k_asm); (case qk2 => k_mem); (case qk3 => assumption); (case qk4 => assumption); k_whole)); intro V' h' hv' F' N'))) | (with_reducible ((with_reducible show wpAny _ _ (getMethod (Value.ref _) _ _) _ _ _); (k_here; (k_dflt (refine' dct_items_method ?qk1 ?qk2 ?qk3 ?_; (case qk1 => k_asm); (case qk2 => k_mem); (case qk3 => assumption); k_whole))))) | (with_reducible (k_here; (with_reducible show wpAny _ _ (call (Value.ref 185) [Value.int _ _]) _ _ _); k_dflt (refine' folder_tells ?qB ?qF ?qX ?qN ?qT ?qhk ?qhd ?qhu ?qhk1 ?_; (  (case qB => k_asm); (case qF => k_asm); (case qX => k_asm); (case qN => k_asm); (case qT => k_asm); (case qhk => first | exact rfl | assumption); (case qhd => ktr_room); (case qhu => ktr_units)); (case qhk1 => (first | (with_reducible assumption) | omega | assumption)); k_whole); intro t' h' tk' F' N'; (try k_sweep))) | (with_reducible (k_here; (with_reducible show wpAny _ _ (call (Value.ref 150) [Value.str _ _, Value.str _ _]) _ _ _); k_dflt (refine' join_tells ?qB ?qF ?qX ?qN ?qT ?qhk ?qhd ?qhu ?qhl ?qhl2 ?_; (  (case qB => k_asm); (case qF => k_asm); (case qX => k_asm); (case qN => k_asm); (case qT => k_asm); (case qhk => first | exact rfl | assumption); (case qhd => ktr_room); (case qhu => ktr_units)); (case qhl => (first | (with_reducible assumption) | omega | assumption)); (case qhl2 => (first | (with_reducible assumption) | omega | assumption)); k_whole); intro t' h' tk' F' N'; (try k_sweep))) | (with_reducible ((with_reducible show wpAny _ _ (eval (PySem.Expr.Name _ _) _) _ _ _); (k_dflt (refine' ld ?qk1 ?qk2 ?_; (case qk1 => k_asm); (case qk2 => exact rfl); k_whole)))) | walk1 | (dsimp only; walk1)))
          (with_reducible rename News _ _ _ _ => N9)
          (with_reducible rename Fr _ _ _ _ => F9)
          have N10 : News _ _ _ ((CA, o2) :: (HA, LObj (popL l' q) n7) :: r2) := fun p hp => N9 p (by
            rcases mem3 hp with rfl | rfl | hp
            · exact .tail _ (.tail _ (.head _))
            · exact .tail _ (.head _)
            · exact .tail _ (.tail _ (.tail _ hp)))
          clear N9
          have heso : e ∈ so := List.mem_of_mem_drop (by rw [hdr]; exact .head _)
          have hex := hsom e heso
          have hnaC2 : ∀ p ∈ ((HA, LObj (popL l' q) n7) :: r2 : List (Addr × Obj)), p.1 ≠ CA := by
            intro p hp
            rcases List.mem_cons.mp hp with rfl | hp
            · exact hneHC
            · exact (hr2 p hp).2
          have hx12 := hexL_len 12 _ hex.2.2
          have hchl : (chUn (chF ls) (so.take j)).length + (hexL e.2.2.2.natAbs).length ≤ 900 := by
            have h1 := chF_len ls [] hnm
            have h2 := chUn_len (so.take j) (chF ls) fun f hf => (hsom f (List.mem_of_mem_take hf)).2.2
            have h3 : (so.take j).length ≤ so.length := by rw [List.length_take]; (clear h2 h1 hx12 hnaC2 hex heso N10 F9 hal3 hK3 hnaH hkv hma hpp eia hvin hll2 hrestp hkey hord2 hperm2 hHp2 hK2 hdr hc' hc hw4 hw1 hDo2 hSt hTB hin2 hr2 hw5 hw3 hw2 hP8 hsol hsom F3 N2 hm1 hDo hperm hHp hK hin hr hm4 hm3 hm2 hr0 hneHC hord hD hdc hI hyl hLA1 T' X' B' FG' hret hso hnm hsz hlen hls hLA hu hd hk T N X F B; lia)
            unfold chF at h2 ⊢
            simp only [List.length_nil] at h1
            (clear hnaC2 hex heso N10 F9 hal3 hK3 hnaH hkv hma hpp eia hvin hll2 hrestp hkey hord2 hperm2 hHp2 hK2 hdr hc' hc hw4 hw1 hcut hDo2 hSt hTB hin2 hr2 hw5 hw3 hw2 hjl hP8 hsom F3 N2 hm1 hDo hperm hHp hK hin hr hm4 hm3 hm2 hr0 hneHC hord hD hdc hI hyl hLA1 T' X' B' FG' hret hso hnm hsz hls hLA hu hd hk T N X F B; lia)
          have hdir : dirT pp = foldS (hexL e.2.2.2.natAbs) := by
            rw [hpp]; exact dir_under (hex_ne hex.2.2) (dig_ok hex.1).2.2
          have hpl : pp.length ≤ 1000 := by rw [hpp]; exact pathL_len hex.1 hex.2.2
          k_dflt (refine' charged_tells (l := hexL e.2.2.2.natAbs) (ch := chUn (chF ls) (so.take j)) ?B ?F ?X ?N ?T ?hk ?hd ?hu ?e1 ?hna ?hD ?lo hchl (hex_ne hex.2.2) hdir hpl ?hll ?_; (  (case B => k_asm); (case F => k_asm); (case X => k_asm); (case N => k_asm); (case T => k_asm); (case hk => first | exact rfl | assumption); (case hd => first | exact rm2 hd | exact rm3 hd | exact rm4 hd | exact rm6 hd | ktr_room); (case hu => first | exact ru hu | ktr_units)); (case e1 => exact rfl); (case hna => exact hnaC2); (case hD => exact hDo2); (case lo => assumption); (case hll => (clear hpl hdir hchl hnaC2 hex heso N10 F9 hal3 hK3 hnaH hkv hma hpp eia hvin hll2 hrestp hkey hord2 hperm2 hHp2 hK2 hdr hc' hc hw4 hw1 hcut hDo2 hSt hTB hin2 hr2 hw5 hw3 hw2 hjl hP8 hsol hsom F3 N2 hm1 hDo hperm hHp hK hin hr hm4 hm3 hm2 hr0 hneHC hord hD hdc hI hyl hLA1 T' X' B' FG' hret hso hnm hsz hlen hls hLA hu hd hk T N X F B; lia)); k_whole)
          intro o11 h11 tk11 F11 N11 hD11
          clear N10 F9
          have htj : so.take (j + 1) = so.take j ++ [e] := by
            rw [List.take_add_one]
            have : so[j]? = some e := by
              have h0 : (so.drop j)[0]? = some e := by rw [hdr]; rfl
              rw [List.getElem?_drop] at h0
              simpa using h0
            rw [this]; rfl
          have hD12 : DObj PG w o11 (chUn (chF ls) (so.take (j + 1))) := by rw [htj, chUn_app]; exact hD11
          have hN12 : (TB, listOf (List.toArray tv) n3) ∈ (CA, o11) :: (HA, LObj (popL l' q) n7) :: r2 := .tail _ (.tail _ hTB)
          have htvl : tv.length ≤ 11 := by
            rw [strsAre_len hSt, List.length_map, List.length_take]; (clear hN12 hD12 htj hD11 N11 F11 hpl hdir hchl hx12 hnaC2 hex heso hal3 hK3 hnaH hkv hma hpp eia hvin hll2 hrestp hkey hord2 hperm2 hHp2 hK2 hdr hc' hc hw4 hw1 hDo2 hSt hTB hin2 hr2 hw5 hw3 hw2 hP8 hsom F3 N2 hm1 hDo hperm hHp hK hin hr hm4 hm3 hm2 hr0 hneHC hord hD hdc hI hyl hLA1 T' X' B' FG' hret hso hnm hsz hlen hls hLA hu hd hk T N X F B; lia)
          (repeat' ((fail_if_success (with_reducible first | show wpAny _ _ (pyIter _) _ _ _ | show wpAny _ _ (exec (Stmt.While _ _ _ _) _) _ _ _ | show wpAny _ _ (exec (Stmt.For _ _ _ _ _) _) _ _ _ | show TurnEnd _ _ _ _ _ _ _ | show TurnPost _ _ _ _ _ _ _ _ _ | show WhileStep _ _ _ _ _ _ _ | show WhileStep2 _ _ _ _ _ _ _ _ | show wpAny _ _ (eval (Expr.ListComp _ _ _ _) _) _ _ _ | show wpAny _ _ (exec (Stmt.Assign _ (Expr.ListComp _ _ _ _) _) _) _ _ _ | show wpAny _ _ (call (Value.builtin "sorted") _) _ _ _ | show wpAny _ _ (call (Value.builtin "sum") _) _ _ _ | show wpAny _ _ (call (Value.type "enumerate") _) _ _ _ | show wpAny _ _ (call (Value.type "range") _) _ _ _ | show wpAny _ _ (binaryOp _ (Value.ref _) (Value.ref _)) _ _ _ | show wpAny _ _ (call (Value.ref _) (Value.ref _ :: _)) _ _ _ | show wpAny _ _ (call (Value.ref 178) _) _ _ _)); first | ((with_reducible refine' isq_back ?e9 ?_); (case e9 => with_reducible assumption); (try dsimp only)) | ((with_reducible show wpAny _ _ (exec _ _) _ _ _); (refine gen_exec ?_); intro P9 hP9; walk1) | (k_unfold; (try dsimp only)) | (with_reducible ((with_reducible show wpAny _ _ (call (Value.builtin "dict.items") _) _ _ _); (k_here; (k_dflt (refine' dct_items ?qF ?qN ?qk2 ?qk3 ?qk4 ?_; (case qF => k_asm); (case qN => k_asm); (case qk2 => k_mem); (case qk3 => assumption); (case qk4 => assumption); k_whole)); intro V' h' hv' F' N'))) | (with_reducible ((with_reducible show wpAny _ _ (getMethod (Value.ref _) _ _) _ _ _); (k_here; (k_dflt (refine' dct_items_method ?qk1 ?qk2 ?qk3 ?_; (case qk1 => k_asm); (case qk2 => k_mem); (case qk3 => assumption); k_whole))))) | (with_reducible (k_here; (with_reducible show wpAny _ _ (call (Value.ref 185) [Value.int _ _]) _ _ _); k_dflt (refine' folder_tells ?qB ?qF ?qX ?qN ?qT ?qhk ?qhd ?qhu ?qhk1 ?_; (  (case qB => k_asm); (case qF => k_asm); (case qX => k_asm); (case qN => k_asm); (case qT => k_asm); (case qhk => first | exact rfl | assumption); (case qhd => ktr_room); (case qhu => ktr_units)); (case qhk1 => (first | (with_reducible assumption) | omega | assumption)); k_whole); intro t' h' tk' F' N'; (try k_sweep))) | (with_reducible (k_here; (with_reducible show wpAny _ _ (call (Value.ref 150) [Value.str _ _, Value.str _ _]) _ _ _); k_dflt (refine' join_tells ?qB ?qF ?qX ?qN ?qT ?qhk ?qhd ?qhu ?qhl ?qhl2 ?_; (  (case qB => k_asm); (case qF => k_asm); (case qX => k_asm); (case qN => k_asm); (case qT => k_asm); (case qhk => first | exact rfl | assumption); (case qhd => ktr_room); (case qhu => ktr_units)); (case qhl => (first | (with_reducible assumption) | omega | assumption)); (case qhl2 => (first | (with_reducible assumption) | omega | assumption)); k_whole); intro t' h' tk' F' N'; (try k_sweep))) | (with_reducible ((with_reducible show wpAny _ _ (eval (PySem.Expr.Name _ _) _) _ _ _); (k_dflt (refine' ld ?qk1 ?qk2 ?_; (case qk1 => k_asm); (case qk2 => exact rfl); k_whole)))) | walk1 | (dsimp only; walk1)))
          k_dflt refine' add_list_N (vs := tv) (ws := [.str pp t10]) ?F ?N ?hl ?hb ?hz ?_
          case F => k_asm
          case N => k_asm
          case hl => exact .tail _ hN12
          case hb => exact .head _
          case hz => exact Nat.le_trans (Nat.add_le_add_right htvl 1) (by decide)
          intro D2 h13 F13 N13 hD13
          have hdr1 : so.drop (j + 1) = r' := by
            have := congrArg (List.drop 1) hdr
            rw [List.drop_drop] at this
            exact this
          have hjlt : j < so.length := by
            have := congrArg List.length hdr
            rw [List.length_drop, List.length_cons] at this
            (clear hdr1 hD13 N13 F13 htvl hN12 hD12 htj hD11 hpl hdir hchl hx12 hnaC2 hex heso hal3 hK3 hnaH hkv hma hpp eia hvin hll2 hrestp hkey hord2 hperm2 hHp2 hK2 hdr hc' hc hw4 hw1 hDo2 hSt hTB hin2 hr2 hw5 hw3 hw2 hP8 hsol hsom F3 N2 hm1 hDo hperm hHp hK hin hr hm4 hm3 hm2 hr0 hneHC hord hD hdc hI hyl hLA1 T' X' B' FG' hret hso hnm hsz hlen hls hLA hu hd hk T N X F B; lia)
          have hleft : (sizes (so.drop j)).sum + -e.2.2.1 = (sizes (so.drop (j + 1))).sum := by
            rw [hdr, hdr1]
            have : (sizes (e :: r')).sum = e.2.2.1 + (sizes r').sum := by unfold sizes; rw [List.map_cons, List.sum_cons]
            (clear hjlt hdr1 hD13 N13 F13 htvl hN12 hD12 htj hD11 hpl hdir hchl hx12 hnaC2 hex heso hal3 hK3 hnaH hkv hma hpp eia hvin hll2 hrestp hkey hord2 hperm2 hHp2 hK2 hdr hc' hc hw4 hw1 hcut hDo2 hSt hTB hin2 hr2 hw5 hw3 hw2 hjl hP8 hsol hsom F3 N2 hm1 hDo hperm hHp hK hin hr hm4 hm3 hm2 hr0 hneHC hord hD hdc hI hyl hLA1 T' X' B' FG' hret hso hnm hsz hlen hls hLA hu hd hk T N X F B; lia)
          have hcut2 : cut so (halfOf ls) = j + 1 + cut (so.drop (j + 1)) (halfOf ls) := by
            rw [hcut, hdr, hdr1, cut_go (by rw [← hdr]; exact hc)]; (clear hleft hjlt hdr1 hD13 N13 F13 htvl hN12 hD12 htj hD11 hpl hdir hchl hx12 hnaC2 hex heso hal3 hK3 hnaH hkv hma hpp eia hvin hll2 hrestp hkey hord2 hperm2 hHp2 hK2 hdr hc' hc hw4 hw1 hcut hDo2 hSt hTB hin2 hr2 hw5 hw3 hw2 hjl hP8 hsol hsom F3 N2 hm1 hDo hperm hHp hK hin hr hm4 hm3 hm2 hr0 hneHC hord hD hdc hI hyl hLA1 T' X' B' FG' hret hso hnm hsz hlen hls hLA hu hd hk T N X F B; lia)
          have hD2H : HA < D2 := hD13 _ (.tail _ (.tail _ (.head _)))
          have hD2C : CA < D2 := hD13 _ (.tail _ (.head _))
          have hN15 : ∀ p ∈ ((D2, listOf (List.toArray (tv ++ [Value.str pp t10])) 0) :: r2 : List (Addr × Obj)), p.1 ≠ HA ∧ p.1 ≠ CA := fun p hp => by
            rcases List.mem_cons.mp hp with rfl | hp
            · exact ⟨Nat.ne_of_gt hD2H, Nat.ne_of_gt hD2C⟩
            · exact hr2 p hp
          have hK5 : HK ((D2, listOf (List.toArray (tv ++ [Value.str pp t10])) 0) :: r2) (popL l' q) := (hK2.sub fun p hp => (pop_perm l' q).mem_iff.mp (.tail _ hp)).grow fun p hp => .tail _ hp
          have hS5 : StrsAre (tv ++ [.str pp t10]) ((so.take (j + 1)).map pathS) := by
            rw [htj, List.map_append]
            refine strsAre_append hSt ?_
            show StrsAre [.str pp t10] [pathS e]
            rw [hpp]; exact .cons _ _ .nil
          (repeat' ((fail_if_success (with_reducible first | show wpAny _ _ (pyIter _) _ _ _ | show wpAny _ _ (exec (Stmt.While _ _ _ _) _) _ _ _ | show wpAny _ _ (exec (Stmt.For _ _ _ _ _) _) _ _ _ | show TurnEnd _ _ _ _ _ _ _ | show TurnPost _ _ _ _ _ _ _ _ _ | show WhileStep _ _ _ _ _ _ _ | show WhileStep2 _ _ _ _ _ _ _ _ | show wpAny _ _ (eval (Expr.ListComp _ _ _ _) _) _ _ _ | show wpAny _ _ (exec (Stmt.Assign _ (Expr.ListComp _ _ _ _) _) _) _ _ _ | show wpAny _ _ (call (Value.builtin "sorted") _) _ _ _ | show wpAny _ _ (call (Value.builtin "sum") _) _ _ _ | show wpAny _ _ (call (Value.type "enumerate") _) _ _ _ | show wpAny _ _ (call (Value.type "range") _) _ _ _ | show wpAny _ _ (binaryOp _ (Value.ref _) (Value.ref _)) _ _ _ | show wpAny _ _ (call (Value.ref _) (Value.ref _ :: _)) _ _ _ | show wpAny _ _ (call (Value.ref 178) _) _ _ _)); first | ((with_reducible refine' isq_back ?e9 ?_); (case e9 => with_reducible assumption); (try dsimp only)) | ((with_reducible show wpAny _ _ (exec _ _) _ _ _); (refine gen_exec ?_); intro P9 hP9; walk1) | (k_unfold; (try dsimp only)) | (with_reducible ((with_reducible show wpAny _ _ (call (Value.builtin "dict.items") _) _ _ _); (k_here; (k_dflt (refine' dct_items ?qF ?qN ?qk2 ?qk3 ?qk4 ?_; (case qF => k_asm); (case qN => k_asm); (case qk2 => k_mem); (case qk3 => assumption); (case qk4 => assumption); k_whole)); intro V' h' hv' F' N'))) | (with_reducible ((with_reducible show wpAny _ _ (getMethod (Value.ref _) _ _) _ _ _); (k_here; (k_dflt (refine' dct_items_method ?qk1 ?qk2 ?qk3 ?_; (case qk1 => k_asm); (case qk2 => k_mem); (case qk3 => assumption); k_whole))))) | (with_reducible (k_here; (with_reducible show wpAny _ _ (call (Value.ref 185) [Value.int _ _]) _ _ _); k_dflt (refine' folder_tells ?qB ?qF ?qX ?qN ?qT ?qhk ?qhd ?qhu ?qhk1 ?_; (  (case qB => k_asm); (case qF => k_asm); (case qX => k_asm); (case qN => k_asm); (case qT => k_asm); (case qhk => first | exact rfl | assumption); (case qhd => ktr_room); (case qhu => ktr_units)); (case qhk1 => (first | (with_reducible assumption) | omega | assumption)); k_whole); intro t' h' tk' F' N'; (try k_sweep))) | (with_reducible (k_here; (with_reducible show wpAny _ _ (call (Value.ref 150) [Value.str _ _, Value.str _ _]) _ _ _); k_dflt (refine' join_tells ?qB ?qF ?qX ?qN ?qT ?qhk ?qhd ?qhu ?qhl ?qhl2 ?_; (  (case qB => k_asm); (case qF => k_asm); (case qX => k_asm); (case qN => k_asm); (case qT => k_asm); (case qhk => first | exact rfl | assumption); (case qhd => ktr_room); (case qhu => ktr_units)); (case qhl => (first | (with_reducible assumption) | omega | assumption)); (case qhl2 => (first | (with_reducible assumption) | omega | assumption)); k_whole); intro t' h' tk' F' N'; (try k_sweep))) | (with_reducible ((with_reducible show wpAny _ _ (eval (PySem.Expr.Name _ _) _) _ _ _); (k_dflt (refine' ld ?qk1 ?qk2 ?_; (case qk1 => k_asm); (case qk2 => exact rfl); k_whole)))) | walk1 | (dsimp only; walk1)))
          (with_reducible rename Fr _ _ _ _ => F16)
          (with_reducible rename News _ _ _ _ => N16)
          refine WhileStep.intro (n' := so.length - (j + 1)) (news₂ := (HA, LObj (popL l' q) n7) :: (CA, o11) :: ((D2, listOf (List.toArray (tv ++ [Value.str pp t10])) 0) :: r2)) F16 (fun p hp => N16 p ?_) (by (clear N16 F16 hS5 hK5 hN15 hD2C hD2H hleft hdr1 hD13 htvl hN12 hD12 htj hD11 hpl hdir hchl hx12 hnaC2 hex heso hal3 hK3 hnaH hkv hma hpp eia hvin hll2 hrestp hkey hord2 hperm2 hHp2 hK2 hdr hc' hc hw4 hw1 hDo2 hSt hTB hin2 hr2 hw5 hw3 hw2 hjl hP8 hsol hsom F3 N2 hm1 hDo hperm hHp hK hin hr hm4 hm3 hm2 hr0 hneHC hord hD hdc hI hyl hLA1 T' X' B' FG' hret hso hnm hsz hlen hls hLA hu hd hk T N X F B; lia)) ⟨j + 1, popL l' q, n7, o11, _, D2, _, 0, rfl, by (clear N16 F16 hS5 hK5 hN15 hD2C hD2H hleft hdr1 hD13 htvl hN12 hD12 htj hD11 hpl hdir hchl hx12 hnaC2 hex heso hal3 hK3 hnaH hkv hma hpp eia hvin hll2 hrestp hkey hord2 hperm2 hHp2 hK2 hdr hc' hc hw4 hw1 hDo2 hSt hTB hin2 hr2 hw5 hw3 hw2 hjl hP8 hsol hsom F3 N2 hm1 hDo hperm hHp hK hin hr hm4 hm3 hm2 hr0 hneHC hord hD hdc hI hyl hLA1 T' X' B' FG' hret hso hnm hsz hlen hls hLA hu hd hk T N X F B; lia), ⟨_, rfl⟩, rfl, rfl, ⟨_, (if_neg (by decide)).trans ((if_pos rfl).trans (congrArg (fun z => some (Value.int z _)) hleft))⟩, rfl, rfl, hN15, fun p hp => .tail _ (hin2 p hp), .head _, hS5, hK5, pop_heap hHp2, ?_, hD12, hcut2⟩
          · rcases mem3 hp with rfl | rfl | hp
            · exact .tail _ (.tail _ (.tail _ (.tail _ (.head _))))
            · exact .tail _ (.tail _ (.tail _ (.head _)))
            · rcases List.mem_cons.mp hp with rfl | hp
              · exact .tail _ (.head _)
              · exact .tail _ (.tail _ (.tail _ (.tail _ (.tail _ hp))))
          · rw [hdr1]; exact hrestp
end
end

/-! L1 -/
section
/-! the plain law: what the run leaves charged is what is due -/
theorem isum_perm {a b : List Int} (h : a.Perm b) : a.sum = b.sum := by
  induction h with
  | nil => rfl
  | cons x _ ih => rw [List.sum_cons, List.sum_cons, ih]
  | swap x y l => simp only [List.sum_cons]; lia
  | trans _ _ i1 i2 => exact i1.trans i2
theorem getC_nil (k : Str) : getC [] k = 0 := rfl
theorem getC_cons (p : Str × Int) (ch : List (Str × Int)) (k : Str) : getC (p :: ch) k = if p.1 = k then p.2 else getC ch k := by
  unfold getC
  rw [List.find?_cons]
  by_cases h : p.1 = k
  · rw [if_pos h, decide_eq_true h]
  · rw [if_neg h, decide_eq_false h]
theorem getC_app_none {ch : List (Str × Int)} {k k' : Str} {v : Int} (h : ¬ (ch.any fun p => decide (p.1 = k)) = true) : getC (ch ++ [(k, v)]) k' = if k = k' then v else getC ch k' := by
  induction ch with
  | nil => rw [List.nil_append, getC_cons]
  | cons p r ih =>
    rw [List.any_cons] at h
    have hp : ¬ p.1 = k := fun e => h (by simp [e])
    have hr : ¬ (r.any fun p => decide (p.1 = k)) = true := fun e => h (by rw [e, Bool.or_true])
    rw [List.cons_append, getC_cons, getC_cons, ih hr]
    by_cases e : p.1 = k'
    · rw [if_pos e, if_pos e, if_neg (fun e2 => hp (e.trans e2.symm))]
    · rw [if_neg e, if_neg e]
theorem getC_map {ch : List (Str × Int)} {k k' : Str} {v : Int} (h : (ch.any fun p => decide (p.1 = k)) = true) : getC (ch.map fun p => if p.1 = k then (p.1, v) else p) k' = if k = k' then v else getC ch k' := by
  by_cases e : k = k'
  · subst e
    rw [if_pos rfl]
    induction ch with
    | nil => cases h
    | cons p r ih =>
      rw [List.map_cons, getC_cons]
      by_cases hp : p.1 = k
      · rw [if_pos hp, if_pos hp]
      · rw [if_neg hp, if_neg hp]
        rw [List.any_cons, decide_eq_false hp, Bool.false_or] at h
        exact ih h
  · rw [if_neg e]
    clear h
    induction ch with
    | nil => rfl
    | cons p r ih =>
      rw [List.map_cons, getC_cons, getC_cons, ih]
      by_cases hp : p.1 = k
      · rw [if_pos hp, if_neg (show ¬ p.1 = k' from fun x => e (hp.symm.trans x))]
        rw [if_neg (fun x => e (hp.symm.trans x))]
      · rw [if_neg hp]
theorem getC_put (ch : List (Str × Int)) (k k' : Str) (v : Int) : getC (putC ch k v) k' = if k = k' then v else getC ch k' := by
  unfold putC
  by_cases h : (ch.any fun p => decide (p.1 = k)) = true
  · rw [if_pos h]; exact getC_map h
  · rw [if_neg h]; exact getC_app_none h
theorem getC_add (ch : List (Str × Int)) (k k' : Str) (d : Int) : getC (addC ch k d) k' = getC ch k' + if k = k' then d else 0 := by
  unfold addC
  rw [getC_put]
  by_cases e : k = k'
  · rw [if_pos e, if_pos e, e]
  · rw [if_neg e, if_neg e]; lia
noncomputable def KeysOnce (ch : List (Str × Int)) : Prop := (ch.map (·.1)).Nodup
theorem once_put {ch : List (Str × Int)} (h : KeysOnce ch) (k : Str) (v : Int) : KeysOnce (putC ch k v) := by
  unfold putC KeysOnce at *
  by_cases e : (ch.any fun p => decide (p.1 = k)) = true
  · rw [if_pos e, List.map_map]
    have : (ch.map ((fun x => x.1) ∘ fun p => if p.1 = k then (p.1, v) else p)) = ch.map (·.1) := by
      apply List.map_congr_left
      intro p _
      show (if p.1 = k then (p.1, v) else p).1 = p.1
      split <;> rfl
    rw [this]; exact h
  · rw [if_neg e, List.map_append]
    rw [List.nodup_append]
    refine ⟨h, by simp, ?_⟩
    intro a ha b hb
    simp only [List.map_cons, List.map_nil, List.mem_singleton] at hb
    subst hb
    obtain ⟨p, hp, rfl⟩ := List.mem_map.mp ha
    intro e2
    exact e (List.any_eq_true.mpr ⟨p, hp, decide_eq_true e2⟩)
theorem once_add {ch : List (Str × Int)} (h : KeysOnce ch) (k : Str) (v : Int) : KeysOnce (addC ch k v) := once_put h _ _
theorem once_get : ∀ {ch : List (Str × Int)}, KeysOnce ch → ∀ {p : Str × Int}, p ∈ ch → getC ch p.1 = p.2
  | q :: r, h, p, hp => by
    have h' := List.nodup_cons.mp (show ((q.1) :: r.map (·.1)).Nodup from h)
    rw [getC_cons]
    rcases List.mem_cons.mp hp with rfl | hp
    · rw [if_pos rfl]
    · rw [if_neg]
      · exact once_get h'.2 hp
      · intro e
        exact h'.1 (List.mem_map.mpr ⟨p, hp, e.symm⟩)
theorem get_mem : ∀ {ch : List (Str × Int)} {k : Str}, getC ch k ≠ 0 → (k, getC ch k) ∈ ch
  | [], k, h => absurd (getC_nil k) h
  | q :: r, k, h => by
    rw [getC_cons] at h ⊢
    by_cases e : q.1 = k
    · rw [if_pos e, ← e]; exact .head _
    · rw [if_neg e] at h ⊢
      exact .tail _ (get_mem h)
theorem once_nodup {ch : List (Str × Int)} (h : KeysOnce ch) : ch.Nodup := List.Pairwise.of_map (fun p : Str × Int => p.1) (fun _ _ hn e => hn (congrArg _ e)) h
theorem get_perm {a b : List (Str × Int)} (ha : KeysOnce a) (hb : KeysOnce b) (hbn : ∀ p ∈ b, p.2 ≠ 0) (h : ∀ k, getC a k = getC b k) : (a.filter fun p => decide (p.2 ≠ 0)).Perm b := by
  refine (List.perm_ext_iff_of_nodup ((once_nodup ha).sublist List.filter_sublist) (once_nodup hb)).mpr fun p => ⟨fun hp => ?_, fun hp => ?_⟩
  · obtain ⟨h1, h2⟩ := List.mem_filter.mp hp
    have h3 := once_get ha h1
    have h4 : p.2 ≠ 0 := of_decide_eq_true h2
    have h5 := get_mem (ch := b) (k := p.1) (by rw [← h, h3]; exact h4)
    rw [← h, h3] at h5
    exact h5
  · have h3 := once_get hb hp
    have h4 := hbn p hp
    have h5 := get_mem (ch := a) (k := p.1) (by rw [h, h3]; exact h4)
    rw [h, h3] at h5
    exact List.mem_filter.mpr ⟨h5, decide_eq_true h4⟩
/-- what one charging adds to a folder -/
noncomputable def wgt (l : List Nat) (d : Int) : Nat → Str → Int
  | 0, _ => 0
  | n + 1, k => (if foldS (l.take n) = k then d else 0) + wgt l d n k
theorem wgt_neg (l : List Nat) (d : Int) (k : Str) : ∀ n, wgt l (-d) n k = - wgt l d n k
  | 0 => rfl
  | n + 1 => by
    show (if foldS (l.take n) = k then -d else 0) + wgt l (-d) n k = -((if foldS (l.take n) = k then d else 0) + wgt l d n k)
    rw [wgt_neg l d k n]; split <;> lia
theorem getC_charge (l : List Nat) (d : Int) (k : Str) : ∀ (n : Nat) (ch : List (Str × Int)), getC (chargeN l d n ch) k = getC ch k + wgt l d n k
  | 0, ch => by show getC ch k = getC ch k + 0; lia
  | n + 1, ch => by
    show getC (chargeN l d n (addC ch (foldS (l.take n)) d)) k = getC ch k + ((if foldS (l.take n) = k then d else 0) + wgt l d n k)
    rw [getC_charge l d k n, getC_add]; lia
theorem once_charge (l : List Nat) (d : Int) : ∀ (n : Nat) (ch : List (Str × Int)), KeysOnce ch → KeysOnce (chargeN l d n ch)
  | 0, _, h => h
  | n + 1, _, h => once_charge l d n _ (once_add h _ _)
noncomputable def wx (k : Str) (x : Lt) : Int := wgt (hexL x.2.2.natAbs) x.2.1 ((hexL x.2.2.natAbs).length + 1) k
theorem getC_chF (k : Str) : ∀ (ls : List Lt) (ch : List (Str × Int)), getC (ls.foldl chargeX ch) k = getC ch k + (ls.map (wx k)).sum
  | [], ch => by simp
  | x :: r, ch => by
    rw [List.foldl_cons, getC_chF k r, List.map_cons, List.sum_cons]
    unfold chargeX
    rw [getC_charge]
    show _ + wx k x + _ = _
    lia
theorem once_chF : ∀ (ls : List Lt) (ch : List (Str × Int)), KeysOnce ch → KeysOnce (ls.foldl chargeX ch)
  | [], _, h => h
  | _ :: r, _, h => once_chF r _ (once_charge _ _ _ _ h)
theorem getC_chUn (k : Str) : ∀ (so : List En) (ch : List (Str × Int)), getC (chUn ch so) k = getC ch k - (so.map fun e => wx k e.2).sum
  | [], ch => by show getC ch k = _; simp
  | e :: r, ch => by
    show getC (chUn (unX ch e.2) r) k = _
    rw [getC_chUn k r, List.map_cons, List.sum_cons]
    unfold unX
    rw [getC_charge, wgt_neg]
    show _ + -(wx k e.2) - _ = _
    lia
theorem once_chUn : ∀ (so : List En) (ch : List (Str × Int)), KeysOnce ch → KeysOnce (chUn ch so)
  | [], _, h => h
  | _ :: r, _, h => once_chUn r _ (once_charge _ _ _ _ h)
theorem getC_run {ls : List Lt} {so : List En} (h : SoOK ls so) (k : Str) : getC (chRun ls so) k = ((so.drop (cut so (halfOf ls))).map fun e => wx k e.2).sum := by
  unfold chRun
  rw [getC_chUn]
  unfold chF
  rw [getC_chF, getC_nil]
  have e1 : (ls.map (wx k)).sum = (so.map fun e => wx k e.2).sum := by
    refine isum_perm ?_
    have h1 := (h.perm.map fun e : En => wx k e.2).symm
    have h2 : (ent 0 ls).map (fun e : En => wx k e.2) = ls.map (wx k) := by
      have := congrArg (List.map (wx k)) (ent_snd 0 ls)
      rw [List.map_map] at this
      exact this
    rw [h2] at h1; exact h1
  have e2 : (so.map fun e => wx k e.2).sum = ((so.take (cut so (halfOf ls))).map fun e => wx k e.2).sum + ((so.drop (cut so (halfOf ls))).map fun e => wx k e.2).sum := by
    rw [← List.sum_append, ← List.map_append, List.take_append_drop]
  lia
theorem once_run (ls : List Lt) (so : List En) : KeysOnce (chRun ls so) := once_chUn _ _ (once_chF _ _ (by unfold KeysOnce; simp))
/-! what is due -/
noncomputable def cuts (n : Nat) : List Nat := 0 :: ((List.range 12).filter fun k => decide (0 < n / 16 ^ k)).map fun k => n / 16 ^ k
noncomputable def dueX (ch : List (Str × Int)) (x : Lt) : List (Str × Int) := (cuts x.2.2.natAbs).foldl (fun ch c => addC ch (wayS c) x.2.1) ch
noncomputable def dueF (so : List En) : List (Str × Int) := so.foldl (fun ch e => dueX ch e.2) []
theorem getC_adds (k : Str) (d : Int) : ∀ (cs : List Nat) (ch : List (Str × Int)), getC (cs.foldl (fun ch c => addC ch (wayS c) d) ch) k = getC ch k + (cs.map fun c => if wayS c = k then d else 0).sum
  | [], ch => by simp
  | c :: r, ch => by rw [List.foldl_cons, getC_adds k d r, getC_add, List.map_cons, List.sum_cons]; lia
theorem once_adds (d : Int) : ∀ (cs : List Nat) (ch : List (Str × Int)), KeysOnce ch → KeysOnce (cs.foldl (fun ch c => addC ch (wayS c) d) ch)
  | [], _, h => h
  | _ :: r, _, h => once_adds d r _ (once_add h _ _)
theorem wayS_eq (n : Nat) : wayS n = foldS (hexL n) := rfl
theorem wgt_app (l : List Nat) (c : Nat) (d : Int) (k : Str) : ∀ n, n ≤ l.length + 1 → wgt (l ++ [c]) d n k = wgt l d n k
  | 0, _ => rfl
  | n + 1, h => by
    show (if foldS ((l ++ [c]).take n) = k then d else 0) + wgt (l ++ [c]) d n k = (if foldS (l.take n) = k then d else 0) + wgt l d n k
    rw [wgt_app l c d k n (by lia), List.take_append_of_le_length (by lia)]
noncomputable def wn (d : Int) (k : Str) (n : Nat) : Int := wgt (hexL n) d ((hexL n).length + 1) k
theorem wn_zero (d : Int) (k : Str) : wn d k 0 = if wayS 0 = k then d else 0 := by
  unfold wn
  rw [hexL_zero, wayS_eq, hexL_zero]
  show (if foldS [] = k then d else 0) + 0 = _
  lia
theorem wn_pos (d : Int) (k : Str) {n : Nat} (h : n ≠ 0) : wn d k n = (if wayS n = k then d else 0) + wn d k (n / 16) := by
  unfold wn
  rw [show (hexL n).length + 1 = (hexL (n / 16)).length + 1 + 1 by rw [hexL_pos h, List.length_append]; rfl]
  show (if foldS ((hexL n).take ((hexL (n / 16)).length + 1)) = k then d else 0) + wgt (hexL n) d ((hexL (n / 16)).length + 1) k = _
  rw [List.take_of_length_le (by rw [hexL_pos h, List.length_append]; exact Nat.le_refl _), wayS_eq, hexL_pos h, wgt_app _ _ _ _ _ (Nat.le_refl _)]
noncomputable def gsum (f : Nat → Int) : Nat → Nat → Int
  | 0, _ => 0
  | m + 1, n => (if 0 < n then f n else 0) + gsum f m (n / 16)
theorem wn_gsum (d : Int) (k : Str) : ∀ (m n : Nat), n < 16 ^ m → wn d k n = (if wayS 0 = k then d else 0) + gsum (fun c => if wayS c = k then d else 0) m n
  | 0, n, h => by
    have : n = 0 := by simpa using h
    subst this
    rw [wn_zero]; show _ = _ + (0 : Int); lia
  | m + 1, n, h => by
    show _ = _ + ((if 0 < n then (if wayS n = k then d else 0) else 0) + gsum _ m (n / 16))
    have ih := wn_gsum d k m (n / 16) (by rw [Nat.pow_succ] at h; lia)
    by_cases h0 : n = 0
    · subst h0
      rw [if_neg (Nat.lt_irrefl _)]
      rw [show 0 / 16 = 0 from rfl] at ih ⊢
      lia
    · rw [if_pos (Nat.pos_of_ne_zero h0), wn_pos d k h0, ih]; lia
theorem gsum_list (f : Nat → Int) : ∀ (m n : Nat), gsum f m n = ((((List.range m).filter fun k => decide (0 < n / 16 ^ k)).map fun k => n / 16 ^ k).map f).sum
  | 0, n => rfl
  | m + 1, n => by
    show (if 0 < n then f n else 0) + gsum f m (n / 16) = _
    rw [gsum_list f m (n / 16), List.range_succ_eq_map, List.filter_cons]
    have e : ∀ k, n / 16 / 16 ^ k = n / 16 ^ (k + 1) := fun k => by rw [Nat.div_div_eq_div_mul, Nat.pow_succ, Nat.mul_comm 16]
    have e2 : (((List.range m).map Nat.succ).filter fun k => decide (0 < n / 16 ^ k)).map (fun k => n / 16 ^ k) = ((List.range m).filter fun k => decide (0 < n / 16 / 16 ^ k)).map fun k => n / 16 / 16 ^ k := by
      rw [List.filter_map, List.map_map]
      have q1 : ((fun k => decide (0 < n / 16 ^ k)) ∘ Nat.succ) = fun k => decide (0 < n / 16 / 16 ^ k) := by funext k; show decide (0 < n / 16 ^ (k + 1)) = _; rw [e k]
      have q2 : ((fun k => n / 16 ^ k) ∘ Nat.succ) = fun k => n / 16 / 16 ^ k := by funext k; show n / 16 ^ (k + 1) = _; rw [e k]
      rw [q1, q2]
    by_cases h0 : 0 < n
    · rw [if_pos h0, if_pos (decide_eq_true (by rw [Nat.pow_zero, Nat.div_one]; exact h0)), List.map_cons, List.map_cons, List.sum_cons, e2, Nat.pow_zero, Nat.div_one]
    · rw [if_neg h0, if_neg (fun q => h0 (by have := of_decide_eq_true q; rwa [Nat.pow_zero, Nat.div_one] at this)), e2, Int.zero_add]
theorem cuts_wx {x : Lt} (h : x.2.2.natAbs < 16 ^ 12) (k : Str) : ((cuts x.2.2.natAbs).map fun c => if wayS c = k then x.2.1 else 0).sum = wx k x := by
  show _ = wn x.2.1 k x.2.2.natAbs
  rw [wn_gsum x.2.1 k 12 _ h, gsum_list]
  unfold cuts
  rw [List.map_cons, List.sum_cons]
theorem getC_dues (k : Str) : ∀ (so : List En) (ch : List (Str × Int)), (∀ e ∈ so, e.2.2.2.natAbs < 16 ^ 12) → getC (so.foldl (fun ch e => dueX ch e.2) ch) k = getC ch k + (so.map fun e => wx k e.2).sum
  | [], ch, _ => by simp
  | e :: r, ch, h => by
    rw [List.foldl_cons, getC_dues k r _ fun f hf => h f (.tail _ hf), List.map_cons, List.sum_cons]
    unfold dueX
    rw [getC_adds, cuts_wx (h e (.head _))]; lia
theorem once_dues : ∀ (so : List En) (ch : List (Str × Int)), KeysOnce ch → KeysOnce (so.foldl (fun ch e => dueX ch e.2) ch)
  | [], _, h => h
  | _ :: r, _, h => once_dues r _ (once_adds _ _ _ h)
noncomputable def AllPos (ch : List (Str × Int)) : Prop := ∀ p ∈ ch, 1 ≤ p.2
theorem pos_get {ch : List (Str × Int)} (h : AllPos ch) (k : Str) : 0 ≤ getC ch k := by
  induction ch with
  | nil => exact Int.le_refl _
  | cons p r ih =>
    rw [getC_cons]
    split
    · have := h p (.head _); lia
    · exact ih fun q hq => h q (.tail _ hq)
theorem pos_put {ch : List (Str × Int)} (h : AllPos ch) (k : Str) {v : Int} (hv : 1 ≤ v) : AllPos (putC ch k v) := by
  unfold putC
  split
  · intro p hp
    obtain ⟨q, hq, rfl⟩ := List.mem_map.mp hp
    split
    · exact hv
    · exact h q hq
  · intro p hp
    rcases List.mem_append.mp hp with hp | hp
    · exact h p hp
    · rw [List.mem_singleton.mp hp]; exact hv
theorem pos_add {ch : List (Str × Int)} (h : AllPos ch) (k : Str) {d : Int} (hd : 1 ≤ d) : AllPos (addC ch k d) := pos_put h k (by have := pos_get h k; lia)
theorem pos_adds {d : Int} (hd : 1 ≤ d) : ∀ (cs : List Nat) (ch : List (Str × Int)), AllPos ch → AllPos (cs.foldl (fun ch c => addC ch (wayS c) d) ch)
  | [], _, h => h
  | _ :: r, _, h => pos_adds hd r _ (pos_add h _ hd)
theorem pos_dues : ∀ (so : List En) (ch : List (Str × Int)), (∀ e ∈ so, 1 ≤ e.2.2.1) → AllPos ch → AllPos (so.foldl (fun ch e => dueX ch e.2) ch)
  | [], _, _, h => h
  | e :: r, _, hs, h => pos_dues r _ (fun f hf => hs f (.tail _ hf)) (pos_adds (hs e (.head _)) _ _ h)
theorem run_due {ls : List Lt} {so : List En} (h : SoOK ls so) (hsz : ∀ x ∈ ls, 1 ≤ x.2.1) (hnm : ∀ x ∈ ls, x.2.2.natAbs < 16 ^ 12) :
    ((chRun ls so).filter fun p => decide (p.2 ≠ 0)).Perm (dueF (so.drop (cut so (halfOf ls)))) := by
  have hm : ∀ e ∈ so.drop (cut so (halfOf ls)), e.2 ∈ ls := fun e he => (so_mem h (List.mem_of_mem_drop he)).2
  refine get_perm (once_run ls so) (once_dues _ _ (by unfold KeysOnce; simp)) (fun p hp => ?_) fun k => ?_
  · have := pos_dues _ [] (fun e he => hsz _ (hm e he)) (fun p hp => by cases hp) p hp
    lia
  · unfold dueF
    rw [getC_run h, getC_dues k _ _ fun e he => hnm _ (hm e he), getC_nil, Int.zero_add]
theorem pkey_inj {p q : Str × Int} (h : pkey p = pkey q) : p = q := by rw [← unkey_pkey p, h, unkey_pkey]
theorem sorted_one {a b : List (Str × Int)} (ha : PSorted a) (hb : PSorted b) (h : a.Perm b) : a = b := by
  refine List.Perm.eq_of_pairwise (le := fun a b => lexLt (pkey b) (pkey a) = false) (fun p q _ _ h1 h2 => ?_) ha hb h
  apply Classical.byContradiction
  intro hne
  rcases lexLt_total (fun e => hne (pkey_inj e)) with h | h
  · rw [h] at h2; cases h2
  · rw [h] at h1; cases h1
theorem fs_same {ls : List Lt} {so : List En} {fs fs' : List (Str × Int)} (h : SoOK ls so) (hsz : ∀ x ∈ ls, 1 ≤ x.2.1) (hnm : ∀ x ∈ ls, x.2.2.natAbs < 16 ^ 12)
    (h1 : fs.Perm ((chRun ls so).filter fun p => decide (p.2 ≠ 0))) (s1 : PSorted fs) (h2 : fs'.Perm (dueF (so.drop (cut so (halfOf ls))))) (s2 : PSorted fs') : fs = fs' :=
  sorted_one s1 s2 (h1.trans ((run_due h hsz hnm).trans h2.symm))
/-! the order of the letters is one -/
theorem ent_inj : ∀ {i : Nat} {ls : List Lt} {e f : En}, e ∈ ent i ls → f ∈ ent i ls → e.1 = f.1 → e = f
  | _, [], _, _, h, _, _ => by simp [ent] at h
  | i, x :: r, e, f, he, hf, h => by
    rcases List.mem_cons.mp he with rfl | he'
    · rcases List.mem_cons.mp hf with rfl | hf'
      · rfl
      · have := ent_mem hf'; simp only at h; lia
    · rcases List.mem_cons.mp hf with rfl | hf'
      · have := ent_mem he'; simp only at h; lia
      · exact ent_inj he' hf' h
theorem dig_inj {i j : Nat} (hi : i < 12) (hj : j < 12) (h : dig i = dig j) : i = j := by
  have all : ∀ x y : Fin 12, dig x = dig y → (x : Nat) = y := by decide +kernel
  exact all ⟨i, hi⟩ ⟨j, hj⟩ h
theorem last_seg {a b c d : List Nat} (hb : 47 ∉ b) (hd : 47 ∉ d) (h : a ++ 47 :: b = c ++ 47 :: d) : b = d := by
  rcases List.append_eq_append_iff.mp h with ⟨t, e1, e2⟩ | ⟨t, e1, e2⟩
  · cases t with
    | nil => simpa using e2
    | cons y t =>
      rw [List.cons_append] at e2
      have e3 := (List.cons.inj e2).2
      exact absurd (e3 ▸ (by simp : (47 : Nat) ∈ t ++ 47 :: d)) hb
  · cases t with
    | nil => simpa using e2.symm
    | cons y t =>
      rw [List.cons_append] at e2
      have e3 := (List.cons.inj e2).2
      exact absurd (e3 ▸ (by simp : (47 : Nat) ∈ t ++ 47 :: b)) hd
theorem keyE_inj {ls : List Lt} (hlen : ls.length ≤ 11) {e f : En} (he : e ∈ ent 0 ls) (hf : f ∈ ent 0 ls) (h : keyE e = keyE f) : e = f := by
  have h1 := ent_mem he
  have h2 := ent_mem hf
  refine ent_inj he hf ?_
  have h3 : pathL e.1 e.2 = pathL f.1 f.2 := by
    unfold keyE keyL at h
    simpa using (List.cons.inj (List.cons.inj (List.cons.inj h).2).2).1
  have d1 := (dig_ok (i := e.1) (by lia)).2.2
  have d2 := (dig_ok (i := f.1) (by lia)).2.2
  exact dig_inj (by lia) (by lia) (last_seg d1 d2 h3)
theorem so_one {ls : List Lt} (hlen : ls.length ≤ 11) {a b : List En} (ha : SoOK ls a) (hb : SoOK ls b) : a = b := by
  refine List.Perm.eq_of_pairwise (le := fun a b => lexLt (keyE b) (keyE a) = false) (fun p q hp hq h1 h2 => ?_) ha.ord hb.ord (ha.perm.trans hb.perm.symm)
  apply Classical.byContradiction
  intro hne
  rcases lexLt_total (fun e => hne (keyE_inj hlen (ha.perm.mem_iff.mp hp) (hb.perm.mem_iff.mp hq) e)) with h | h
  · rw [h] at h2; cases h2
  · rw [h] at h1; cases h1
noncomputable def soOf (ls : List Lt) : List En := (ent 0 ls).mergeSort fun a b => !lexLt (keyE b) (keyE a)
theorem soOf_ok (ls : List Lt) : SoOK ls (soOf ls) := by
  refine ⟨List.mergeSort_perm _ _, ?_⟩
  have := List.pairwise_mergeSort (le := fun a b : En => !lexLt (keyE b) (keyE a)) (fun a b c h1 h2 => ?_) (fun a b => ?_) (ent 0 ls)
  · exact this.imp fun h => by simpa using h
  · have h1' : lexLt (keyE b) (keyE a) = false := by simpa using h1
    have h2' : lexLt (keyE c) (keyE b) = false := by simpa using h2
    show (!lexLt (keyE c) (keyE a)) = true
    cases h : lexLt (keyE c) (keyE a) with
    | false => rfl
    | true =>
      rcases lexLt_neg (b := keyE b) h with h | h
      · rw [h] at h2'; cases h2'
      · rw [h] at h1'; cases h1'
  · show (!lexLt (keyE b) (keyE a) || !lexLt (keyE a) (keyE b)) = true
    cases h : lexLt (keyE b) (keyE a) with
    | false => rfl
    | true =>
      cases h' : lexLt (keyE a) (keyE b) with
      | false => rfl
      | true => have := lexLt_trans h h'; rw [lexLt_irrefl] at this; cases this
end

/-! L2 -/
section
open LCg
/-! the row of the letters, in a ledger -/
noncomputable def RowP (rest : List (Addr × Obj)) (tr : List (Value × En)) : Prop := ∀ p ∈ tr, ∃ a n t1 t2 t3 t4, p.1 = .ref a ∧ (a, listOf #[.int p.2.2.1 t1, .int (-p.2.2.2.1) t2, .str (pathS p.2) t3, .int (p.2.2.2.2.natAbs : Int) t4] n) ∈ rest
theorem RowP.grow {rest rest' : List (Addr × Obj)} {tr : List (Value × En)} (h : RowP rest tr) (hs : ∀ p ∈ rest, p ∈ rest') : RowP rest' tr := fun p hp => by
  obtain ⟨a, n, t1, t2, t3, t4, e, hm⟩ := h p hp
  exact ⟨a, n, t1, t2, t3, t4, e, hs _ hm⟩
theorem RowP.sub {rest : List (Addr × Obj)} {tr tr' : List (Value × En)} (h : RowP rest tr) (hs : ∀ p ∈ tr', p ∈ tr) : RowP rest tr' := fun p hp => h p (hs p hp)
noncomputable def key4 (e : En) : List Key := keyE e ++ [.i (e.2.2.2.natAbs : Int)]
noncomputable def rowPrs (tr : List (Value × En)) : List PK := tr.map fun p => (p.1, key4 p.2)
theorem rowPrs_fst (tr : List (Value × En)) : (rowPrs tr).map (·.1) = tr.map (·.1) := by unfold rowPrs; rw [List.map_map]; rfl
theorem rowPrs_alike (tr : List (Value × En)) : AlikeAll (rowPrs tr) := by
  intro p hp q hq
  obtain ⟨x, _, rfl⟩ := List.mem_map.mp hp
  obtain ⟨y, _, rfl⟩ := List.mem_map.mp hq
  rfl
theorem rowPrs_keyed {h₀ hh : Heap} {L : Addr} {rest : List (Addr × Obj)} {tr : List (Value × En)} (h : RowP rest tr) (N : News h₀ L hh rest) : Keyed' hh (rowPrs tr) := by
  intro q hq
  obtain ⟨x, hx, rfl⟩ := List.mem_map.mp hq
  obtain ⟨a, n, t1, t2, t3, t4, e, hm⟩ := h x hx
  exact ⟨a, [.int x.2.2.1 t1, .int (-x.2.2.2.1) t2, .str (pathS x.2) t3, .int (x.2.2.2.2.natAbs : Int) t4], e, ⟨_, (N _ hm).1, rfl, n, rfl⟩, .cons rfl (.cons rfl (.cons rfl (.cons rfl .nil)))⟩
theorem perm_map_inv {α β : Type} {f : α → β} : ∀ {l' m : List β}, l'.Perm m → ∀ l : List α, m = l.map f → ∃ l2 : List α, l2.Perm l ∧ l' = l2.map f := by
  intro l' m h
  induction h with
  | nil =>
    intro l e
    have : l = [] := by simpa using e.symm
    exact ⟨[], this ▸ .refl _, rfl⟩
  | cons x _ ih =>
    intro l e
    cases l with
    | nil => cases e
    | cons y l =>
      rw [List.map_cons] at e
      obtain ⟨e1, e2⟩ := List.cons.inj e
      obtain ⟨l2, hp, e3⟩ := ih l e2
      exact ⟨y :: l2, hp.cons y, by rw [List.map_cons, e1, e3]⟩
  | swap x y r =>
    intro l e
    match l, e with
    | a :: b :: l, e =>
      rw [List.map_cons, List.map_cons] at e
      obtain ⟨e1, e2⟩ := List.cons.inj e
      obtain ⟨e2, e3⟩ := List.cons.inj e2
      exact ⟨b :: a :: l, .swap _ _ _, by rw [List.map_cons, List.map_cons, e1, e2, e3]⟩
  | trans _ _ i1 i2 =>
    intro l e
    obtain ⟨l2, h2, e2⟩ := i2 l e
    obtain ⟨l3, h3, e3⟩ := i1 l2 e2
    exact ⟨l3, h3.trans h2, e3⟩
theorem lexLt_app : ∀ {a b u v : List Key}, a.length = b.length → lexLt a b = true → lexLt (a ++ u) (b ++ v) = true
  | [], [], _, _, _, h => by cases h
  | x :: a, y :: b, u, v, hl, h => by
    show (if x = y then lexLt (a ++ u) (b ++ v) else kLt x y) = true
    have h' : (if x = y then lexLt a b else kLt x y) = true := h
    by_cases e : x = y
    · rw [if_pos e] at h' ⊢
      exact lexLt_app (Nat.succ.inj hl) h'
    · rw [if_neg e] at h' ⊢; exact h'
theorem row_sorted {rest : List (Addr × Obj)} {tr : List (Value × En)} {ls : List Lt} {prs' : List PK} (h : RowP rest tr) (he : tr.map (·.2) = ent 0 ls) (hs : SortedOf (rowPrs tr) prs') :
    ∃ tr', prs'.map (·.1) = tr'.map (·.1) ∧ RowP rest tr' ∧ SoOK ls (tr'.map (·.2)) := by
  obtain ⟨tr', hp, e⟩ := perm_map_inv hs.1 tr rfl
  refine ⟨tr', ?_, h.sub fun p hp' => hp.mem_iff.mp hp', ?_, ?_⟩
  · rw [e, List.map_map]; rfl
  · rw [← he]; exact hp.map _
  · have h2 := hs.2
    rw [e, List.pairwise_map] at h2
    unfold InOrder
    rw [List.pairwise_map]
    refine h2.imp fun {a b} hab => ?_
    cases hl : lexLt (keyE b.2) (keyE a.2) with
    | false => rfl
    | true =>
      have h3 := lexLt_app (u := [.i (b.2.2.2.2.natAbs : Int)]) (v := [.i (a.2.2.2.2.natAbs : Int)]) (a := keyE b.2) (b := keyE a.2) rfl hl
      have h4 : lexLt (key4 b.2) (key4 a.2) = false := hab
      unfold key4 at h4
      rw [h3] at h4; cases h4
/-! the cut -/
theorem cut_le : ∀ (so : List En) (half : Int), cut so half ≤ so.length
  | [], _ => Nat.le_refl _
  | e :: r, half => by
    unfold cut
    split
    · exact Nat.zero_le _
    · have := cut_le r half; rw [List.length_cons]; lia
theorem cut_ok {half : Int} (h0 : 0 ≤ half) : ∀ so : List En, (sizes (so.drop (cut so half))).sum ≤ half
  | [] => h0
  | e :: r => by
    unfold cut
    split
    · assumption
    · rw [Nat.add_comm, List.drop_succ_cons]; exact cut_ok h0 r
theorem cut_min {half : Int} : ∀ (so : List En) (j : Nat), j < cut so half → ¬ (sizes (so.drop j)).sum ≤ half
  | [], j, h => by cases h
  | e :: r, j, h => by
    unfold cut at h
    split at h
    · cases h
    · rename_i hn
      cases j with
      | zero => exact hn
      | succ j => rw [List.drop_succ_cons]; exact cut_min r j (by lia)
theorem first_range {p : Nat → Bool} {c : Nat} (hc : p c = true) (hm : ∀ j, j < c → p j = false) : ∀ n, c < n → ∃ r, (List.range n).filter p = c :: r
  | 0, h => by cases h
  | n + 1, h => by
    rw [List.range_succ, List.filter_append]
    by_cases e : c = n
    · subst e
      have : (List.range c).filter p = [] := by
        rw [List.filter_eq_nil_iff]
        intro a ha
        rw [hm a (List.mem_range.mp ha)]; decide
      refine ⟨[], ?_⟩
      rw [this, List.filter_cons, if_pos hc]; rfl
    · obtain ⟨r, hr⟩ := first_range hc hm n (by lia)
      rw [hr]; exact ⟨_, rfl⟩
theorem cut_first {so : List En} {half : Int} (h0 : 0 ≤ half) : ∃ r, (List.range (so.length + 1)).filter (fun k => decide ((sizes (so.drop k)).sum ≤ half)) = cut so half :: r :=
  first_range (decide_eq_true (cut_ok h0 so)) (fun j hj => decide_eq_false (cut_min so j hj)) _ (by have := cut_le so half; lia)
theorem range_next (p : Nat → Bool) (i : Nat) : (List.range (i + 1)).filter p = (List.range i).filter p ++ (if p i then [i] else []) := by
  rw [List.range_succ, List.filter_append]
  cases hp : p i <;> simp [hp]
theorem IntsAre.app {vs ws : List Value} {ns ks : List Int} (h : IntsAre vs ns) (h' : IntsAre ws ks) : IntsAre (vs ++ ws) (ns ++ ks) := by
  induction h with
  | nil => exact h'
  | cons n t _ ih => exact .cons n t ih
end

/-! K1 -/
section
open PySem.Calls PyProof.Rows.LCg
theorem pick_from (vs : List Value) (k : Nat) : slicePick vs.toArray (some (k : Int)) none none = (vs.drop k).toArray := by
  rw [kms_pick_eq]
  unfold kms_pick kms_lo kms_hi
  (try dsimp only)
  rw [if_neg (by omega), Int.toNat_natCast]
  congr 1
  show ((vs.drop (min k vs.length)).take (vs.length - min k vs.length)) = vs.drop k
  rw [kmk_drop_min, List.take_of_length_le (by rw [List.length_drop]; omega)]
theorem pick_upto (vs : List Value) (k : Nat) : slicePick vs.toArray none (some (k : Int)) none = (vs.take k).toArray := by
  rw [kms_pick_eq]
  unfold kms_pick kms_lo kms_hi
  (try dsimp only)
  rw [if_neg (by omega), Int.toNat_natCast]
  congr 1
  show ((vs.drop 0).take (min k vs.length - 0)) = vs.take k
  rw [List.drop_zero, Nat.sub_zero, kmk_take_min]
theorem ints_at : ∀ {vs : List Value} {ns : List Int}, IntsAre vs ns → ∀ {i : Nat} {v : Value}, vs[i]? = some v → ∃ n t, ns[i]? = some n ∧ v = .int n t
  | _, _, .nil, i, v, h => by simp at h
  | _, _, .cons n t r, 0, v, h => ⟨n, t, rfl, (Option.some.inj h).symm⟩
  | _, _, .cons n t r, i + 1, v, h => ints_at r (i := i) (by simpa using h)
theorem strs_of : ∀ {ys : List Value} {ns : List Str}, ys.length = ns.length → (∀ j : Nat, j < ns.length → ∃ v, ys[j]? = some v ∧ ∃ n t, ns[j]? = some n ∧ v = .str n t) → StrsAre ys ns
  | [], [], _, _ => .nil
  | [], _ :: _, h, _ => by simp at h
  | _ :: _, [], h, _ => by simp at h
  | y :: ys, n :: ns, h, hj => by
    obtain ⟨v, e1, n', t, e2, rfl⟩ := hj 0 (Nat.succ_pos _)
    have e1' : y = .str n' t := by simpa using e1
    have e2' : n = n' := by simpa using e2
    subst e1' e2'
    exact .cons _ _ (strs_of (Nat.succ.inj h) fun j hlt => hj (j + 1) (Nat.succ_lt_succ hlt))
noncomputable def addsC (d : Int) (ch : List (Str × Int)) (cs : List Nat) : List (Str × Int) := cs.foldl (fun ch c => addC ch (wayS c) d) ch
theorem addsC_app (d : Int) (ch : List (Str × Int)) (cs : List Nat) (c : Nat) : addsC d ch (cs ++ [c]) = putC (addsC d ch cs) (wayS c) (getC (addsC d ch cs) (wayS c) + d) := by
  unfold addsC; rw [List.foldl_append]; rfl
theorem addsC_len (d : Int) : ∀ (cs : List Nat) (ch : List (Str × Int)), (addsC d ch cs).length ≤ ch.length + cs.length
  | [], _ => Nat.le_refl _
  | c :: r, ch => by
    have h1 := addsC_len d r (addC ch (wayS c) d)
    have h2 := putC_len ch (wayS c) (getC ch (wayS c) + d)
    show (addsC d (addC ch (wayS c) d) r).length ≤ _
    unfold addC at h1 ⊢
    rw [List.length_cons]; omega
theorem cuts_len (n : Nat) : (cuts n).length ≤ 13 := by
  unfold cuts
  rw [List.length_cons, List.length_map]
  have := List.length_filter_le (fun k => decide (0 < n / 16 ^ k)) (List.range 12)
  rw [List.length_range] at this
  omega
theorem cuts_lt {n c : Nat} (hn : n < 16 ^ 12) (h : c ∈ cuts n) : c < 16 ^ 12 := by
  unfold cuts at h
  rcases List.mem_cons.mp h with rfl | h
  · decide
  · obtain ⟨k, _, rfl⟩ := List.mem_map.mp h
    exact Nat.lt_of_le_of_lt (Nat.div_le_self _ _) hn
theorem dueF_app (l : List En) (e : En) : dueF (l ++ [e]) = addsC e.2.2.1 (dueF l) (cuts e.2.2.2.natAbs) := by
  unfold dueF; rw [List.foldl_append]; rfl
theorem dues_len : ∀ (so : List En) (ch : List (Str × Int)), (so.foldl (fun ch e => dueX ch e.2) ch).length ≤ ch.length + 13 * so.length
  | [], _ => Nat.le_refl _
  | e :: r, ch => by
    have h1 := dues_len r (dueX ch e.2)
    have h2 : (dueX ch e.2).length ≤ ch.length + (cuts e.2.2.2.natAbs).length := addsC_len _ _ _
    have h3 := cuts_len e.2.2.2.natAbs
    rw [List.foldl_cons, List.length_cons]; omega
section
variable {prog : Program} {w : World} {A : Around} {E : Value → Shared → Prop} {s : Shared} {h₀ : Heap} {L : Addr} {m : Str → Option Value} {news : List (Addr × Obj)}
theorem vst_len {a : Addr} {l : List Value} {n : Nat} {Q : Value → Shared → Prop} (N : News h₀ L s.heap news) (hm : (a, listOf l.toArray n) ∈ news) (hlen : l.length ≤ 1000) (h : ∀ t k, Q (.int (l.length : Int) t) { s with toks := k }) :
    wpAny (model prog w) A (call (.builtin "len") [.ref a]) Q E s := by
  have e : l.toArray.size = l.length := by simp
  refine Calls.call_len_list ⟨_, (N _ hm).1, rfl, n, rfl⟩ (by rw [e]; exact fit_of hlen) ?_
  rw [e]; exact h _ _
theorem vst_from {value slice : PySem.Expr} {a : Addr} {l : List Value} {n k : Nat} {t : Tok} {Q : Value → Shared → Prop} (F : Fr h₀ L s.heap m) (N : News h₀ L s.heap news) (hm : (a, listOf l.toArray n) ∈ news) (hlen : l.length ≤ 1000)
    (h : ∀ D h', Fr h₀ L h' m → News h₀ L h' ((D, listOf (l.drop k).toArray 0) :: news) → (∀ p ∈ news, p.1 < D) → Q (.ref D) { s with heap := h' })
    (hs : subscripted slice false (.ref a) (.ref s.heap.objs.size) = operate [.ref s.heap.objs.size, .ref a] (getItem (.ref a) (.ref s.heap.objs.size))) (ht : ∀ r, letTemporaryGo value (.ref a) r = pure ()) :
    wpAny (model prog w) A (subscriptTail value slice (.ref a) (.ref s.heap.objs.size)) Q E { s with heap := s.heap.push { cls := .type "slice", data := .fields #[.int (k : Int) t, .none, .none] } } := by
  refine kmk_slice F N ⟨_, (N _ hm).1, rfl, n, rfl⟩ (.int _ _) .none (fun D h' F' N' l1 => h D h' F' ?_ l1) hs ht (by rw [List.size_toArray, sizeLine_eq]; omega)
  rw [← pick_from]; exact N'
theorem vst_upto {value slice : PySem.Expr} {a : Addr} {l : List Value} {n k : Nat} {t : Tok} {Q : Value → Shared → Prop} (F : Fr h₀ L s.heap m) (N : News h₀ L s.heap news) (hm : (a, listOf l.toArray n) ∈ news) (hlen : l.length ≤ 1000)
    (h : ∀ D h', Fr h₀ L h' m → News h₀ L h' ((D, listOf (l.take k).toArray 0) :: news) → (∀ p ∈ news, p.1 < D) → Q (.ref D) { s with heap := h' })
    (hs : subscripted slice false (.ref a) (.ref s.heap.objs.size) = operate [.ref s.heap.objs.size, .ref a] (getItem (.ref a) (.ref s.heap.objs.size))) (ht : ∀ r, letTemporaryGo value (.ref a) r = pure ()) :
    wpAny (model prog w) A (subscriptTail value slice (.ref a) (.ref s.heap.objs.size)) Q E { s with heap := s.heap.push { cls := .type "slice", data := .fields #[.none, .int (k : Int) t, .none] } } := by
  refine kmk_slice F N ⟨_, (N _ hm).1, rfl, n, rfl⟩ .none (.int _ _) (fun D h' F' N' l1 => h D h' F' ?_ l1) hs ht (by rw [List.size_toArray, sizeLine_eq]; omega)
  rw [← pick_upto]; exact N'
theorem vst_at {value slice : PySem.Expr} {a : Addr} {l : List Value} {n : Nat} {k : Int} {u : Tok} {j : Nat} {p : Value} {Q : Value → Shared → Prop}
    (N : News h₀ L s.heap news) (hm : (a, listOf l.toArray n) ∈ news) (hj : k = (j : Int)) (hlen : l.length ≤ 1000) (hx : l[j]? = some p) (h : Q p s)
    (hs : subscripted slice false (.ref a) (.int k u) = operate [.ref a, .int k u] (getItem (.ref a) (.int k u)) := by with_unfolding_all rfl) :
    wpAny (model prog w) A (subscriptTail value slice (.ref a) (.int k u)) Q E s := by
  subst hj
  have hl : s.heap.IsList a l.toArray := ⟨_, (N _ hm).1, rfl, n, rfl⟩
  have hlt : j < l.length := (List.getElem?_eq_some_iff.mp hx).1
  exact tail_any hl.typeIs slot_list_getitem.lookup (wpAny_getItem_list hl (Int.natCast_nonneg j) (fit_of (Nat.le_trans (Nat.le_of_lt hlt) hlen)) (by simp [hx]) h) hs
theorem div_pow {q j : Nat} {t1 t2 : Tok} {Q : Value → Shared → Prop} (hj : j < 12) (h : ∀ t k, Q (.int ((q / 16 ^ j : Nat) : Int) t) { s with toks := k }) :
    wpAny (model prog w) A (binaryOp .FloorDiv (.int (q : Int) t1) (.int (16 ^ ((j : Nat) : Int).toNat) t2)) Q E s := by
  have e : ((16 : Int) ^ ((j : Nat) : Int).toNat) = ((16 ^ j : Nat) : Int) := by rw [Int.toNat_natCast]; exact (Int.natCast_pow ..).symm
  rw [e]
  have hp : 0 < 16 ^ j := Nat.pow_pos (by decide)
  refine floordiv_int (by omega) ?_ (Or.inl (PyProof.noPylong_of_log2 ?_))
  · rw [Int.fdiv_eq_ediv_of_nonneg _ (Int.natCast_nonneg _)]
    exact h _ _
  · have all : ∀ x : Fin 12, (((16 ^ (x : Nat) : Nat) : Int)).natAbs.log2 < 9000 := by decide +kernel
    exact all ⟨j, hj⟩
theorem comp_rangeN {env : Env} {elt : PySem.Expr} {ifs : List PySem.Expr} {scope : Scope} {cl : List (Str × Addr)} {Fin : Shared → List Value → List (Addr × Obj) → Prop} {x : Str} {px : Pos} {k : Int} {n : Nat} {t : Tok} (J : Nat → List Value → List (Addr × Obj) → Prop) (hh : A.handled = none) (hk : k = (n : Int)) (hn : n ≤ 1000)
    (F : Fr h₀ L s.heap m) (N : News h₀ L s.heap news) (hlen : ∀ i ys nw, J i ys nw → ys.length ≤ i) (h0 : J 0 [] news) (hkind : scope.kind = .function) (hx : scope.names.lookup x = some .local)
    (step : ∀ s' I, (∀ p ∈ news, p.1 < I) → CStep prog w A h₀ L m env elt ifs scope cl s' [I] [I] n J (fun i mC => ∃ t, mC x = some (.int (i : Int) t))) (fin : ∀ s' tk, s' = { s with heap := s'.heap, toks := tk } → ∀ ys nw, J n ys nw → Fin s' ys nw) :
    wpAny (model prog w) A (call (.type "range") [.int k t]) (fun xv s₁ => wpAny (model prog w) A (pyIter xv) (CompAt prog w A h₀ L m env elt (.Name x px) ifs scope cl Fin) E s₁) E s := by
  subst hk
  refine range1_rows F N fun h' tk t₁ u₁ v₁ hr F' N' _ => ?_
  have hb : ((n : Nat) : Int) < 2 ^ 62 := by
    have : (1000 : Int) < 2 ^ 62 := by decide
    omega
  refine comp_range J _ hh hr (small_one (by decide) (by decide) (by omega) hb) (by rw [rangeSize_nat, Int.sub_zero, Int.toNat_natCast]) F' N' (by rw [sizeLine_eq]; omega) hlen h0 (casg_int hkind hx) step fun s' hs ys nw hJ => fin s' tk (by rw [hs]) ys nw hJ
end
end

/-! F1 -/
section
open PySem.Calls


open LCg

theorem name3 {P : Prop} {h₀ h : Heap} {L a b c : Addr} {o1 o2 o3 : Obj} {r : List (Addr × Obj)} (N : News h₀ L h ((a, o1) :: (b, o2) :: (c, o3) :: r)) (k : ∀ x1 x2 x3, x1 = o1 → x2 = o2 → x3 = o3 → P) : P := k o1 o2 o3 rfl rfl rfl
theorem ne123 {a b : Nat} (h : a < b) : a ≠ b + 1 + 1 + 1 ∧ a ≠ b + 1 + 1 ∧ a ≠ b + 1 := by lia
theorem CAsg.mono {prog : Program} {w : World} {A : Around} {h₀ : Heap} {L : Addr} {env : Env} {target : PySem.Expr} {scope : Scope} {cl : List (Str × Addr)} {n : Nat} {P : Nat → Value → Heap → Prop} {J : Nat → List Value → List (Addr × Obj) → Prop} {bnd bnd' : Nat → (Str → Option Value) → Prop}
    (h : CAsg prog w A h₀ L env target scope cl n P J bnd) (hb : ∀ i mC, bnd i mC → bnd' i mC) : CAsg prog w A h₀ L env target scope cl n P J bnd' :=
  fun i v ys news₁ s C mC Q E' hi hP hJ N hn k => h i v ys news₁ s C mC Q E' hi hP hJ N hn fun h' tk mC' hb' => k h' tk mC' (hb _ _ hb')
theorem casg_enum' {prog : Program} {w : World} {A : Around} {h₀ : Heap} {L : Addr} {env : Env} {x : Str} {px : Pos} {elts : List PySem.Expr} {k k2 : Nat} {tp tp2 : Pos} {scope : Scope} {cl : List (Str × Addr)} {n : Nat} {vs : List Value} {J : Nat → List Value → List (Addr × Obj) → Prop} (T : Nat → List Value → Prop)
    (hh : A.handled = none) (hkind : scope.kind = .function) (hx0 : scope.names.lookup x = some .local) (hx : ∀ x ∈ namesOf elts, scope.names.lookup x.1 = some .local)
    (hel : ∀ C, (assignEach elts (compEnvC scope cl C env)).map (·.2) = (namesOf elts).map fun x => assign (.Name x.1 x.2) (compEnvC scope cl C env)) (hstar : ∀ C, (assignEach elts (compEnvC scope cl C env)).findIdx? (·.1) = none) (hnl : ∀ C, (assignEach elts (compEnvC scope cl C env)).length = (namesOf elts).length)
    (hel2 : ∀ C, (assignEach [.Name x px, .Tuple elts k tp] (compEnvC scope cl C env)).map (·.2) = [assign (.Name x px) (compEnvC scope cl C env), assign (.Tuple elts k tp) (compEnvC scope cl C env)]) (hstar2 : ∀ C, (assignEach [.Name x px, .Tuple elts k tp] (compEnvC scope cl C env)).findIdx? (·.1) = none) (hnl2 : ∀ C, (assignEach [.Name x px, .Tuple elts k tp] (compEnvC scope cl C env)).length = 2)
    (hin : ∀ i v ys nw, J i ys nw → vs[i]? = some v → ∃ a o its, v = .ref a ∧ (a, o) ∈ nw ∧ o.cls = .type "list" ∧ (∃ k, o.data = .seq its.toArray k) ∧ (namesOf elts).length = its.length ∧ T i its) :
    CAsg prog w A h₀ L env (.Tuple [.Name x px, .Tuple elts k tp] k2 tp2) scope cl n (fun i v h => ∃ T t v', v = .ref T ∧ vs[i]? = some v' ∧ h.IsTuple T #[.int (i : Int) t, v']) J
      (fun i mC => ∃ (its : List Value) (m' : Str → Option Value) (t : Tok), T i its ∧ mC = bindAll (namesOf elts) its (fun z => if z = x then some (.int (i : Int) t) else m' z)) :=
  casg_enum T hh hkind hx0 hx hel hstar hnl hel2 hstar2 hnl2 hin
theorem ent_at : ∀ (k : Nat) (ls : List Lt) (i : Nat), (ent k ls)[i]? = (ls[i]?).map fun x => (k + i, x)
  | _, [], _ => by simp [ent]
  | k, x :: r, 0 => rfl
  | k, x :: r, i + 1 => by
    show (ent (k + 1) r)[i]? = _
    rw [ent_at (k + 1) r i, List.getElem?_cons_succ, show k + 1 + i = k + (i + 1) by lia]
theorem way_path (i : Nat) (x : Lt) : wayS ((x.2.2.natAbs : Int)).toNat ++ Str.ofString "/" ++ Str.ofString (toString (i : Int)) = pathS (i, x) := by
  have e : Str.ofString (toString (i : Int)) = mkS (dig i) := mkS_of (digS i)
  rw [e, s_slash, Int.toNat_natCast]
  show mkS (47 :: 109 :: segsL (hexL x.2.2.natAbs)) ++ mkS [47] ++ mkS (dig i) = mkS (47 :: 109 :: segsL (hexL x.2.2.natAbs) ++ 47 :: dig i)
  rw [mkS_cat, mkS_cat]
  congr 1
  simp
theorem news_first {P : Prop} {h₀ h : Heap} {L a : Addr} {o : Obj} {r : List (Addr × Obj)} (N : News h₀ L h ((a, o) :: r)) (k : ∀ B ob rest, B = a → ob = o → rest = r → News h₀ L h ((B, ob) :: rest) → P) : P := k a o r rfl rfl rfl N
theorem casg_tup' {prog : Program} {w : World} {A : Around} {h₀ : Heap} {L : Addr} {env : Env} {elts : List PySem.Expr} {k : Nat} {tp : Pos} {scope : Scope} {cl : List (Str × Addr)} {n : Nat} {vs : List Value} {J : Nat → List Value → List (Addr × Obj) → Prop} (T : Nat → List Value → Prop)
    (hh : A.handled = none) (hkind : scope.kind = .function) (hx : ∀ x ∈ namesOf elts, scope.names.lookup x.1 = some .local)
    (hel : ∀ C, (assignEach elts (compEnvC scope cl C env)).map (·.2) = (namesOf elts).map fun x => assign (.Name x.1 x.2) (compEnvC scope cl C env)) (hstar : ∀ C, (assignEach elts (compEnvC scope cl C env)).findIdx? (·.1) = none) (hnl : ∀ C, (assignEach elts (compEnvC scope cl C env)).length = (namesOf elts).length)
    (hin : ∀ i v ys nw, J i ys nw → vs[i]? = some v → ∃ a o its, v = .ref a ∧ (a, o) ∈ nw ∧ o.cls = .type "list" ∧ (∃ k, o.data = .seq its.toArray k) ∧ (namesOf elts).length = its.length ∧ T i its) :
    CAsg prog w A h₀ L env (.Tuple elts k tp) scope cl n (fun i v _ => vs[i]? = some v) J (fun i mC => ∃ (its : List Value) (m' : Str → Option Value), T i its ∧ mC = bindAll (namesOf elts) its m') :=
  casg_tup T hh hkind hx hel hstar hnl hin
noncomputable def row_its (tr : List (Value × En)) (i : Nat) (its : List Value) : Prop := ∃ p t1 t2 t3 t4, tr[i]? = some p ∧ its = [.int p.2.2.1 t1, .int (-p.2.2.2.1) t2, .str (pathS p.2) t3, .int (p.2.2.2.2.natAbs : Int) t4]
theorem row_at {rest : List (Addr × Obj)} {tr : List (Value × En)} (h : RowP rest tr) {i : Nat} {v : Value} (hv : (tr.map (·.1))[i]? = some v) : ∃ p a n t1 t2 t3 t4, tr[i]? = some p ∧ v = .ref a ∧ (a, listOf #[.int p.2.2.1 t1, .int (-p.2.2.2.1) t2, .str (pathS p.2) t3, .int (p.2.2.2.2.natAbs : Int) t4] n) ∈ rest := by
  rw [List.getElem?_map] at hv
  cases hp : tr[i]? with
  | none => rw [hp] at hv; cases hv
  | some p =>
    rw [hp] at hv
    obtain ⟨a, n, t1, t2, t3, t4, e, hm⟩ := h p (List.mem_of_getElem? hp)
    have e2 : p.1 = v := by simpa using hv
    exact ⟨p, a, n, t1, t2, t3, t4, rfl, e2.symm.trans e, hm⟩
theorem name_cells {P : Prop} {h₀ h : Heap} {L a1 a2 a3 a4 c1 c2 : Addr} {p1 p2 p3 p4 x1 x2 : Obj} {r : List (Addr × Obj)} (N : News h₀ L h ((a1, p1) :: (a2, p2) :: (a3, p3) :: (a4, p4) :: (c1, x1) :: (c2, x2) :: r))
    (k : ∀ y1 y2, y1 = x1 → y2 = x2 → News h₀ L h ((a3, p3) :: (a4, p4) :: (c1, y1) :: (c2, y2) :: r) → P) : P := k x1 x2 rfl rfl fun p hp => N p (.tail _ (.tail _ hp))
theorem fr_cut {h₀ h : Heap} {L : Addr} {m : Str → Option Value} {x x1 x2 x3 x4 : Str} {v v1 v2 v3 v4 : Value} (F : Fr h₀ L h (fun y => if y = x then some v else m y)) (n1 : x1 ≠ x) (n2 : x2 ≠ x) (n3 : x3 ≠ x) (n4 : x4 ≠ x) (h1 : m x1 = some v1) (h2 : m x2 = some v2) (h3 : m x3 = some v3) (h4 : m x4 = some v4) :
    Fr h₀ L h (fun y => if y = x then some v else if y = x1 then some v1 else if y = x2 then some v2 else if y = x3 then some v3 else if y = x4 then some v4 else m y) := by
  refine fr_map F fun y => ?_
  by_cases e : y = x
  · rw [if_pos e, if_pos e]
  rw [if_neg e, if_neg e]
  by_cases e1 : y = x1
  · rw [if_pos e1, e1, h1]
  rw [if_neg e1]
  by_cases e2 : y = x2
  · rw [if_pos e2, e2, h2]
  rw [if_neg e2]
  by_cases e3 : y = x3
  · rw [if_pos e3, e3, h3]
  rw [if_neg e3]
  by_cases e4 : y = x4
  · rw [if_pos e4, e4, h4]
  rw [if_neg e4]
structure DueA (L' : Addr) (o1 o2 o3 : Obj) (news : List (Addr × Obj)) (ls : List Lt) (i : Nat) (ys : List Value) (nw r : List (Addr × Obj)) (tr : List (Value × En)) : Prop where
  b1 : nw = (L' + 1 + 1 + 1, o1) :: (L' + 1 + 1, o2) :: (L' + 1, o3) :: r
  b2 : ∀ p ∈ news, p ∈ r
  b3 : ∀ p ∈ r, p.1 ≠ L' + 1 + 1 + 1 ∧ p.1 ≠ L' + 1 + 1 ∧ p.1 ≠ L' + 1
  b4 : ys.length = i
  b5 : ys = tr.map (·.1)
  b6 : tr.map (·.2) = (ent 0 ls).take i
  b7 : RowP r tr
structure DueB (L' CA SD : Addr) (tr' : List (Value × En)) (se : Nat) (r : List (Addr × Obj)) (w : World) (t12 : Tok) (c : Nat) (so : List En) (i : Nat) (m₁ : Str → Option Value) (nx : List (Addr × Obj)) (oN oC : Obj) (v : Option Value) : Prop where
  b1 : m₁ (Str.ofString "charges") = some (.ref CA)
  b2 : m₁ (Str.ofString "many") = some (.int (c : Int) t12)
  b3 : m₁ (Str.ofString "row") = some (.ref SD)
  b4 : nx = (L' + 1, oN) :: (CA, oC) :: (SD, listOf (List.map (fun x => x.1) tr').toArray se) :: r
  b5 : oN.data = .cell v
  b6 : DObj PG w oC (dueF ((so.drop c).take i))
structure DueC (L' CA SD : Addr) (tr' : List (Value × En)) (se : Nat) (r own : List (Addr × Obj)) (w : World) (t2 t12 : Tok) (c : Nat) (so : List En) (i q : Nat) (p : Value × En) (oN2 : Obj) (j : Nat) (m₁ : Str → Option Value) (nx : List (Addr × Obj)) (oC' : Obj) : Prop where
  b1 : m₁ (Str.ofString "charges") = some (.ref CA)
  b2 : m₁ (Str.ofString "less") = some (.int (-p.2.2.2.1) t2)
  b3 : m₁ (Str.ofString "many") = some (.int (c : Int) t12)
  b4 : m₁ (Str.ofString "row") = some (.ref SD)
  b5 : nx = (CA, oC') :: (L' + 1, oN2) :: (SD, listOf (List.map (fun x => x.1) tr').toArray se) :: (r ++ own)
  b6 : DObj PG w oC' (addsC p.2.2.2.1 (dueF ((so.drop c).take i)) ((cuts q).take j))
theorem name_two {P : Prop} {h₀ h : Heap} {L a b : Addr} {o1 o2 : Obj} {r : List (Addr × Obj)} (N : News h₀ L h ((a, o1) :: (b, o2) :: r)) (k : ∀ x y z, x = a → y = b → z = o2 → P) : P := k a b o2 rfl rfl rfl
section
variable {w : World} {mean : ExcName → Option Value} {mg mb : Str → Option Value} {dp un : Nat} {gd : Option (List Code)} {cn : Str} {cs : Scope} {a : Addr} {ccd : Value} {cl : List (Str × Addr)} {outer : List Env} {A₀ : Around} {base h₀ : Heap} {L : Addr} {m : Str → Option Value} {news : List (Addr × Obj)} {s : Shared} {Q E : Value → Shared → Prop}

theorem due_tells {LA : Addr} {n : Nat} {lv : List Value} {ls : List Lt}
  (B : Below A₀ base outer h₀) (F : Fr h₀ L s.heap m) (X : (_root_.Mine.hd.heap_1 w.params).In h₀) (N : News h₀ L s.heap news) (T : Top _root_.Mine.hd.view_1 (looseW _root_.Mine.hd.view_1 []) mean mg mb h₀) (hk : cs.kind = .function)
  (hd : dp + 20 < recursionLimit) (hu : un + 400 < cLine) (hLA : (LA, listOf lv.toArray n) ∈ news) (hls : LetsAt news lv ls) (hlen : ls.length ≤ 11) (hsz : ∀ x ∈ ls, 1 ≤ x.2.1 ∧ x.2.1 ≤ 8) (hnm : ∀ x ∈ ls, x.2.2.natAbs < 16 ^ 12)
  (hret : ∀ v h' tk' nw fs so, SoOK ls so → Fr h₀ L h' m → News h₀ L h' (nw ++ news) → ResAt nw v ((so.take (cut so (halfOf ls))).map pathS) fs → fs.Perm (dueF (so.drop (cut so (halfOf ls)))) → PSorted fs → Q v { s with heap := h', toks := tk' }) :
    wpAny (model PG w) (ktrTop dp un gd cn cs L a ccd cl outer) (call (.ref 209) [.ref LA]) Q E s := by
  (w_top off; have dummyFill : (∀ (_ : PySem.Challenge.rw_il0059_01 = PySem.Challenge.rw_il0059_01) (_ : _root_.Mine.hd.heap_1 = _root_.Mine.hd.heap_1), True) := (by k_fill; intros; trivial); clear dummyFill)
  refine wpAny_call ?_
  k_dflt (refine' code_defC ?k1 ?k2 ?k3 ?k4 ?k5 ?kA ?kF ?kK ?k6 ?k7 ?k8 ?k9 ?kB ?kD ?_ ?c2 ?c3 ?c4; (case kA => exact rfl); (case kF => exact rfl); (case kK => assumption); (case k1 => k_asm); (case k2 => k_asm); (case k3 => k_asm); (case k4 => k_asm); (case k5 => k_asm); (case k6 => k_is); (case k7 => k_is); (case k8 => first | exact rm0 hd | ktr_room); (case k9 => exact BindsTo.of_eq rfl); (case kB => exact rfl); (case kD => decide +kernel); (case c2 => exact rfl); (case c3 => exact rfl); (case c4 => exact rfl); k_whole; intro g' L' h' tk' cells' FG' F' N' Y' B' X' T' l1; (try k_lt l1); k_cells Y'; (try simp only [List.cons_append, List.nil_append] at N'); (try dsimp only); (try k_fold))
  (with_reducible rename Fr _ _ _ _ => F0)
  (with_reducible rename News _ _ _ _ => N0)
  refine name3 N0 ?_
  intro o1 o2 o3 e1 e2 e3
  subst e1 e2 e3
  have d1 : o1.data = .cell none := by assumption
  have d2 : o2.data = .cell none := by assumption
  have d3 : o3.data = .cell none := by assumption
  have F1 : Fr g' L' h' (fun y => if y = Str.ofString "letters" then some (.ref LA) else none) := F0
  clear F0
  have hnl : ∀ p ∈ news, p.1 ≠ L' + 1 + 1 + 1 ∧ p.1 ≠ L' + 1 + 1 ∧ p.1 ≠ L' + 1 := fun p hp => by
    exact ne123 ((by assumption : ∀ p ∈ news, p.1 < L') p hp)
  (repeat' ((fail_if_success (with_reducible first | show wpAny _ _ (pyIter _) _ _ _ | show wpAny _ _ (exec (Stmt.While _ _ _ _) _) _ _ _ | show wpAny _ _ (exec (Stmt.For _ _ _ _ _) _) _ _ _ | show TurnEnd _ _ _ _ _ _ _ | show TurnPost _ _ _ _ _ _ _ _ _ | show WhileStep _ _ _ _ _ _ _ | show WhileStep2 _ _ _ _ _ _ _ _ | show wpAny _ _ (eval (Expr.ListComp _ _ _ _) _) _ _ _ | show wpAny _ _ (exec (Stmt.Assign _ (Expr.ListComp _ _ _ _) _) _) _ _ _ | show wpAny _ _ (call (Value.builtin "sorted") _) _ _ _ | show wpAny _ _ (call (Value.builtin "sum") _) _ _ _ | show wpAny _ _ (call (Value.type "enumerate") _) _ _ _ | show wpAny _ _ (call (Value.type "range") _) _ _ _ | show wpAny _ _ (binaryOp _ (Value.ref _) (Value.ref _)) _ _ _ | show wpAny _ _ (call (Value.ref _) (Value.ref _ :: _)) _ _ _ | show wpAny _ _ (call (Value.ref 178) _) _ _ _)); first | ((with_reducible refine' isq_back ?e9 ?_); (case e9 => with_reducible assumption); (try dsimp only)) | ((with_reducible show wpAny _ _ (exec _ _) _ _ _); (refine gen_exec ?_); intro P9 hP9; walk1) | (k_unfold; (try dsimp only)) | (with_reducible (k_here; (with_reducible show wpAny _ _ (subscriptTail _ (PySem.Expr.Slice none (some _) none _) (Value.ref _) (Value.ref _)) _ _ _); k_dflt (refine' vst_upto ?qF ?qN ?ql ?qz ?_ ?qs ?qt; (case qF => k_asm); (case qN => k_asm); (case ql => k_mem); (case qz => assumption); (case qs => with_unfolding_all rfl); (case qt => kmk_pure)); intro D' h' F' N' l1; (try k_lt l1); (try k_sweep))) | (with_reducible (k_here; (with_reducible show wpAny _ _ (subscriptTail _ (PySem.Expr.Slice (some _) none none _) (Value.ref _) (Value.ref _)) _ _ _); k_dflt (refine' vst_from ?qF ?qN ?ql ?qz ?_ ?qs ?qt; (case qF => k_asm); (case qN => k_asm); (case ql => k_mem); (case qz => assumption); (case qs => with_unfolding_all rfl); (case qt => kmk_pure)); intro D' h' F' N' l1; (try k_lt l1); (try k_sweep))) | (with_reducible (k_here; (with_reducible show wpAny _ _ (call (Value.builtin "len") [Value.ref _]) _ _ _); (k_dflt (refine' vst_len ?qk1 ?qk2 ?qk4 ?_; (case qk1 => k_asm); (case qk2 => k_mem); (case qk4 => assumption); k_whole)); intro _ _)) | (with_reducible ((with_reducible show wpAny _ _ (binaryOp Operator.FloorDiv (Value.int _ _) (Value.int _ _)) _ _ _); (k_here; (refine div_pow (by assumption) ?_); intro _ _))) | (with_reducible ((with_reducible show wpAny _ _ (setItem (Value.ref _) (Value.str _ _) _) _ _ _); (k_here; (k_dflt (refine' dct_set ?qF ?qN ?qk2 ?qk3 ?qk4 ?_; (case qF => k_asm); (case qN => k_asm); (case qk2 => assumption); (case qk3 => assumption); (case qk4 => assumption); k_whole)); intro h' o' k' F' N' hd'))) | (with_reducible ((with_reducible show wpAny _ _ (call (Value.builtin "dict.get") _) _ _ _); (k_here; (k_dflt (refine' dct_get ?qk1 ?qk2 ?qk3 ?qk4 ?_; (case qk1 => k_asm); (case qk2 => k_mem); (case qk3 => assumption); (case qk4 => assumption); k_whole)); intro _ _))) | (with_reducible ((with_reducible show wpAny _ _ (call (Value.builtin "dict.items") _) _ _ _); (k_here; (k_dflt (refine' dct_items ?qF ?qN ?qk2 ?qk3 ?qk4 ?_; (case qF => k_asm); (case qN => k_asm); (case qk2 => k_mem); (case qk3 => assumption); (case qk4 => assumption); k_whole)); intro V' h' hv' F' N'))) | (with_reducible ((with_reducible show wpAny _ _ (getMethod (Value.ref _) _ _) _ _ _); (k_here; (k_dflt (refine' dct_items_method ?qk1 ?qk2 ?qk3 ?_; (case qk1 => k_asm); (case qk2 => k_mem); (case qk3 => assumption); k_whole))))) | (with_reducible ((with_reducible show wpAny _ _ (getMethod (Value.ref _) _ _) _ _ _); (k_here; (k_dflt (refine' dct_method ?qk1 ?qk2 ?qk3 ?_; (case qk1 => k_asm); (case qk2 => k_mem); (case qk3 => assumption); k_whole))))) | (with_reducible (k_here; (with_reducible show wpAny _ _ (call (Value.ref 204) [Value.int _ _]) _ _ _); k_dflt (refine' way_tells ?qB ?qF ?qX ?qN ?qT ?qhk ?qhd ?qhu ?qhk1 ?qhk2 ?_; (  (case qB => k_asm); (case qF => k_asm); (case qX => k_asm); (case qN => k_asm); (case qT => k_asm); (case qhk => first | exact rfl | assumption); (case qhd => ktr_room); (case qhu => ktr_units)); (case qhk1 => (first | (with_reducible assumption) | omega | assumption)); (case qhk2 => (first | (with_reducible assumption) | omega | assumption)); k_whole); intro t' h' tk' F' N'; (try k_sweep))) | walk1 | (dsimp only; walk1)))
  (with_reducible rename Fr _ _ _ _ => F2)
  (with_reducible rename News _ _ _ _ => N2)
  k_dflt (refine' comp_eval F2 ?c1 ?c2 ?c3 ?c4 ?_; (case c1 => with_unfolding_all rfl); (case c2 => decide); (case c3 => exact rfl); (case c4 => decide))
  (repeat' ((fail_if_success (with_reducible first | show wpAny _ _ (pyIter _) _ _ _ | show wpAny _ _ (exec (Stmt.While _ _ _ _) _) _ _ _ | show wpAny _ _ (exec (Stmt.For _ _ _ _ _) _) _ _ _ | show TurnEnd _ _ _ _ _ _ _ | show TurnPost _ _ _ _ _ _ _ _ _ | show WhileStep _ _ _ _ _ _ _ | show WhileStep2 _ _ _ _ _ _ _ _ | show wpAny _ _ (eval (Expr.ListComp _ _ _ _) _) _ _ _ | show wpAny _ _ (exec (Stmt.Assign _ (Expr.ListComp _ _ _ _) _) _) _ _ _ | show wpAny _ _ (call (Value.builtin "sorted") _) _ _ _ | show wpAny _ _ (call (Value.builtin "sum") _) _ _ _ | show wpAny _ _ (call (Value.type "enumerate") _) _ _ _ | show wpAny _ _ (call (Value.type "range") _) _ _ _ | show wpAny _ _ (binaryOp _ (Value.ref _) (Value.ref _)) _ _ _ | show wpAny _ _ (call (Value.ref _) (Value.ref _ :: _)) _ _ _ | show wpAny _ _ (call (Value.ref 178) _) _ _ _)); first | ((with_reducible refine' isq_back ?e9 ?_); (case e9 => with_reducible assumption); (try dsimp only)) | ((with_reducible show wpAny _ _ (exec _ _) _ _ _); (refine gen_exec ?_); intro P9 hP9; walk1) | (k_unfold; (try dsimp only)) | (with_reducible (k_here; (with_reducible show wpAny _ _ (subscriptTail _ (PySem.Expr.Slice none (some _) none _) (Value.ref _) (Value.ref _)) _ _ _); k_dflt (refine' vst_upto ?qF ?qN ?ql ?qz ?_ ?qs ?qt; (case qF => k_asm); (case qN => k_asm); (case ql => k_mem); (case qz => assumption); (case qs => with_unfolding_all rfl); (case qt => kmk_pure)); intro D' h' F' N' l1; (try k_lt l1); (try k_sweep))) | (with_reducible (k_here; (with_reducible show wpAny _ _ (subscriptTail _ (PySem.Expr.Slice (some _) none none _) (Value.ref _) (Value.ref _)) _ _ _); k_dflt (refine' vst_from ?qF ?qN ?ql ?qz ?_ ?qs ?qt; (case qF => k_asm); (case qN => k_asm); (case ql => k_mem); (case qz => assumption); (case qs => with_unfolding_all rfl); (case qt => kmk_pure)); intro D' h' F' N' l1; (try k_lt l1); (try k_sweep))) | (with_reducible (k_here; (with_reducible show wpAny _ _ (call (Value.builtin "len") [Value.ref _]) _ _ _); (k_dflt (refine' vst_len ?qk1 ?qk2 ?qk4 ?_; (case qk1 => k_asm); (case qk2 => k_mem); (case qk4 => assumption); k_whole)); intro _ _)) | (with_reducible ((with_reducible show wpAny _ _ (binaryOp Operator.FloorDiv (Value.int _ _) (Value.int _ _)) _ _ _); (k_here; (refine div_pow (by assumption) ?_); intro _ _))) | (with_reducible ((with_reducible show wpAny _ _ (setItem (Value.ref _) (Value.str _ _) _) _ _ _); (k_here; (k_dflt (refine' dct_set ?qF ?qN ?qk2 ?qk3 ?qk4 ?_; (case qF => k_asm); (case qN => k_asm); (case qk2 => assumption); (case qk3 => assumption); (case qk4 => assumption); k_whole)); intro h' o' k' F' N' hd'))) | (with_reducible ((with_reducible show wpAny _ _ (call (Value.builtin "dict.get") _) _ _ _); (k_here; (k_dflt (refine' dct_get ?qk1 ?qk2 ?qk3 ?qk4 ?_; (case qk1 => k_asm); (case qk2 => k_mem); (case qk3 => assumption); (case qk4 => assumption); k_whole)); intro _ _))) | (with_reducible ((with_reducible show wpAny _ _ (call (Value.builtin "dict.items") _) _ _ _); (k_here; (k_dflt (refine' dct_items ?qF ?qN ?qk2 ?qk3 ?qk4 ?_; (case qF => k_asm); (case qN => k_asm); (case qk2 => k_mem); (case qk3 => assumption); (case qk4 => assumption); k_whole)); intro V' h' hv' F' N'))) | (with_reducible ((with_reducible show wpAny _ _ (getMethod (Value.ref _) _ _) _ _ _); (k_here; (k_dflt (refine' dct_items_method ?qk1 ?qk2 ?qk3 ?_; (case qk1 => k_asm); (case qk2 => k_mem); (case qk3 => assumption); k_whole))))) | (with_reducible ((with_reducible show wpAny _ _ (getMethod (Value.ref _) _ _) _ _ _); (k_here; (k_dflt (refine' dct_method ?qk1 ?qk2 ?qk3 ?_; (case qk1 => k_asm); (case qk2 => k_mem); (case qk3 => assumption); k_whole))))) | (with_reducible (k_here; (with_reducible show wpAny _ _ (call (Value.ref 204) [Value.int _ _]) _ _ _); k_dflt (refine' way_tells ?qB ?qF ?qX ?qN ?qT ?qhk ?qhd ?qhu ?qhk1 ?qhk2 ?_; (  (case qB => k_asm); (case qF => k_asm); (case qX => k_asm); (case qN => k_asm); (case qT => k_asm); (case qhk => first | exact rfl | assumption); (case qhd => ktr_room); (case qhu => ktr_units)); (case qhk1 => (first | (with_reducible assumption) | omega | assumption)); (case qhk2 => (first | (with_reducible assumption) | omega | assumption)); k_whole); intro t' h' tk' F' N'; (try k_sweep))) | walk1 | (dsimp only; walk1)))
  (with_reducible rename Fr _ _ _ _ => F3)
  (with_reducible rename News _ _ _ _ => N3)
  have hLA1 := N3 _ (.tail _ (.tail _ (.tail _ hLA)))
  k_dflt refine' comp_enum (vs := lv) (fun i ys nw => ∃ r tr, DueA L' o1 o2 o3 news ls i ys nw r tr)
    (fun i mC => ∃ x t1 t2 t3 t4, ls[i]? = some x ∧ mC (Str.ofString "place") = some (.int (i : Int) t4) ∧ mC (Str.ofString "age") = some (.int x.1 t1) ∧ mC (Str.ofString "size") = some (.int x.2.1 t2) ∧ mC (Str.ofString "number") = some (.int x.2.2 t3)) ?hh ?hl ?hlL F3 N3 ?hsz2 ?hlen2 ?h0 ?asg ?step ?fin
  case hh => exact rfl
  case hl => exact ⟨_, hLA1.1, rfl, n, rfl⟩
  case hlL => exact hLA1.2.1
  case hsz2 => rw [hls.len, sizeLine_eq]; (clear hLA1 hnl F3 d3 d2 d1 N3 l1 T' X' B' FG' hret hnm hsz hls hLA hu hd hk T N X F B; lia)
  case hlen2 => rintro i ys nw ⟨r, tr, h⟩; exact Nat.le_of_eq h.b4
  case h0 => exact ⟨_, [], rfl, fun _ h => h, hnl, rfl, rfl, rfl, fun p hp => by cases hp⟩
  case asg =>
    refine CAsg.mono (casg_enum' (fun i its => ∃ x t1 t2 t3, ls[i]? = some x ∧ its = [.int x.1 t1, .int x.2.1 t2, .int x.2.2 t3]) ?h1 ?h2 ?h3 ?h4 ?h5 ?h6 ?h7 ?h8 ?h9 ?h10 ?hin) ?mono
    case h1 => exact rfl
    case h2 => exact rfl
    case h3 => decide
    case h4 => decide
    case h5 => exact fun C => rfl
    case h6 => exact fun C => rfl
    case h7 => exact fun C => rfl
    case h8 => exact fun C => rfl
    case h9 => exact fun C => rfl
    case h10 => exact fun C => rfl
    case hin =>
      rintro i v ys nw ⟨r, tr, rfl, hb, _, _, _, _, _⟩ hv
      obtain ⟨a, n, t1, t2, t3, x, rfl, hx, hm⟩ := hls.at hv
      exact ⟨a, _, _, rfl, .tail _ (.tail _ (.tail _ (hb _ hm))), rfl, ⟨n, rfl⟩, rfl, x, t1, t2, t3, hx, rfl⟩
    case mono =>
      rintro i mC ⟨its, m', t, ⟨x, t1, t2, t3, hx, rfl⟩, rfl⟩
      exact ⟨x, t1, t2, t3, t, hx, rfl, rfl, rfl, rfl⟩
  case step =>
    rintro s' I hlt i ys nw own h₁ tk₁ C oC mC D E' hi ⟨r, tr, rfl, hbase, hrne, hyl, rfl, htr, hrp⟩ ⟨x, t1, t2, t3, t4, hx, hm1, hm2, hm3, hm4⟩ hoff hown hwr hCD F₁ hoC N₁
    have hxl : x ∈ ls := List.mem_of_getElem? hx
    have hxn := hnm x hxl
    have hi12 : i < 12 := by rw [hls.len] at hi; (clear hxn hxl N₁ hoC F₁ hCD hwr hown hoff hm4 hm3 hm2 hm1 hx hrp htr hrne hbase hlt hLA1 hnl F3 d3 d2 d1 N3 l1 T' X' B' FG' hret hnm hsz hls hLA hu hd hk T N X F B; lia)
    have hab : (if x.2.2 < 0 then -x.2.2 else x.2.2) = (x.2.2.natAbs : Int) := by split <;> (clear hi12 hxn hxl N₁ hoC F₁ hCD hwr hown hoff hm4 hm3 hm2 hm1 hx hyl hrp htr hrne hbase hi hlt hLA1 hnl F3 d3 d2 d1 N3 l1 T' X' B' FG' hret hnm hsz hlen hls hLA hu hd hk T N X F B; lia)
    have hab1 : 0 ≤ (if x.2.2 < 0 then -x.2.2 else x.2.2) := by rw [hab]; (clear hi12 hxn hxl N₁ hoC F₁ hCD hwr hown hoff hm4 hm3 hm2 hm1 hx hyl hrp htr hrne hbase hi hlt hLA1 hnl F3 d3 d2 d1 N3 l1 T' X' B' FG' hret hnm hsz hlen hls hLA hu hd hk T N X F B; lia)
    have hab2 : (if x.2.2 < 0 then -x.2.2 else x.2.2) < 16 ^ 12 := by rw [hab]; (clear hi12 hxl N₁ hoC F₁ hCD hwr hown hoff hm4 hm3 hm2 hm1 hx hyl hrp htr hrne hbase hi hlt hLA1 hnl F3 d3 d2 d1 N3 l1 T' X' B' FG' hret hnm hsz hlen hls hLA hu hd hk T N X F B; lia)
    have hwl : (wayS (if x.2.2 < 0 then -x.2.2 else x.2.2).toNat).length ≤ 100 := by
      rw [hab]
      have := hexL_len 12 _ hxn
      have h2 := foldS_len (hexL x.2.2.natAbs)
      show (foldS (hexL x.2.2.natAbs)).length ≤ 100
      (clear hab2 hab1 hab hi12 hxn hxl N₁ hoC F₁ hCD hwr hown hoff hm4 hm3 hm2 hm1 hx hyl hrp htr hrne hbase hi hlt hLA1 hnl F3 d3 d2 d1 N3 l1 T' X' B' FG' hret hnm hsz hlen hls hLA hu hd hk T N X F B; lia)
    have hsl : (Str.ofString (toString (i : Int))).length ≤ 100 := (dig_ok hi12).1
    replace N₁ : News g' _ h₁ ((C, oC) :: (D, lst (List.map (fun x => x.1) tr)) :: (L' + 1 + 1 + 1, o1) :: (L' + 1 + 1, o2) :: (L' + 1, o3) :: (r ++ own)) := N₁
    refine tst_nil ?_
    rw [if_pos rfl]
    have hpath : wayS (if x.2.2 < 0 then -x.2.2 else x.2.2).toNat ++ Str.ofString "/" ++ Str.ofString (toString (i : Int)) = pathS (i, x) := by
      rw [hab]
      exact way_path i x
    (repeat' ((fail_if_success (with_reducible first | show wpAny _ _ (pyIter _) _ _ _ | show wpAny _ _ (exec (Stmt.While _ _ _ _) _) _ _ _ | show wpAny _ _ (exec (Stmt.For _ _ _ _ _) _) _ _ _ | show TurnEnd _ _ _ _ _ _ _ | show TurnPost _ _ _ _ _ _ _ _ _ | show WhileStep _ _ _ _ _ _ _ | show WhileStep2 _ _ _ _ _ _ _ _ | show wpAny _ _ (eval (Expr.ListComp _ _ _ _) _) _ _ _ | show wpAny _ _ (exec (Stmt.Assign _ (Expr.ListComp _ _ _ _) _) _) _ _ _ | show wpAny _ _ (call (Value.builtin "sorted") _) _ _ _ | show wpAny _ _ (call (Value.builtin "sum") _) _ _ _ | show wpAny _ _ (call (Value.type "enumerate") _) _ _ _ | show wpAny _ _ (call (Value.type "range") _) _ _ _ | show wpAny _ _ (binaryOp _ (Value.ref _) (Value.ref _)) _ _ _ | show wpAny _ _ (call (Value.ref _) (Value.ref _ :: _)) _ _ _ | show wpAny _ _ (call (Value.ref 178) _) _ _ _)); first | ((with_reducible refine' isq_back ?e9 ?_); (case e9 => with_reducible assumption); (try dsimp only)) | ((with_reducible show wpAny _ _ (exec _ _) _ _ _); (refine gen_exec ?_); intro P9 hP9; walk1) | (k_unfold; (try dsimp only)) | (with_reducible (k_here; (with_reducible show wpAny _ _ (subscriptTail _ (PySem.Expr.Slice none (some _) none _) (Value.ref _) (Value.ref _)) _ _ _); k_dflt (refine' vst_upto ?qF ?qN ?ql ?qz ?_ ?qs ?qt; (case qF => k_asm); (case qN => k_asm); (case ql => k_mem); (case qz => assumption); (case qs => with_unfolding_all rfl); (case qt => kmk_pure)); intro D' h' F' N' l1; (try k_lt l1); (try k_sweep))) | (with_reducible (k_here; (with_reducible show wpAny _ _ (subscriptTail _ (PySem.Expr.Slice (some _) none none _) (Value.ref _) (Value.ref _)) _ _ _); k_dflt (refine' vst_from ?qF ?qN ?ql ?qz ?_ ?qs ?qt; (case qF => k_asm); (case qN => k_asm); (case ql => k_mem); (case qz => assumption); (case qs => with_unfolding_all rfl); (case qt => kmk_pure)); intro D' h' F' N' l1; (try k_lt l1); (try k_sweep))) | (with_reducible (k_here; (with_reducible show wpAny _ _ (call (Value.builtin "len") [Value.ref _]) _ _ _); (k_dflt (refine' vst_len ?qk1 ?qk2 ?qk4 ?_; (case qk1 => k_asm); (case qk2 => k_mem); (case qk4 => assumption); k_whole)); intro _ _)) | (with_reducible ((with_reducible show wpAny _ _ (binaryOp Operator.FloorDiv (Value.int _ _) (Value.int _ _)) _ _ _); (k_here; (refine div_pow (by assumption) ?_); intro _ _))) | (with_reducible ((with_reducible show wpAny _ _ (setItem (Value.ref _) (Value.str _ _) _) _ _ _); (k_here; (k_dflt (refine' dct_set ?qF ?qN ?qk2 ?qk3 ?qk4 ?_; (case qF => k_asm); (case qN => k_asm); (case qk2 => assumption); (case qk3 => assumption); (case qk4 => assumption); k_whole)); intro h' o' k' F' N' hd'))) | (with_reducible ((with_reducible show wpAny _ _ (call (Value.builtin "dict.get") _) _ _ _); (k_here; (k_dflt (refine' dct_get ?qk1 ?qk2 ?qk3 ?qk4 ?_; (case qk1 => k_asm); (case qk2 => k_mem); (case qk3 => assumption); (case qk4 => assumption); k_whole)); intro _ _))) | (with_reducible ((with_reducible show wpAny _ _ (call (Value.builtin "dict.items") _) _ _ _); (k_here; (k_dflt (refine' dct_items ?qF ?qN ?qk2 ?qk3 ?qk4 ?_; (case qF => k_asm); (case qN => k_asm); (case qk2 => k_mem); (case qk3 => assumption); (case qk4 => assumption); k_whole)); intro V' h' hv' F' N'))) | (with_reducible ((with_reducible show wpAny _ _ (getMethod (Value.ref _) _ _) _ _ _); (k_here; (k_dflt (refine' dct_items_method ?qk1 ?qk2 ?qk3 ?_; (case qk1 => k_asm); (case qk2 => k_mem); (case qk3 => assumption); k_whole))))) | (with_reducible ((with_reducible show wpAny _ _ (getMethod (Value.ref _) _ _) _ _ _); (k_here; (k_dflt (refine' dct_method ?qk1 ?qk2 ?qk3 ?_; (case qk1 => k_asm); (case qk2 => k_mem); (case qk3 => assumption); k_whole))))) | (with_reducible (k_here; (with_reducible show wpAny _ _ (call (Value.ref 204) [Value.int _ _]) _ _ _); k_dflt (refine' way_tells ?qB ?qF ?qX ?qN ?qT ?qhk ?qhd ?qhu ?qhk1 ?qhk2 ?_; (  (case qB => k_asm); (case qF => k_asm); (case qX => k_asm); (case qN => k_asm); (case qT => k_asm); (case qhk => first | exact rfl | assumption); (case qhd => ktr_room); (case qhu => ktr_units)); (case qhk1 => (first | (with_reducible assumption) | omega | assumption)); (case qhk2 => (first | (with_reducible assumption) | omega | assumption)); k_whole); intro t' h' tk' F' N'; (try k_sweep))) | walk1 | (dsimp only; walk1)))
    rw [hpath, hab] at *
    (with_reducible rename Fr _ _ _ _ => F10)
    (with_reducible rename News _ _ _ _ => N10)
    refine news_first N10 fun B2 ob rest2 e1 eob e2 N11 => ?_
    subst e1
    have hob : ∃ u1 u2 u3 u4, ob = listOf #[.int x.1 u1, .int (-x.2.1) u2, .str (pathS (i, x)) u3, .int (x.2.2.natAbs : Int) u4] 0 := ⟨_, _, _, _, eob⟩
    clear eob
    have hB2 : C < B2 ∧ D < B2 ∧ L' + 1 + 1 + 1 < B2 ∧ L' + 1 + 1 < B2 ∧ L' + 1 < B2 ∧ AllLt B2 (r ++ own) := by assumption
    have hB2ne := allLt_ne hB2.2.2.2.2.2
    refine cend (news₁ := (L' + 1 + 1 + 1, o1) :: (L' + 1 + 1, o2) :: (L' + 1, o3) :: (B2, ob) :: r) F10 hoC (fun p hp => N11 p ?_) (fun p hp => ?_) ⟨(B2, ob) :: r, tr ++ [(.ref B2, (i, x))], rfl, fun p hp => .tail _ (hbase p hp), fun p hp => ?_, by rw [List.length_append, hyl]; rfl, by rw [List.map_append]; rfl, ?_, ?_⟩
    · rw [e2]
      rcases mem3 hp with rfl | rfl | hp
      · exact .tail _ (.head _)
      · exact .tail _ (.tail _ (.head _))
      · rcases mem3 hp with rfl | rfl | hp
        · exact .tail _ (.tail _ (.tail _ (.head _)))
        · exact .tail _ (.tail _ (.tail _ (.tail _ (.head _))))
        · rcases mem3 hp with rfl | rfl | hp
          · exact .tail _ (.tail _ (.tail _ (.tail _ (.tail _ (.head _)))))
          · exact .head _
          · exact .tail _ (.tail _ (.tail _ (.tail _ (.tail _ (.tail _ hp)))))
    · rcases mem3 hp with rfl | rfl | hp
      · exact hoff _ (.head _)
      · exact hoff (L' + 1 + 1, o2) (.tail _ (.head _))
      · rcases mem3 hp with rfl | rfl | hp
        · exact hoff (L' + 1, o3) (.tail _ (.tail _ (.head _)))
        · obtain ⟨oI, hoI⟩ := hwr I (.tail _ (.head _))
          obtain ⟨oI2, hoI2⟩ := hwr (I + 1) (.head _)
          refine ⟨fun h => ?_, Nat.ne_of_gt hB2.1, Nat.ne_of_gt hB2.2.1⟩
          rcases List.mem_cons.mp h with h | h
          · exact hB2ne _ (List.mem_append_right _ hoI2) h.symm
          · exact hB2ne _ (List.mem_append_right _ hoI) (List.mem_singleton.mp h).symm
        · exact hoff p (.tail _ (.tail _ (.tail _ hp)))
    · rcases List.mem_cons.mp hp with rfl | hp
      · exact ⟨Nat.ne_of_gt hB2.2.2.1, Nat.ne_of_gt hB2.2.2.2.1, Nat.ne_of_gt hB2.2.2.2.2.1⟩
      · exact hrne p hp
    · rw [List.map_append, htr, List.take_add_one, ent_at, hx, Nat.zero_add]; rfl
    · intro p hp
      rcases List.mem_append.mp hp with hp | hp
      · exact hrp.grow (fun q hq => .tail _ hq) p hp
      · rw [List.mem_singleton.mp hp]
        obtain ⟨u1, u2, u3, u4, rfl⟩ := hob
        exact ⟨B2, 0, u1, u2, u3, u4, rfl, .head _⟩
  case fin =>
    rintro s9 hs9 ys nw ⟨r, tr, rfl, hbase, hrne, hyl, rfl, htr, hrp⟩ D5 h5 tk5 F5 N5 hD5
    rw [hs9]
    rw [hls.len, ← ent_len 0 ls, List.take_length] at htr
    (repeat' ((fail_if_success (with_reducible first | show wpAny _ _ (pyIter _) _ _ _ | show wpAny _ _ (exec (Stmt.While _ _ _ _) _) _ _ _ | show wpAny _ _ (exec (Stmt.For _ _ _ _ _) _) _ _ _ | show TurnEnd _ _ _ _ _ _ _ | show TurnPost _ _ _ _ _ _ _ _ _ | show WhileStep _ _ _ _ _ _ _ | show WhileStep2 _ _ _ _ _ _ _ _ | show wpAny _ _ (eval (Expr.ListComp _ _ _ _) _) _ _ _ | show wpAny _ _ (exec (Stmt.Assign _ (Expr.ListComp _ _ _ _) _) _) _ _ _ | show wpAny _ _ (call (Value.builtin "sorted") _) _ _ _ | show wpAny _ _ (call (Value.builtin "sum") _) _ _ _ | show wpAny _ _ (call (Value.type "enumerate") _) _ _ _ | show wpAny _ _ (call (Value.type "range") _) _ _ _ | show wpAny _ _ (binaryOp _ (Value.ref _) (Value.ref _)) _ _ _ | show wpAny _ _ (call (Value.ref _) (Value.ref _ :: _)) _ _ _ | show wpAny _ _ (call (Value.ref 178) _) _ _ _)); first | ((with_reducible refine' isq_back ?e9 ?_); (case e9 => with_reducible assumption); (try dsimp only)) | ((with_reducible show wpAny _ _ (exec _ _) _ _ _); (refine gen_exec ?_); intro P9 hP9; walk1) | (k_unfold; (try dsimp only)) | (with_reducible (k_here; (with_reducible show wpAny _ _ (subscriptTail _ (PySem.Expr.Slice none (some _) none _) (Value.ref _) (Value.ref _)) _ _ _); k_dflt (refine' vst_upto ?qF ?qN ?ql ?qz ?_ ?qs ?qt; (case qF => k_asm); (case qN => k_asm); (case ql => k_mem); (case qz => assumption); (case qs => with_unfolding_all rfl); (case qt => kmk_pure)); intro D' h' F' N' l1; (try k_lt l1); (try k_sweep))) | (with_reducible (k_here; (with_reducible show wpAny _ _ (subscriptTail _ (PySem.Expr.Slice (some _) none none _) (Value.ref _) (Value.ref _)) _ _ _); k_dflt (refine' vst_from ?qF ?qN ?ql ?qz ?_ ?qs ?qt; (case qF => k_asm); (case qN => k_asm); (case ql => k_mem); (case qz => assumption); (case qs => with_unfolding_all rfl); (case qt => kmk_pure)); intro D' h' F' N' l1; (try k_lt l1); (try k_sweep))) | (with_reducible (k_here; (with_reducible show wpAny _ _ (call (Value.builtin "len") [Value.ref _]) _ _ _); (k_dflt (refine' vst_len ?qk1 ?qk2 ?qk4 ?_; (case qk1 => k_asm); (case qk2 => k_mem); (case qk4 => assumption); k_whole)); intro _ _)) | (with_reducible ((with_reducible show wpAny _ _ (binaryOp Operator.FloorDiv (Value.int _ _) (Value.int _ _)) _ _ _); (k_here; (refine div_pow (by assumption) ?_); intro _ _))) | (with_reducible ((with_reducible show wpAny _ _ (setItem (Value.ref _) (Value.str _ _) _) _ _ _); (k_here; (k_dflt (refine' dct_set ?qF ?qN ?qk2 ?qk3 ?qk4 ?_; (case qF => k_asm); (case qN => k_asm); (case qk2 => assumption); (case qk3 => assumption); (case qk4 => assumption); k_whole)); intro h' o' k' F' N' hd'))) | (with_reducible ((with_reducible show wpAny _ _ (call (Value.builtin "dict.get") _) _ _ _); (k_here; (k_dflt (refine' dct_get ?qk1 ?qk2 ?qk3 ?qk4 ?_; (case qk1 => k_asm); (case qk2 => k_mem); (case qk3 => assumption); (case qk4 => assumption); k_whole)); intro _ _))) | (with_reducible ((with_reducible show wpAny _ _ (call (Value.builtin "dict.items") _) _ _ _); (k_here; (k_dflt (refine' dct_items ?qF ?qN ?qk2 ?qk3 ?qk4 ?_; (case qF => k_asm); (case qN => k_asm); (case qk2 => k_mem); (case qk3 => assumption); (case qk4 => assumption); k_whole)); intro V' h' hv' F' N'))) | (with_reducible ((with_reducible show wpAny _ _ (getMethod (Value.ref _) _ _) _ _ _); (k_here; (k_dflt (refine' dct_items_method ?qk1 ?qk2 ?qk3 ?_; (case qk1 => k_asm); (case qk2 => k_mem); (case qk3 => assumption); k_whole))))) | (with_reducible ((with_reducible show wpAny _ _ (getMethod (Value.ref _) _ _) _ _ _); (k_here; (k_dflt (refine' dct_method ?qk1 ?qk2 ?qk3 ?_; (case qk1 => k_asm); (case qk2 => k_mem); (case qk3 => assumption); k_whole))))) | (with_reducible (k_here; (with_reducible show wpAny _ _ (call (Value.ref 204) [Value.int _ _]) _ _ _); k_dflt (refine' way_tells ?qB ?qF ?qX ?qN ?qT ?qhk ?qhd ?qhu ?qhk1 ?qhk2 ?_; (  (case qB => k_asm); (case qF => k_asm); (case qX => k_asm); (case qN => k_asm); (case qT => k_asm); (case qhk => first | exact rfl | assumption); (case qhd => ktr_room); (case qhu => ktr_units)); (case qhk1 => (first | (with_reducible assumption) | omega | assumption)); (case qhk2 => (first | (with_reducible assumption) | omega | assumption)); k_whole); intro t' h' tk' F' N'; (try k_sweep))) | walk1 | (dsimp only; walk1)))
    k_dflt refine' sorted_lists (vs := tr.map (·.1)) (prs := rowPrs tr) (news := (L' + 1 + 1 + 1, o1) :: (L' + 1 + 1, o2) :: (L' + 1, o3) :: r) ?F ?N ?hl ?hk (rowPrs_fst tr) (rowPrs_alike tr) ?hun ?hlen ?_
    case F => k_asm
    case N => exact fun p hp => N5 p (.tail _ hp)
    case hl => exact ⟨_, (N5 _ (.head _)).1, rfl, _, rfl⟩
    case hk => exact rowPrs_keyed (hrp.grow fun p hp => .tail _ (.tail _ (.tail _ (.tail _ hp)))) N5
    case hun => ktr_units
    case hlen => rw [hyl, hls.len]; (clear hD5 N5 F5 hyl hrp htr hrne hbase hs9 hLA1 hnl F3 d3 d2 d1 N3 l1 T' X' B' FG' hret hnm hsz hls hLA hu hd hk T N X F B; lia)
    intro SD se h6 prs' hsd F6 N6 hSD
    obtain ⟨tr', ep, hrp', hso⟩ := row_sorted hrp htr hsd
    rw [ep] at N6
    have hrowlen : tr'.length = ls.length := by
      have := hso.perm.length_eq
      rwa [List.length_map, ent_len] at this
    obtain ⟨so, hse⟩ : ∃ so, so = tr'.map (·.2) := ⟨_, rfl⟩
    rw [← hse] at hso
    have hS1 : @LT.lt Nat _ (L' + 1 + 1 + 1) SD := hSD _ (.head _)
    have hS2 : @LT.lt Nat _ (L' + 1 + 1) SD := hSD (L' + 1 + 1, o2) (.tail _ (.head _))
    have hS3 : @LT.lt Nat _ (L' + 1) SD := hSD (L' + 1, o3) (.tail _ (.tail _ (.head _)))
    have hSr : ∀ p ∈ r, p.1 ≠ SD := fun p hp => Nat.ne_of_lt (hSD p (.tail _ (.tail _ (.tail _ hp))))
    have hr1 : ∀ p ∈ r, p.1 ≠ L' + 1 + 1 + 1 := fun p hp => (hrne p hp).1
    have hr2 : ∀ p ∈ r, p.1 ≠ L' + 1 + 1 := fun p hp => (hrne p hp).2.1
    have hr3 : ∀ p ∈ r, p.1 ≠ L' + 1 := fun p hp => (hrne p hp).2.2
    (repeat' ((fail_if_success (with_reducible first | show wpAny _ _ (pyIter _) _ _ _ | show wpAny _ _ (exec (Stmt.While _ _ _ _) _) _ _ _ | show wpAny _ _ (exec (Stmt.For _ _ _ _ _) _) _ _ _ | show TurnEnd _ _ _ _ _ _ _ | show TurnPost _ _ _ _ _ _ _ _ _ | show WhileStep _ _ _ _ _ _ _ | show WhileStep2 _ _ _ _ _ _ _ _ | show wpAny _ _ (eval (Expr.ListComp _ _ _ _) _) _ _ _ | show wpAny _ _ (exec (Stmt.Assign _ (Expr.ListComp _ _ _ _) _) _) _ _ _ | show wpAny _ _ (call (Value.builtin "sorted") _) _ _ _ | show wpAny _ _ (call (Value.builtin "sum") _) _ _ _ | show wpAny _ _ (call (Value.type "enumerate") _) _ _ _ | show wpAny _ _ (call (Value.type "range") _) _ _ _ | show wpAny _ _ (binaryOp _ (Value.ref _) (Value.ref _)) _ _ _ | show wpAny _ _ (call (Value.ref _) (Value.ref _ :: _)) _ _ _ | show wpAny _ _ (call (Value.ref 178) _) _ _ _)); first | ((with_reducible refine' isq_back ?e9 ?_); (case e9 => with_reducible assumption); (try dsimp only)) | ((with_reducible show wpAny _ _ (exec _ _) _ _ _); (refine gen_exec ?_); intro P9 hP9; walk1) | (k_unfold; (try dsimp only)) | (with_reducible (k_here; (with_reducible show wpAny _ _ (subscriptTail _ (PySem.Expr.Slice none (some _) none _) (Value.ref _) (Value.ref _)) _ _ _); k_dflt (refine' vst_upto ?qF ?qN ?ql ?qz ?_ ?qs ?qt; (case qF => k_asm); (case qN => k_asm); (case ql => k_mem); (case qz => assumption); (case qs => with_unfolding_all rfl); (case qt => kmk_pure)); intro D' h' F' N' l1; (try k_lt l1); (try k_sweep))) | (with_reducible (k_here; (with_reducible show wpAny _ _ (subscriptTail _ (PySem.Expr.Slice (some _) none none _) (Value.ref _) (Value.ref _)) _ _ _); k_dflt (refine' vst_from ?qF ?qN ?ql ?qz ?_ ?qs ?qt; (case qF => k_asm); (case qN => k_asm); (case ql => k_mem); (case qz => assumption); (case qs => with_unfolding_all rfl); (case qt => kmk_pure)); intro D' h' F' N' l1; (try k_lt l1); (try k_sweep))) | (with_reducible (k_here; (with_reducible show wpAny _ _ (call (Value.builtin "len") [Value.ref _]) _ _ _); (k_dflt (refine' vst_len ?qk1 ?qk2 ?qk4 ?_; (case qk1 => k_asm); (case qk2 => k_mem); (case qk4 => assumption); k_whole)); intro _ _)) | (with_reducible ((with_reducible show wpAny _ _ (binaryOp Operator.FloorDiv (Value.int _ _) (Value.int _ _)) _ _ _); (k_here; (refine div_pow (by assumption) ?_); intro _ _))) | (with_reducible ((with_reducible show wpAny _ _ (setItem (Value.ref _) (Value.str _ _) _) _ _ _); (k_here; (k_dflt (refine' dct_set ?qF ?qN ?qk2 ?qk3 ?qk4 ?_; (case qF => k_asm); (case qN => k_asm); (case qk2 => assumption); (case qk3 => assumption); (case qk4 => assumption); k_whole)); intro h' o' k' F' N' hd'))) | (with_reducible ((with_reducible show wpAny _ _ (call (Value.builtin "dict.get") _) _ _ _); (k_here; (k_dflt (refine' dct_get ?qk1 ?qk2 ?qk3 ?qk4 ?_; (case qk1 => k_asm); (case qk2 => k_mem); (case qk3 => assumption); (case qk4 => assumption); k_whole)); intro _ _))) | (with_reducible ((with_reducible show wpAny _ _ (call (Value.builtin "dict.items") _) _ _ _); (k_here; (k_dflt (refine' dct_items ?qF ?qN ?qk2 ?qk3 ?qk4 ?_; (case qF => k_asm); (case qN => k_asm); (case qk2 => k_mem); (case qk3 => assumption); (case qk4 => assumption); k_whole)); intro V' h' hv' F' N'))) | (with_reducible ((with_reducible show wpAny _ _ (getMethod (Value.ref _) _ _) _ _ _); (k_here; (k_dflt (refine' dct_items_method ?qk1 ?qk2 ?qk3 ?_; (case qk1 => k_asm); (case qk2 => k_mem); (case qk3 => assumption); k_whole))))) | (with_reducible ((with_reducible show wpAny _ _ (getMethod (Value.ref _) _ _) _ _ _); (k_here; (k_dflt (refine' dct_method ?qk1 ?qk2 ?qk3 ?_; (case qk1 => k_asm); (case qk2 => k_mem); (case qk3 => assumption); k_whole))))) | (with_reducible (k_here; (with_reducible show wpAny _ _ (call (Value.ref 204) [Value.int _ _]) _ _ _); k_dflt (refine' way_tells ?qB ?qF ?qX ?qN ?qT ?qhk ?qhd ?qhu ?qhk1 ?qhk2 ?_; (  (case qB => k_asm); (case qF => k_asm); (case qX => k_asm); (case qN => k_asm); (case qT => k_asm); (case qhk => first | exact rfl | assumption); (case qhd => ktr_room); (case qhu => ktr_units)); (case qhk1 => (first | (with_reducible assumption) | omega | assumption)); (case qhk2 => (first | (with_reducible assumption) | omega | assumption)); k_whole); intro t' h' tk' F' N'; (try k_sweep))) | walk1 | (dsimp only; walk1)))
    (with_reducible rename Fr _ _ _ _ => F7)
    (with_reducible rename News _ _ _ _ => N7)
    k_dflt (refine' comp_eval F7 ?c1 ?c2 ?c3 ?c4 ?_; (case c1 => with_unfolding_all rfl); (case c2 => decide); (case c3 => exact rfl); (case c4 => decide))
    (repeat' ((fail_if_success (with_reducible first | show wpAny _ _ (pyIter _) _ _ _ | show wpAny _ _ (exec (Stmt.While _ _ _ _) _) _ _ _ | show wpAny _ _ (exec (Stmt.For _ _ _ _ _) _) _ _ _ | show TurnEnd _ _ _ _ _ _ _ | show TurnPost _ _ _ _ _ _ _ _ _ | show WhileStep _ _ _ _ _ _ _ | show WhileStep2 _ _ _ _ _ _ _ _ | show wpAny _ _ (eval (Expr.ListComp _ _ _ _) _) _ _ _ | show wpAny _ _ (exec (Stmt.Assign _ (Expr.ListComp _ _ _ _) _) _) _ _ _ | show wpAny _ _ (call (Value.builtin "sorted") _) _ _ _ | show wpAny _ _ (call (Value.builtin "sum") _) _ _ _ | show wpAny _ _ (call (Value.type "enumerate") _) _ _ _ | show wpAny _ _ (call (Value.type "range") _) _ _ _ | show wpAny _ _ (binaryOp _ (Value.ref _) (Value.ref _)) _ _ _ | show wpAny _ _ (call (Value.ref _) (Value.ref _ :: _)) _ _ _ | show wpAny _ _ (call (Value.ref 178) _) _ _ _)); first | ((with_reducible refine' isq_back ?e9 ?_); (case e9 => with_reducible assumption); (try dsimp only)) | ((with_reducible show wpAny _ _ (exec _ _) _ _ _); (refine gen_exec ?_); intro P9 hP9; walk1) | (k_unfold; (try dsimp only)) | (with_reducible (k_here; (with_reducible show wpAny _ _ (subscriptTail _ (PySem.Expr.Slice none (some _) none _) (Value.ref _) (Value.ref _)) _ _ _); k_dflt (refine' vst_upto ?qF ?qN ?ql ?qz ?_ ?qs ?qt; (case qF => k_asm); (case qN => k_asm); (case ql => k_mem); (case qz => assumption); (case qs => with_unfolding_all rfl); (case qt => kmk_pure)); intro D' h' F' N' l1; (try k_lt l1); (try k_sweep))) | (with_reducible (k_here; (with_reducible show wpAny _ _ (subscriptTail _ (PySem.Expr.Slice (some _) none none _) (Value.ref _) (Value.ref _)) _ _ _); k_dflt (refine' vst_from ?qF ?qN ?ql ?qz ?_ ?qs ?qt; (case qF => k_asm); (case qN => k_asm); (case ql => k_mem); (case qz => assumption); (case qs => with_unfolding_all rfl); (case qt => kmk_pure)); intro D' h' F' N' l1; (try k_lt l1); (try k_sweep))) | (with_reducible (k_here; (with_reducible show wpAny _ _ (call (Value.builtin "len") [Value.ref _]) _ _ _); (k_dflt (refine' vst_len ?qk1 ?qk2 ?qk4 ?_; (case qk1 => k_asm); (case qk2 => k_mem); (case qk4 => assumption); k_whole)); intro _ _)) | (with_reducible ((with_reducible show wpAny _ _ (binaryOp Operator.FloorDiv (Value.int _ _) (Value.int _ _)) _ _ _); (k_here; (refine div_pow (by assumption) ?_); intro _ _))) | (with_reducible ((with_reducible show wpAny _ _ (setItem (Value.ref _) (Value.str _ _) _) _ _ _); (k_here; (k_dflt (refine' dct_set ?qF ?qN ?qk2 ?qk3 ?qk4 ?_; (case qF => k_asm); (case qN => k_asm); (case qk2 => assumption); (case qk3 => assumption); (case qk4 => assumption); k_whole)); intro h' o' k' F' N' hd'))) | (with_reducible ((with_reducible show wpAny _ _ (call (Value.builtin "dict.get") _) _ _ _); (k_here; (k_dflt (refine' dct_get ?qk1 ?qk2 ?qk3 ?qk4 ?_; (case qk1 => k_asm); (case qk2 => k_mem); (case qk3 => assumption); (case qk4 => assumption); k_whole)); intro _ _))) | (with_reducible ((with_reducible show wpAny _ _ (call (Value.builtin "dict.items") _) _ _ _); (k_here; (k_dflt (refine' dct_items ?qF ?qN ?qk2 ?qk3 ?qk4 ?_; (case qF => k_asm); (case qN => k_asm); (case qk2 => k_mem); (case qk3 => assumption); (case qk4 => assumption); k_whole)); intro V' h' hv' F' N'))) | (with_reducible ((with_reducible show wpAny _ _ (getMethod (Value.ref _) _ _) _ _ _); (k_here; (k_dflt (refine' dct_items_method ?qk1 ?qk2 ?qk3 ?_; (case qk1 => k_asm); (case qk2 => k_mem); (case qk3 => assumption); k_whole))))) | (with_reducible ((with_reducible show wpAny _ _ (getMethod (Value.ref _) _ _) _ _ _); (k_here; (k_dflt (refine' dct_method ?qk1 ?qk2 ?qk3 ?_; (case qk1 => k_asm); (case qk2 => k_mem); (case qk3 => assumption); k_whole))))) | (with_reducible (k_here; (with_reducible show wpAny _ _ (call (Value.ref 204) [Value.int _ _]) _ _ _); k_dflt (refine' way_tells ?qB ?qF ?qX ?qN ?qT ?qhk ?qhd ?qhu ?qhk1 ?qhk2 ?_; (  (case qB => k_asm); (case qF => k_asm); (case qX => k_asm); (case qN => k_asm); (case qT => k_asm); (case qhk => first | exact rfl | assumption); (case qhd => ktr_room); (case qhu => ktr_units)); (case qhk1 => (first | (with_reducible assumption) | omega | assumption)); (case qhk2 => (first | (with_reducible assumption) | omega | assumption)); k_whole); intro t' h' tk' F' N'; (try k_sweep))) | walk1 | (dsimp only; walk1)))
    (with_reducible rename Fr _ _ _ _ => F8)
    (with_reducible rename News _ _ _ _ => N8)
    k_dflt refine' comp_list (vs := tr'.map (·.1)) (fun i ys nw => nw = (SD, listOf (tr'.map (·.1)).toArray se) :: (L' + 1 + 1 + 1, o1) :: (L' + 1 + 1, o2) :: (L' + 1, o3) :: r ∧ ys.length = i ∧ IntsAre ys ((sizes so).take i))
      (fun i mC => ∃ p t, tr'[i]? = some p ∧ mC (Str.ofString "less") = some (.int (-p.2.2.2.1) t)) ?hh ?hl ?hlL F8 N8 ?hsz2 ?hlen2 ?h0 ?asg ?step ?fin
    case hh => exact rfl
    case hl => exact ⟨_, (N8 _ (.head _)).1, rfl, se, rfl⟩
    case hlL => exact (N8 _ (.head _)).2.1
    case hsz2 => rw [List.length_map, hrowlen, sizeLine_eq]; (clear N8 F8 hr3 hr2 hr1 hSr hS3 hS2 hS1 hse hso hrp' ep hSD hsd hD5 hyl hrp htr hrne hbase hs9 hLA1 hnl d3 d2 d1 l1 T' X' B' FG' hret hnm hsz hls hLA hu hd hk T N X F B; lia)
    case hlen2 => exact fun i ys nw h => Nat.le_of_eq h.2.1
    case h0 => exact ⟨rfl, rfl, .nil⟩
    case asg =>
      refine CAsg.mono (casg_tup' (row_its tr') ?h1 ?h2 ?h3 ?h5 ?h6 ?h7 ?hin) ?mono
      case h1 => exact rfl
      case h2 => exact rfl
      case h3 => decide
      case h5 => exact fun C => rfl
      case h6 => exact fun C => rfl
      case h7 => exact fun C => rfl
      case hin =>
        rintro i v ys nw ⟨rfl, _⟩ hv
        obtain ⟨p, a, n, t1, t2, t3, t4, hp, rfl, hm⟩ := row_at hrp' hv
        exact ⟨a, _, _, rfl, .tail _ (.tail _ (.tail _ (.tail _ hm))), rfl, ⟨n, rfl⟩, rfl, p, t1, t2, t3, t4, hp, rfl⟩
      case mono =>
        rintro i mC ⟨its, m', ⟨p, t1, t2, t3, t4, hp, rfl⟩, rfl⟩
        exact ⟨p, t2, hp, rfl⟩
    case step =>
      rintro s' I hIl hlt i ys nw own h₁ tk₁ C oC mC D E' hi ⟨rfl, hyl, hI⟩ ⟨p, t1, hp, hm1⟩ hoff hown hwr hCD F₁ hoC N₁
      refine tst_nil ?_
      rw [if_pos rfl]
      (repeat' ((fail_if_success (with_reducible first | show wpAny _ _ (pyIter _) _ _ _ | show wpAny _ _ (exec (Stmt.While _ _ _ _) _) _ _ _ | show wpAny _ _ (exec (Stmt.For _ _ _ _ _) _) _ _ _ | show TurnEnd _ _ _ _ _ _ _ | show TurnPost _ _ _ _ _ _ _ _ _ | show WhileStep _ _ _ _ _ _ _ | show WhileStep2 _ _ _ _ _ _ _ _ | show wpAny _ _ (eval (Expr.ListComp _ _ _ _) _) _ _ _ | show wpAny _ _ (exec (Stmt.Assign _ (Expr.ListComp _ _ _ _) _) _) _ _ _ | show wpAny _ _ (call (Value.builtin "sorted") _) _ _ _ | show wpAny _ _ (call (Value.builtin "sum") _) _ _ _ | show wpAny _ _ (call (Value.type "enumerate") _) _ _ _ | show wpAny _ _ (call (Value.type "range") _) _ _ _ | show wpAny _ _ (binaryOp _ (Value.ref _) (Value.ref _)) _ _ _ | show wpAny _ _ (call (Value.ref _) (Value.ref _ :: _)) _ _ _ | show wpAny _ _ (call (Value.ref 178) _) _ _ _)); first | ((with_reducible refine' isq_back ?e9 ?_); (case e9 => with_reducible assumption); (try dsimp only)) | ((with_reducible show wpAny _ _ (exec _ _) _ _ _); (refine gen_exec ?_); intro P9 hP9; walk1) | (k_unfold; (try dsimp only)) | (with_reducible (k_here; (with_reducible show wpAny _ _ (subscriptTail _ (PySem.Expr.Slice none (some _) none _) (Value.ref _) (Value.ref _)) _ _ _); k_dflt (refine' vst_upto ?qF ?qN ?ql ?qz ?_ ?qs ?qt; (case qF => k_asm); (case qN => k_asm); (case ql => k_mem); (case qz => assumption); (case qs => with_unfolding_all rfl); (case qt => kmk_pure)); intro D' h' F' N' l1; (try k_lt l1); (try k_sweep))) | (with_reducible (k_here; (with_reducible show wpAny _ _ (subscriptTail _ (PySem.Expr.Slice (some _) none none _) (Value.ref _) (Value.ref _)) _ _ _); k_dflt (refine' vst_from ?qF ?qN ?ql ?qz ?_ ?qs ?qt; (case qF => k_asm); (case qN => k_asm); (case ql => k_mem); (case qz => assumption); (case qs => with_unfolding_all rfl); (case qt => kmk_pure)); intro D' h' F' N' l1; (try k_lt l1); (try k_sweep))) | (with_reducible (k_here; (with_reducible show wpAny _ _ (call (Value.builtin "len") [Value.ref _]) _ _ _); (k_dflt (refine' vst_len ?qk1 ?qk2 ?qk4 ?_; (case qk1 => k_asm); (case qk2 => k_mem); (case qk4 => assumption); k_whole)); intro _ _)) | (with_reducible ((with_reducible show wpAny _ _ (binaryOp Operator.FloorDiv (Value.int _ _) (Value.int _ _)) _ _ _); (k_here; (refine div_pow (by assumption) ?_); intro _ _))) | (with_reducible ((with_reducible show wpAny _ _ (setItem (Value.ref _) (Value.str _ _) _) _ _ _); (k_here; (k_dflt (refine' dct_set ?qF ?qN ?qk2 ?qk3 ?qk4 ?_; (case qF => k_asm); (case qN => k_asm); (case qk2 => assumption); (case qk3 => assumption); (case qk4 => assumption); k_whole)); intro h' o' k' F' N' hd'))) | (with_reducible ((with_reducible show wpAny _ _ (call (Value.builtin "dict.get") _) _ _ _); (k_here; (k_dflt (refine' dct_get ?qk1 ?qk2 ?qk3 ?qk4 ?_; (case qk1 => k_asm); (case qk2 => k_mem); (case qk3 => assumption); (case qk4 => assumption); k_whole)); intro _ _))) | (with_reducible ((with_reducible show wpAny _ _ (call (Value.builtin "dict.items") _) _ _ _); (k_here; (k_dflt (refine' dct_items ?qF ?qN ?qk2 ?qk3 ?qk4 ?_; (case qF => k_asm); (case qN => k_asm); (case qk2 => k_mem); (case qk3 => assumption); (case qk4 => assumption); k_whole)); intro V' h' hv' F' N'))) | (with_reducible ((with_reducible show wpAny _ _ (getMethod (Value.ref _) _ _) _ _ _); (k_here; (k_dflt (refine' dct_items_method ?qk1 ?qk2 ?qk3 ?_; (case qk1 => k_asm); (case qk2 => k_mem); (case qk3 => assumption); k_whole))))) | (with_reducible ((with_reducible show wpAny _ _ (getMethod (Value.ref _) _ _) _ _ _); (k_here; (k_dflt (refine' dct_method ?qk1 ?qk2 ?qk3 ?_; (case qk1 => k_asm); (case qk2 => k_mem); (case qk3 => assumption); k_whole))))) | (with_reducible (k_here; (with_reducible show wpAny _ _ (call (Value.ref 204) [Value.int _ _]) _ _ _); k_dflt (refine' way_tells ?qB ?qF ?qX ?qN ?qT ?qhk ?qhd ?qhu ?qhk1 ?qhk2 ?_; (  (case qB => k_asm); (case qF => k_asm); (case qX => k_asm); (case qN => k_asm); (case qT => k_asm); (case qhk => first | exact rfl | assumption); (case qhd => ktr_room); (case qhu => ktr_units)); (case qhk1 => (first | (with_reducible assumption) | omega | assumption)); (case qhk2 => (first | (with_reducible assumption) | omega | assumption)); k_whole); intro t' h' tk' F' N'; (try k_sweep))) | walk1 | (dsimp only; walk1)))
      refine cend F₁ hoC N₁ hoff ⟨rfl, by rw [List.length_append, hyl]; rfl, ?_⟩
      have hsi : (sizes so)[i]? = some p.2.2.2.1 := by
        unfold sizes
        rw [hse, List.map_map, List.getElem?_map, hp]; rfl
      rw [List.take_add_one, hsi]
      refine IntsAre.app hI ?_
      rw [Int.neg_neg]
      exact .cons _ _ .nil
    case fin =>
      rintro s8 ht8 hs8 ys nw ⟨rfl, hyl2, hI⟩ D6 h6' tk6 F9 N9 hD6
      rw [hs8]
      rw [List.take_of_length_le (by unfold sizes; rw [hse]; simp)] at hI
      (repeat' ((fail_if_success (with_reducible first | show wpAny _ _ (pyIter _) _ _ _ | show wpAny _ _ (exec (Stmt.While _ _ _ _) _) _ _ _ | show wpAny _ _ (exec (Stmt.For _ _ _ _ _) _) _ _ _ | show TurnEnd _ _ _ _ _ _ _ | show TurnPost _ _ _ _ _ _ _ _ _ | show WhileStep _ _ _ _ _ _ _ | show WhileStep2 _ _ _ _ _ _ _ _ | show wpAny _ _ (eval (Expr.ListComp _ _ _ _) _) _ _ _ | show wpAny _ _ (exec (Stmt.Assign _ (Expr.ListComp _ _ _ _) _) _) _ _ _ | show wpAny _ _ (call (Value.builtin "sorted") _) _ _ _ | show wpAny _ _ (call (Value.builtin "sum") _) _ _ _ | show wpAny _ _ (call (Value.type "enumerate") _) _ _ _ | show wpAny _ _ (call (Value.type "range") _) _ _ _ | show wpAny _ _ (binaryOp _ (Value.ref _) (Value.ref _)) _ _ _ | show wpAny _ _ (call (Value.ref _) (Value.ref _ :: _)) _ _ _ | show wpAny _ _ (call (Value.ref 178) _) _ _ _)); first | ((with_reducible refine' isq_back ?e9 ?_); (case e9 => with_reducible assumption); (try dsimp only)) | ((with_reducible show wpAny _ _ (exec _ _) _ _ _); (refine gen_exec ?_); intro P9 hP9; walk1) | (k_unfold; (try dsimp only)) | (with_reducible (k_here; (with_reducible show wpAny _ _ (subscriptTail _ (PySem.Expr.Slice none (some _) none _) (Value.ref _) (Value.ref _)) _ _ _); k_dflt (refine' vst_upto ?qF ?qN ?ql ?qz ?_ ?qs ?qt; (case qF => k_asm); (case qN => k_asm); (case ql => k_mem); (case qz => assumption); (case qs => with_unfolding_all rfl); (case qt => kmk_pure)); intro D' h' F' N' l1; (try k_lt l1); (try k_sweep))) | (with_reducible (k_here; (with_reducible show wpAny _ _ (subscriptTail _ (PySem.Expr.Slice (some _) none none _) (Value.ref _) (Value.ref _)) _ _ _); k_dflt (refine' vst_from ?qF ?qN ?ql ?qz ?_ ?qs ?qt; (case qF => k_asm); (case qN => k_asm); (case ql => k_mem); (case qz => assumption); (case qs => with_unfolding_all rfl); (case qt => kmk_pure)); intro D' h' F' N' l1; (try k_lt l1); (try k_sweep))) | (with_reducible (k_here; (with_reducible show wpAny _ _ (call (Value.builtin "len") [Value.ref _]) _ _ _); (k_dflt (refine' vst_len ?qk1 ?qk2 ?qk4 ?_; (case qk1 => k_asm); (case qk2 => k_mem); (case qk4 => assumption); k_whole)); intro _ _)) | (with_reducible ((with_reducible show wpAny _ _ (binaryOp Operator.FloorDiv (Value.int _ _) (Value.int _ _)) _ _ _); (k_here; (refine div_pow (by assumption) ?_); intro _ _))) | (with_reducible ((with_reducible show wpAny _ _ (setItem (Value.ref _) (Value.str _ _) _) _ _ _); (k_here; (k_dflt (refine' dct_set ?qF ?qN ?qk2 ?qk3 ?qk4 ?_; (case qF => k_asm); (case qN => k_asm); (case qk2 => assumption); (case qk3 => assumption); (case qk4 => assumption); k_whole)); intro h' o' k' F' N' hd'))) | (with_reducible ((with_reducible show wpAny _ _ (call (Value.builtin "dict.get") _) _ _ _); (k_here; (k_dflt (refine' dct_get ?qk1 ?qk2 ?qk3 ?qk4 ?_; (case qk1 => k_asm); (case qk2 => k_mem); (case qk3 => assumption); (case qk4 => assumption); k_whole)); intro _ _))) | (with_reducible ((with_reducible show wpAny _ _ (call (Value.builtin "dict.items") _) _ _ _); (k_here; (k_dflt (refine' dct_items ?qF ?qN ?qk2 ?qk3 ?qk4 ?_; (case qF => k_asm); (case qN => k_asm); (case qk2 => k_mem); (case qk3 => assumption); (case qk4 => assumption); k_whole)); intro V' h' hv' F' N'))) | (with_reducible ((with_reducible show wpAny _ _ (getMethod (Value.ref _) _ _) _ _ _); (k_here; (k_dflt (refine' dct_items_method ?qk1 ?qk2 ?qk3 ?_; (case qk1 => k_asm); (case qk2 => k_mem); (case qk3 => assumption); k_whole))))) | (with_reducible ((with_reducible show wpAny _ _ (getMethod (Value.ref _) _ _) _ _ _); (k_here; (k_dflt (refine' dct_method ?qk1 ?qk2 ?qk3 ?_; (case qk1 => k_asm); (case qk2 => k_mem); (case qk3 => assumption); k_whole))))) | (with_reducible (k_here; (with_reducible show wpAny _ _ (call (Value.ref 204) [Value.int _ _]) _ _ _); k_dflt (refine' way_tells ?qB ?qF ?qX ?qN ?qT ?qhk ?qhd ?qhu ?qhk1 ?qhk2 ?_; (  (case qB => k_asm); (case qF => k_asm); (case qX => k_asm); (case qN => k_asm); (case qT => k_asm); (case qhk => first | exact rfl | assumption); (case qhd => ktr_room); (case qhu => ktr_units)); (case qhk1 => (first | (with_reducible assumption) | omega | assumption)); (case qhk2 => (first | (with_reducible assumption) | omega | assumption)); k_whole); intro t' h' tk' F' N'; (try k_sweep))) | walk1 | (dsimp only; walk1)))
      (with_reducible rename Fr _ _ _ _ => F10)
      (with_reducible rename News _ _ _ _ => N10)
      k_dflt (refine' comp_eval F10 ?c1 ?c2 ?c3 ?c4 ?_; (case c1 => with_unfolding_all rfl); (case c2 => decide); (case c3 => exact rfl); (case c4 => decide))
      (repeat' ((fail_if_success (with_reducible first | show wpAny _ _ (pyIter _) _ _ _ | show wpAny _ _ (exec (Stmt.While _ _ _ _) _) _ _ _ | show wpAny _ _ (exec (Stmt.For _ _ _ _ _) _) _ _ _ | show TurnEnd _ _ _ _ _ _ _ | show TurnPost _ _ _ _ _ _ _ _ _ | show WhileStep _ _ _ _ _ _ _ | show WhileStep2 _ _ _ _ _ _ _ _ | show wpAny _ _ (eval (Expr.ListComp _ _ _ _) _) _ _ _ | show wpAny _ _ (exec (Stmt.Assign _ (Expr.ListComp _ _ _ _) _) _) _ _ _ | show wpAny _ _ (call (Value.builtin "sorted") _) _ _ _ | show wpAny _ _ (call (Value.builtin "sum") _) _ _ _ | show wpAny _ _ (call (Value.type "enumerate") _) _ _ _ | show wpAny _ _ (call (Value.type "range") _) _ _ _ | show wpAny _ _ (binaryOp _ (Value.ref _) (Value.ref _)) _ _ _ | show wpAny _ _ (call (Value.ref _) (Value.ref _ :: _)) _ _ _ | show wpAny _ _ (call (Value.ref 178) _) _ _ _)); first | ((with_reducible refine' isq_back ?e9 ?_); (case e9 => with_reducible assumption); (try dsimp only)) | ((with_reducible show wpAny _ _ (exec _ _) _ _ _); (refine gen_exec ?_); intro P9 hP9; walk1) | (k_unfold; (try dsimp only)) | (with_reducible (k_here; (with_reducible show wpAny _ _ (subscriptTail _ (PySem.Expr.Slice none (some _) none _) (Value.ref _) (Value.ref _)) _ _ _); k_dflt (refine' vst_upto ?qF ?qN ?ql ?qz ?_ ?qs ?qt; (case qF => k_asm); (case qN => k_asm); (case ql => k_mem); (case qz => assumption); (case qs => with_unfolding_all rfl); (case qt => kmk_pure)); intro D' h' F' N' l1; (try k_lt l1); (try k_sweep))) | (with_reducible (k_here; (with_reducible show wpAny _ _ (subscriptTail _ (PySem.Expr.Slice (some _) none none _) (Value.ref _) (Value.ref _)) _ _ _); k_dflt (refine' vst_from ?qF ?qN ?ql ?qz ?_ ?qs ?qt; (case qF => k_asm); (case qN => k_asm); (case ql => k_mem); (case qz => assumption); (case qs => with_unfolding_all rfl); (case qt => kmk_pure)); intro D' h' F' N' l1; (try k_lt l1); (try k_sweep))) | (with_reducible (k_here; (with_reducible show wpAny _ _ (call (Value.builtin "len") [Value.ref _]) _ _ _); (k_dflt (refine' vst_len ?qk1 ?qk2 ?qk4 ?_; (case qk1 => k_asm); (case qk2 => k_mem); (case qk4 => assumption); k_whole)); intro _ _)) | (with_reducible ((with_reducible show wpAny _ _ (binaryOp Operator.FloorDiv (Value.int _ _) (Value.int _ _)) _ _ _); (k_here; (refine div_pow (by assumption) ?_); intro _ _))) | (with_reducible ((with_reducible show wpAny _ _ (setItem (Value.ref _) (Value.str _ _) _) _ _ _); (k_here; (k_dflt (refine' dct_set ?qF ?qN ?qk2 ?qk3 ?qk4 ?_; (case qF => k_asm); (case qN => k_asm); (case qk2 => assumption); (case qk3 => assumption); (case qk4 => assumption); k_whole)); intro h' o' k' F' N' hd'))) | (with_reducible ((with_reducible show wpAny _ _ (call (Value.builtin "dict.get") _) _ _ _); (k_here; (k_dflt (refine' dct_get ?qk1 ?qk2 ?qk3 ?qk4 ?_; (case qk1 => k_asm); (case qk2 => k_mem); (case qk3 => assumption); (case qk4 => assumption); k_whole)); intro _ _))) | (with_reducible ((with_reducible show wpAny _ _ (call (Value.builtin "dict.items") _) _ _ _); (k_here; (k_dflt (refine' dct_items ?qF ?qN ?qk2 ?qk3 ?qk4 ?_; (case qF => k_asm); (case qN => k_asm); (case qk2 => k_mem); (case qk3 => assumption); (case qk4 => assumption); k_whole)); intro V' h' hv' F' N'))) | (with_reducible ((with_reducible show wpAny _ _ (getMethod (Value.ref _) _ _) _ _ _); (k_here; (k_dflt (refine' dct_items_method ?qk1 ?qk2 ?qk3 ?_; (case qk1 => k_asm); (case qk2 => k_mem); (case qk3 => assumption); k_whole))))) | (with_reducible ((with_reducible show wpAny _ _ (getMethod (Value.ref _) _ _) _ _ _); (k_here; (k_dflt (refine' dct_method ?qk1 ?qk2 ?qk3 ?_; (case qk1 => k_asm); (case qk2 => k_mem); (case qk3 => assumption); k_whole))))) | (with_reducible (k_here; (with_reducible show wpAny _ _ (call (Value.ref 204) [Value.int _ _]) _ _ _); k_dflt (refine' way_tells ?qB ?qF ?qX ?qN ?qT ?qhk ?qhd ?qhu ?qhk1 ?qhk2 ?_; (  (case qB => k_asm); (case qF => k_asm); (case qX => k_asm); (case qN => k_asm); (case qT => k_asm); (case qhk => first | exact rfl | assumption); (case qhd => ktr_room); (case qhu => ktr_units)); (case qhk1 => (first | (with_reducible assumption) | omega | assumption)); (case qhk2 => (first | (with_reducible assumption) | omega | assumption)); k_whole); intro t' h' tk' F' N'; (try k_sweep))) | walk1 | (dsimp only; walk1)))
      (with_reducible rename Fr _ _ _ _ => F11)
      (with_reducible rename News _ _ _ _ => N11)
      have hrm : ∀ p ∈ r, p ∈ (D6, LCg.lst ys) :: (SD, listOf (List.map (fun x => x.1) tr').toArray se) :: (L' + 1 + 1 + 1, o1) :: (L' + 1 + 1, o2) :: (L' + 1, o3) :: r := fun p hp => .tail _ (.tail _ (.tail _ (.tail _ (.tail _ hp))))
      have hLA3 := N11 _ (hrm _ (hbase _ hLA))
      k_dflt (refine' comp_pick (vs := lv) (fun i its => ∃ x t1 t2 t3, ls[i]? = some x ∧ its = [.int x.1 t1, .int x.2.1 t2, .int x.2.2 t3]) (fun i v => ∃ n t, (ls.map (·.2.1))[i]? = some n ∧ v = .int n t) ?hh ?hl ?hlL F11 N11 ?hsz ?hkind ?hx ?hel ?hstar ?hnl ?hin ?hxn ?hdb ?hval ?fin; (case hh => exact rfl); (case hl => exact ⟨_, hLA3.1, rfl, n, rfl⟩); (case hlL => exact hLA3.2.1); (case hsz => rw [hls.len]; (clear hLA3 hrm hD6 N11 F11 hI hyl2 hs8 ht8 N8 F8 hr3 hr2 hr1 hSr hS3 hS2 hS1 hse hso hrp' ep hSD hsd hD5 hyl hrp htr hrne hbase hs9 hLA1 hnl d3 d2 d1 l1 T' X' B' FG' hret hnm hsz hls hLA hu hd hk T N X F B; lia)); (case hkind => exact rfl); (case hx => decide); (case hel => exact fun C => rfl); (case hstar => exact fun C => rfl); (case hnl => exact fun C => rfl); (case hxn => decide); (case hdb => decide))
      case hin =>
        intro i v hv
        obtain ⟨a, n, t1, t2, t3, x, rfl, hx, hm⟩ := hls.at hv
        exact ⟨a, _, _, rfl, hrm _ (hbase _ hm), rfl, ⟨n, rfl⟩, rfl, x, t1, t2, t3, hx, rfl⟩
      case hval =>
        rintro i its m' ⟨x, t1, t2, t3, hx, rfl⟩
        exact ⟨_, rfl, _, _, by rw [List.getElem?_map, hx]; rfl, rfl⟩
      case fin =>
        rintro s' hs' zs hzl hzs D7 h7 tk7 F12 N12 hD7
        have hI2 : IntsAre zs (ls.map (·.2.1)) := ints_of (by rw [hzl, hls.len, List.length_map]) fun j hj => hzs j (by rw [hls.len]; simpa using hj)
        rw [hs']
        (repeat' ((fail_if_success (with_reducible first | show wpAny _ _ (pyIter _) _ _ _ | show wpAny _ _ (exec (Stmt.While _ _ _ _) _) _ _ _ | show wpAny _ _ (exec (Stmt.For _ _ _ _ _) _) _ _ _ | show TurnEnd _ _ _ _ _ _ _ | show TurnPost _ _ _ _ _ _ _ _ _ | show WhileStep _ _ _ _ _ _ _ | show WhileStep2 _ _ _ _ _ _ _ _ | show wpAny _ _ (eval (Expr.ListComp _ _ _ _) _) _ _ _ | show wpAny _ _ (exec (Stmt.Assign _ (Expr.ListComp _ _ _ _) _) _) _ _ _ | show wpAny _ _ (call (Value.builtin "sorted") _) _ _ _ | show wpAny _ _ (call (Value.builtin "sum") _) _ _ _ | show wpAny _ _ (call (Value.type "enumerate") _) _ _ _ | show wpAny _ _ (call (Value.type "range") _) _ _ _ | show wpAny _ _ (binaryOp _ (Value.ref _) (Value.ref _)) _ _ _ | show wpAny _ _ (call (Value.ref _) (Value.ref _ :: _)) _ _ _ | show wpAny _ _ (call (Value.ref 178) _) _ _ _)); first | ((with_reducible refine' isq_back ?e9 ?_); (case e9 => with_reducible assumption); (try dsimp only)) | ((with_reducible show wpAny _ _ (exec _ _) _ _ _); (refine gen_exec ?_); intro P9 hP9; walk1) | (k_unfold; (try dsimp only)) | (with_reducible (k_here; (with_reducible show wpAny _ _ (subscriptTail _ (PySem.Expr.Slice none (some _) none _) (Value.ref _) (Value.ref _)) _ _ _); k_dflt (refine' vst_upto ?qF ?qN ?ql ?qz ?_ ?qs ?qt; (case qF => k_asm); (case qN => k_asm); (case ql => k_mem); (case qz => assumption); (case qs => with_unfolding_all rfl); (case qt => kmk_pure)); intro D' h' F' N' l1; (try k_lt l1); (try k_sweep))) | (with_reducible (k_here; (with_reducible show wpAny _ _ (subscriptTail _ (PySem.Expr.Slice (some _) none none _) (Value.ref _) (Value.ref _)) _ _ _); k_dflt (refine' vst_from ?qF ?qN ?ql ?qz ?_ ?qs ?qt; (case qF => k_asm); (case qN => k_asm); (case ql => k_mem); (case qz => assumption); (case qs => with_unfolding_all rfl); (case qt => kmk_pure)); intro D' h' F' N' l1; (try k_lt l1); (try k_sweep))) | (with_reducible (k_here; (with_reducible show wpAny _ _ (call (Value.builtin "len") [Value.ref _]) _ _ _); (k_dflt (refine' vst_len ?qk1 ?qk2 ?qk4 ?_; (case qk1 => k_asm); (case qk2 => k_mem); (case qk4 => assumption); k_whole)); intro _ _)) | (with_reducible ((with_reducible show wpAny _ _ (binaryOp Operator.FloorDiv (Value.int _ _) (Value.int _ _)) _ _ _); (k_here; (refine div_pow (by assumption) ?_); intro _ _))) | (with_reducible ((with_reducible show wpAny _ _ (setItem (Value.ref _) (Value.str _ _) _) _ _ _); (k_here; (k_dflt (refine' dct_set ?qF ?qN ?qk2 ?qk3 ?qk4 ?_; (case qF => k_asm); (case qN => k_asm); (case qk2 => assumption); (case qk3 => assumption); (case qk4 => assumption); k_whole)); intro h' o' k' F' N' hd'))) | (with_reducible ((with_reducible show wpAny _ _ (call (Value.builtin "dict.get") _) _ _ _); (k_here; (k_dflt (refine' dct_get ?qk1 ?qk2 ?qk3 ?qk4 ?_; (case qk1 => k_asm); (case qk2 => k_mem); (case qk3 => assumption); (case qk4 => assumption); k_whole)); intro _ _))) | (with_reducible ((with_reducible show wpAny _ _ (call (Value.builtin "dict.items") _) _ _ _); (k_here; (k_dflt (refine' dct_items ?qF ?qN ?qk2 ?qk3 ?qk4 ?_; (case qF => k_asm); (case qN => k_asm); (case qk2 => k_mem); (case qk3 => assumption); (case qk4 => assumption); k_whole)); intro V' h' hv' F' N'))) | (with_reducible ((with_reducible show wpAny _ _ (getMethod (Value.ref _) _ _) _ _ _); (k_here; (k_dflt (refine' dct_items_method ?qk1 ?qk2 ?qk3 ?_; (case qk1 => k_asm); (case qk2 => k_mem); (case qk3 => assumption); k_whole))))) | (with_reducible ((with_reducible show wpAny _ _ (getMethod (Value.ref _) _ _) _ _ _); (k_here; (k_dflt (refine' dct_method ?qk1 ?qk2 ?qk3 ?_; (case qk1 => k_asm); (case qk2 => k_mem); (case qk3 => assumption); k_whole))))) | (with_reducible (k_here; (with_reducible show wpAny _ _ (call (Value.ref 204) [Value.int _ _]) _ _ _); k_dflt (refine' way_tells ?qB ?qF ?qX ?qN ?qT ?qhk ?qhd ?qhu ?qhk1 ?qhk2 ?_; (  (case qB => k_asm); (case qF => k_asm); (case qX => k_asm); (case qN => k_asm); (case qT => k_asm); (case qhk => first | exact rfl | assumption); (case qhd => ktr_room); (case qhu => ktr_units)); (case qhk1 => (first | (with_reducible assumption) | omega | assumption)); (case qhk2 => (first | (with_reducible assumption) | omega | assumption)); k_whole); intro t' h' tk' F' N'; (try k_sweep))) | walk1 | (dsimp only; walk1)))
        k_dflt refine' PyProof.Rows.LSm.sum_ints ?F ?N ?hh ?hl ?hi ?_
        case F => exact F12
        case N => exact N12
        case hi => exact hI2
        case hh => exact rfl
        case hl => exact ⟨_, (N12 _ (.head _)).1, rfl, _, rfl⟩
        intro h8 tk8 t8 F13 N13
        clear hs' hzs F12 N12
        have q61 : @Ne Nat (L' + 1 + 1 + 1) D6 := hD6 (L' + 1 + 1 + 1, o1) (.tail _ (.head _))
        have q62 : @Ne Nat (L' + 1 + 1) D6 := hD6 (L' + 1 + 1, o2) (.tail _ (.tail _ (.head _)))
        have q63 : @Ne Nat (L' + 1) D6 := hD6 (L' + 1, o3) (.tail _ (.tail _ (.tail _ (.head _))))
        have q71 : @Ne Nat (L' + 1 + 1 + 1) D7 := hD7 (L' + 1 + 1 + 1, o1) (.tail _ (.tail _ (.head _)))
        have q72 : @Ne Nat (L' + 1 + 1) D7 := hD7 (L' + 1 + 1, o2) (.tail _ (.tail _ (.tail _ (.head _))))
        have q73 : @Ne Nat (L' + 1) D7 := hD7 (L' + 1, o3) (.tail _ (.tail _ (.tail _ (.tail _ (.head _)))))
        (repeat' ((fail_if_success (with_reducible first | show wpAny _ _ (pyIter _) _ _ _ | show wpAny _ _ (exec (Stmt.While _ _ _ _) _) _ _ _ | show wpAny _ _ (exec (Stmt.For _ _ _ _ _) _) _ _ _ | show TurnEnd _ _ _ _ _ _ _ | show TurnPost _ _ _ _ _ _ _ _ _ | show WhileStep _ _ _ _ _ _ _ | show WhileStep2 _ _ _ _ _ _ _ _ | show wpAny _ _ (eval (Expr.ListComp _ _ _ _) _) _ _ _ | show wpAny _ _ (exec (Stmt.Assign _ (Expr.ListComp _ _ _ _) _) _) _ _ _ | show wpAny _ _ (call (Value.builtin "sorted") _) _ _ _ | show wpAny _ _ (call (Value.builtin "sum") _) _ _ _ | show wpAny _ _ (call (Value.type "enumerate") _) _ _ _ | show wpAny _ _ (call (Value.type "range") _) _ _ _ | show wpAny _ _ (binaryOp _ (Value.ref _) (Value.ref _)) _ _ _ | show wpAny _ _ (call (Value.ref _) (Value.ref _ :: _)) _ _ _ | show wpAny _ _ (call (Value.ref 178) _) _ _ _)); first | ((with_reducible refine' isq_back ?e9 ?_); (case e9 => with_reducible assumption); (try dsimp only)) | ((with_reducible show wpAny _ _ (exec _ _) _ _ _); (refine gen_exec ?_); intro P9 hP9; walk1) | (k_unfold; (try dsimp only)) | (with_reducible (k_here; (with_reducible show wpAny _ _ (subscriptTail _ (PySem.Expr.Slice none (some _) none _) (Value.ref _) (Value.ref _)) _ _ _); k_dflt (refine' vst_upto ?qF ?qN ?ql ?qz ?_ ?qs ?qt; (case qF => k_asm); (case qN => k_asm); (case ql => k_mem); (case qz => assumption); (case qs => with_unfolding_all rfl); (case qt => kmk_pure)); intro D' h' F' N' l1; (try k_lt l1); (try k_sweep))) | (with_reducible (k_here; (with_reducible show wpAny _ _ (subscriptTail _ (PySem.Expr.Slice (some _) none none _) (Value.ref _) (Value.ref _)) _ _ _); k_dflt (refine' vst_from ?qF ?qN ?ql ?qz ?_ ?qs ?qt; (case qF => k_asm); (case qN => k_asm); (case ql => k_mem); (case qz => assumption); (case qs => with_unfolding_all rfl); (case qt => kmk_pure)); intro D' h' F' N' l1; (try k_lt l1); (try k_sweep))) | (with_reducible (k_here; (with_reducible show wpAny _ _ (call (Value.builtin "len") [Value.ref _]) _ _ _); (k_dflt (refine' vst_len ?qk1 ?qk2 ?qk4 ?_; (case qk1 => k_asm); (case qk2 => k_mem); (case qk4 => assumption); k_whole)); intro _ _)) | (with_reducible ((with_reducible show wpAny _ _ (binaryOp Operator.FloorDiv (Value.int _ _) (Value.int _ _)) _ _ _); (k_here; (refine div_pow (by assumption) ?_); intro _ _))) | (with_reducible ((with_reducible show wpAny _ _ (setItem (Value.ref _) (Value.str _ _) _) _ _ _); (k_here; (k_dflt (refine' dct_set ?qF ?qN ?qk2 ?qk3 ?qk4 ?_; (case qF => k_asm); (case qN => k_asm); (case qk2 => assumption); (case qk3 => assumption); (case qk4 => assumption); k_whole)); intro h' o' k' F' N' hd'))) | (with_reducible ((with_reducible show wpAny _ _ (call (Value.builtin "dict.get") _) _ _ _); (k_here; (k_dflt (refine' dct_get ?qk1 ?qk2 ?qk3 ?qk4 ?_; (case qk1 => k_asm); (case qk2 => k_mem); (case qk3 => assumption); (case qk4 => assumption); k_whole)); intro _ _))) | (with_reducible ((with_reducible show wpAny _ _ (call (Value.builtin "dict.items") _) _ _ _); (k_here; (k_dflt (refine' dct_items ?qF ?qN ?qk2 ?qk3 ?qk4 ?_; (case qF => k_asm); (case qN => k_asm); (case qk2 => k_mem); (case qk3 => assumption); (case qk4 => assumption); k_whole)); intro V' h' hv' F' N'))) | (with_reducible ((with_reducible show wpAny _ _ (getMethod (Value.ref _) _ _) _ _ _); (k_here; (k_dflt (refine' dct_items_method ?qk1 ?qk2 ?qk3 ?_; (case qk1 => k_asm); (case qk2 => k_mem); (case qk3 => assumption); k_whole))))) | (with_reducible ((with_reducible show wpAny _ _ (getMethod (Value.ref _) _ _) _ _ _); (k_here; (k_dflt (refine' dct_method ?qk1 ?qk2 ?qk3 ?_; (case qk1 => k_asm); (case qk2 => k_mem); (case qk3 => assumption); k_whole))))) | (with_reducible (k_here; (with_reducible show wpAny _ _ (call (Value.ref 204) [Value.int _ _]) _ _ _); k_dflt (refine' way_tells ?qB ?qF ?qX ?qN ?qT ?qhk ?qhd ?qhu ?qhk1 ?qhk2 ?_; (  (case qB => k_asm); (case qF => k_asm); (case qX => k_asm); (case qN => k_asm); (case qT => k_asm); (case qhk => first | exact rfl | assumption); (case qhd => ktr_room); (case qhu => ktr_units)); (case qhk1 => (first | (with_reducible assumption) | omega | assumption)); (case qhk2 => (first | (with_reducible assumption) | omega | assumption)); k_whole); intro t' h' tk' F' N'; (try k_sweep))) | walk1 | (dsimp only; walk1)))
        (rename _ = Data.cell (some (Value.ref D6)) => d2n)
        (rename _ = Data.cell (some (Value.int _ _)) => d1n)
        (with_reducible rename Fr _ _ _ _ => F14)
        (with_reducible rename News _ _ _ _ => N14)
        refine name_cells N14 ?_
        intro o4 o5 e4 e5 N15
        subst e4 e5
        clear N14
        have hrl : (tr'.map (·.1)).length ≤ 1000 := by rw [List.length_map, hrowlen]; (clear d2n d1n N15 F14 q73 q72 q71 q63 q62 q61 hI2 hD7 hzl hLA3 hrm hD6 hI hyl2 hs8 ht8 hr3 hr2 hr1 hSr hS3 hS2 hS1 hse hso hrp' ep hSD hsd hD5 hyl hrp htr hrne hbase hs9 hLA1 hnl d3 d2 d1 l1 T' X' B' FG' hret hnm hsz hls hLA hu hd hk T N X F B; lia)
        have hsol : so.length = ls.length := by rw [hse, List.length_map, hrowlen]
        have hyl3 : ys.length ≤ 1000 := by rw [hyl2]; exact hrl
        k_dflt (refine' comp_eval F14 ?c1 ?c2 ?c3 ?c4 ?_; (case c1 => with_unfolding_all rfl); (case c2 => decide); (case c3 => exact rfl); (case c4 => decide))
        (repeat' ((fail_if_success (with_reducible first | show wpAny _ _ (pyIter _) _ _ _ | show wpAny _ _ (exec (Stmt.While _ _ _ _) _) _ _ _ | show wpAny _ _ (exec (Stmt.For _ _ _ _ _) _) _ _ _ | show TurnEnd _ _ _ _ _ _ _ | show TurnPost _ _ _ _ _ _ _ _ _ | show WhileStep _ _ _ _ _ _ _ | show WhileStep2 _ _ _ _ _ _ _ _ | show wpAny _ _ (eval (Expr.ListComp _ _ _ _) _) _ _ _ | show wpAny _ _ (exec (Stmt.Assign _ (Expr.ListComp _ _ _ _) _) _) _ _ _ | show wpAny _ _ (call (Value.builtin "sorted") _) _ _ _ | show wpAny _ _ (call (Value.builtin "sum") _) _ _ _ | show wpAny _ _ (call (Value.type "enumerate") _) _ _ _ | show wpAny _ _ (call (Value.type "range") _) _ _ _ | show wpAny _ _ (binaryOp _ (Value.ref _) (Value.ref _)) _ _ _ | show wpAny _ _ (call (Value.ref _) (Value.ref _ :: _)) _ _ _ | show wpAny _ _ (call (Value.ref 178) _) _ _ _)); first | ((with_reducible refine' isq_back ?e9 ?_); (case e9 => with_reducible assumption); (try dsimp only)) | ((with_reducible show wpAny _ _ (exec _ _) _ _ _); (refine gen_exec ?_); intro P9 hP9; walk1) | (k_unfold; (try dsimp only)) | (with_reducible (k_here; (with_reducible show wpAny _ _ (subscriptTail _ (PySem.Expr.Slice none (some _) none _) (Value.ref _) (Value.ref _)) _ _ _); k_dflt (refine' vst_upto ?qF ?qN ?ql ?qz ?_ ?qs ?qt; (case qF => k_asm); (case qN => k_asm); (case ql => k_mem); (case qz => assumption); (case qs => with_unfolding_all rfl); (case qt => kmk_pure)); intro D' h' F' N' l1; (try k_lt l1); (try k_sweep))) | (with_reducible (k_here; (with_reducible show wpAny _ _ (subscriptTail _ (PySem.Expr.Slice (some _) none none _) (Value.ref _) (Value.ref _)) _ _ _); k_dflt (refine' vst_from ?qF ?qN ?ql ?qz ?_ ?qs ?qt; (case qF => k_asm); (case qN => k_asm); (case ql => k_mem); (case qz => assumption); (case qs => with_unfolding_all rfl); (case qt => kmk_pure)); intro D' h' F' N' l1; (try k_lt l1); (try k_sweep))) | (with_reducible (k_here; (with_reducible show wpAny _ _ (call (Value.builtin "len") [Value.ref _]) _ _ _); (k_dflt (refine' vst_len ?qk1 ?qk2 ?qk4 ?_; (case qk1 => k_asm); (case qk2 => k_mem); (case qk4 => assumption); k_whole)); intro _ _)) | (with_reducible ((with_reducible show wpAny _ _ (binaryOp Operator.FloorDiv (Value.int _ _) (Value.int _ _)) _ _ _); (k_here; (refine div_pow (by assumption) ?_); intro _ _))) | (with_reducible ((with_reducible show wpAny _ _ (setItem (Value.ref _) (Value.str _ _) _) _ _ _); (k_here; (k_dflt (refine' dct_set ?qF ?qN ?qk2 ?qk3 ?qk4 ?_; (case qF => k_asm); (case qN => k_asm); (case qk2 => assumption); (case qk3 => assumption); (case qk4 => assumption); k_whole)); intro h' o' k' F' N' hd'))) | (with_reducible ((with_reducible show wpAny _ _ (call (Value.builtin "dict.get") _) _ _ _); (k_here; (k_dflt (refine' dct_get ?qk1 ?qk2 ?qk3 ?qk4 ?_; (case qk1 => k_asm); (case qk2 => k_mem); (case qk3 => assumption); (case qk4 => assumption); k_whole)); intro _ _))) | (with_reducible ((with_reducible show wpAny _ _ (call (Value.builtin "dict.items") _) _ _ _); (k_here; (k_dflt (refine' dct_items ?qF ?qN ?qk2 ?qk3 ?qk4 ?_; (case qF => k_asm); (case qN => k_asm); (case qk2 => k_mem); (case qk3 => assumption); (case qk4 => assumption); k_whole)); intro V' h' hv' F' N'))) | (with_reducible ((with_reducible show wpAny _ _ (getMethod (Value.ref _) _ _) _ _ _); (k_here; (k_dflt (refine' dct_items_method ?qk1 ?qk2 ?qk3 ?_; (case qk1 => k_asm); (case qk2 => k_mem); (case qk3 => assumption); k_whole))))) | (with_reducible ((with_reducible show wpAny _ _ (getMethod (Value.ref _) _ _) _ _ _); (k_here; (k_dflt (refine' dct_method ?qk1 ?qk2 ?qk3 ?_; (case qk1 => k_asm); (case qk2 => k_mem); (case qk3 => assumption); k_whole))))) | (with_reducible (k_here; (with_reducible show wpAny _ _ (call (Value.ref 204) [Value.int _ _]) _ _ _); k_dflt (refine' way_tells ?qB ?qF ?qX ?qN ?qT ?qhk ?qhd ?qhu ?qhk1 ?qhk2 ?_; (  (case qB => k_asm); (case qF => k_asm); (case qX => k_asm); (case qN => k_asm); (case qT => k_asm); (case qhk => first | exact rfl | assumption); (case qhd => ktr_room); (case qhu => ktr_units)); (case qhk1 => (first | (with_reducible assumption) | omega | assumption)); (case qhk2 => (first | (with_reducible assumption) | omega | assumption)); k_whole); intro t' h' tk' F' N'; (try k_sweep))) | walk1 | (dsimp only; walk1)))
        (with_reducible rename Fr _ _ _ _ => F16)
        (with_reducible rename News _ _ _ _ => N16)
        k_dflt refine' comp_rangeN (n := so.length + 1) (fun i ws nw => nw = (D6, LCg.lst ys) :: (SD, listOf (List.map (fun x => x.1) tr').toArray se) :: (L' + 1 + 1 + 1, o4) :: (L' + 1 + 1, o5) :: (L' + 1, o3) :: r ∧ ws.length ≤ i ∧
          IntsAre ws (((List.range i).filter fun k => decide ((sizes (so.drop k)).sum ≤ halfOf ls)).map fun k : Nat => (k : Int))) ?hh ?hkn ?hn F16 N16 ?hlen2 ?h0 ?hkind ?hx ?step ?fin
        case hh => exact rfl
        case hkn => rw [List.length_map, hrowlen, hsol]; rfl
        case hn => (clear hyl3 hrl d2n d1n N16 F16 q73 q72 q71 q63 q62 q61 hI2 hD7 hzl hLA3 hrm hD6 hI hyl2 hs8 ht8 hr3 hr2 hr1 hSr hS3 hS2 hS1 hse hso hrp' ep hSD hsd hD5 hyl hrp htr hrne hbase hs9 hLA1 hnl d3 d2 d1 l1 T' X' B' FG' hret hnm hsz hls hLA hu hd hk T N X F B; lia)
        case hlen2 => exact fun i ws nw h => h.2.1
        case h0 => exact ⟨rfl, Nat.le_refl _, .nil⟩
        case hkind => exact rfl
        case hx => decide
        case step =>
          rintro s' I hlt i ws nw own h₁ tk₁ C oC mC D E' hi ⟨rfl, hwl, hIw⟩ ⟨t9, hm1⟩ hoff hown hwr hCD F₁ hoC N₁
          replace N₁ : News g' _ h₁ ((C, oC) :: (D, LCg.lst ws) :: (D6, LCg.lst ys) :: (SD, listOf (List.map (fun x => x.1) tr').toArray se) :: (L' + 1 + 1 + 1, o4) :: (L' + 1 + 1, o5) :: (L' + 1, o3) :: (r ++ own)) := N₁
          refine tst_one ?_
          (repeat' ((fail_if_success (with_reducible first | show wpAny _ _ (pyIter _) _ _ _ | show wpAny _ _ (exec (Stmt.While _ _ _ _) _) _ _ _ | show wpAny _ _ (exec (Stmt.For _ _ _ _ _) _) _ _ _ | show TurnEnd _ _ _ _ _ _ _ | show TurnPost _ _ _ _ _ _ _ _ _ | show WhileStep _ _ _ _ _ _ _ | show WhileStep2 _ _ _ _ _ _ _ _ | show wpAny _ _ (eval (Expr.ListComp _ _ _ _) _) _ _ _ | show wpAny _ _ (exec (Stmt.Assign _ (Expr.ListComp _ _ _ _) _) _) _ _ _ | show wpAny _ _ (call (Value.builtin "sorted") _) _ _ _ | show wpAny _ _ (call (Value.builtin "sum") _) _ _ _ | show wpAny _ _ (call (Value.type "enumerate") _) _ _ _ | show wpAny _ _ (call (Value.type "range") _) _ _ _ | show wpAny _ _ (binaryOp _ (Value.ref _) (Value.ref _)) _ _ _ | show wpAny _ _ (call (Value.ref _) (Value.ref _ :: _)) _ _ _ | show wpAny _ _ (call (Value.ref 178) _) _ _ _)); first | ((with_reducible refine' isq_back ?e9 ?_); (case e9 => with_reducible assumption); (try dsimp only)) | ((with_reducible show wpAny _ _ (exec _ _) _ _ _); (refine gen_exec ?_); intro P9 hP9; walk1) | (k_unfold; (try dsimp only)) | (with_reducible (k_here; (with_reducible show wpAny _ _ (subscriptTail _ (PySem.Expr.Slice none (some _) none _) (Value.ref _) (Value.ref _)) _ _ _); k_dflt (refine' vst_upto ?qF ?qN ?ql ?qz ?_ ?qs ?qt; (case qF => k_asm); (case qN => k_asm); (case ql => k_mem); (case qz => assumption); (case qs => with_unfolding_all rfl); (case qt => kmk_pure)); intro D' h' F' N' l1; (try k_lt l1); (try k_sweep))) | (with_reducible (k_here; (with_reducible show wpAny _ _ (subscriptTail _ (PySem.Expr.Slice (some _) none none _) (Value.ref _) (Value.ref _)) _ _ _); k_dflt (refine' vst_from ?qF ?qN ?ql ?qz ?_ ?qs ?qt; (case qF => k_asm); (case qN => k_asm); (case ql => k_mem); (case qz => assumption); (case qs => with_unfolding_all rfl); (case qt => kmk_pure)); intro D' h' F' N' l1; (try k_lt l1); (try k_sweep))) | (with_reducible (k_here; (with_reducible show wpAny _ _ (call (Value.builtin "len") [Value.ref _]) _ _ _); (k_dflt (refine' vst_len ?qk1 ?qk2 ?qk4 ?_; (case qk1 => k_asm); (case qk2 => k_mem); (case qk4 => assumption); k_whole)); intro _ _)) | (with_reducible ((with_reducible show wpAny _ _ (binaryOp Operator.FloorDiv (Value.int _ _) (Value.int _ _)) _ _ _); (k_here; (refine div_pow (by assumption) ?_); intro _ _))) | (with_reducible ((with_reducible show wpAny _ _ (setItem (Value.ref _) (Value.str _ _) _) _ _ _); (k_here; (k_dflt (refine' dct_set ?qF ?qN ?qk2 ?qk3 ?qk4 ?_; (case qF => k_asm); (case qN => k_asm); (case qk2 => assumption); (case qk3 => assumption); (case qk4 => assumption); k_whole)); intro h' o' k' F' N' hd'))) | (with_reducible ((with_reducible show wpAny _ _ (call (Value.builtin "dict.get") _) _ _ _); (k_here; (k_dflt (refine' dct_get ?qk1 ?qk2 ?qk3 ?qk4 ?_; (case qk1 => k_asm); (case qk2 => k_mem); (case qk3 => assumption); (case qk4 => assumption); k_whole)); intro _ _))) | (with_reducible ((with_reducible show wpAny _ _ (call (Value.builtin "dict.items") _) _ _ _); (k_here; (k_dflt (refine' dct_items ?qF ?qN ?qk2 ?qk3 ?qk4 ?_; (case qF => k_asm); (case qN => k_asm); (case qk2 => k_mem); (case qk3 => assumption); (case qk4 => assumption); k_whole)); intro V' h' hv' F' N'))) | (with_reducible ((with_reducible show wpAny _ _ (getMethod (Value.ref _) _ _) _ _ _); (k_here; (k_dflt (refine' dct_items_method ?qk1 ?qk2 ?qk3 ?_; (case qk1 => k_asm); (case qk2 => k_mem); (case qk3 => assumption); k_whole))))) | (with_reducible ((with_reducible show wpAny _ _ (getMethod (Value.ref _) _ _) _ _ _); (k_here; (k_dflt (refine' dct_method ?qk1 ?qk2 ?qk3 ?_; (case qk1 => k_asm); (case qk2 => k_mem); (case qk3 => assumption); k_whole))))) | (with_reducible (k_here; (with_reducible show wpAny _ _ (call (Value.ref 204) [Value.int _ _]) _ _ _); k_dflt (refine' way_tells ?qB ?qF ?qX ?qN ?qT ?qhk ?qhd ?qhu ?qhk1 ?qhk2 ?_; (  (case qB => k_asm); (case qF => k_asm); (case qX => k_asm); (case qN => k_asm); (case qT => k_asm); (case qhk => first | exact rfl | assumption); (case qhd => ktr_room); (case qhu => ktr_units)); (case qhk1 => (first | (with_reducible assumption) | omega | assumption)); (case qhk2 => (first | (with_reducible assumption) | omega | assumption)); k_whole); intro t' h' tk' F' N'; (try k_sweep))) | walk1 | (dsimp only; walk1)))
          (with_reducible rename Fr _ _ _ _ => F17)
          (with_reducible rename News _ _ _ _ => N17)
          k_dflt refine' PyProof.Rows.LSm.sum_ints ?F ?N ?hh ?hl (hI.drop i) ?_
          case F => exact F17
          case N => exact N17
          case hh => exact rfl
          case hl => exact ⟨_, (N17 _ (.head _)).1, rfl, _, rfl⟩
          intro h9 tk9 t11 F18 N18
          have hsd : (List.drop i (sizes so)).sum = (sizes (so.drop i)).sum := by unfold sizes; rw [List.map_drop]
          rw [hsd]
          clear F17 N17
          have N19 : News g' _ h9 ((C, oC) :: (D, LCg.lst ws) :: (D6, LCg.lst ys) :: (SD, listOf (List.map (fun x => x.1) tr').toArray se) :: (L' + 1 + 1 + 1, o4) :: (L' + 1 + 1, o5) :: (L' + 1, o3) :: (r ++ own)) := fun p hp => N18 p (.tail _ hp)
          clear N18
          (repeat' ((fail_if_success (with_reducible first | show wpAny _ _ (pyIter _) _ _ _ | show wpAny _ _ (exec (Stmt.While _ _ _ _) _) _ _ _ | show wpAny _ _ (exec (Stmt.For _ _ _ _ _) _) _ _ _ | show TurnEnd _ _ _ _ _ _ _ | show TurnPost _ _ _ _ _ _ _ _ _ | show WhileStep _ _ _ _ _ _ _ | show WhileStep2 _ _ _ _ _ _ _ _ | show wpAny _ _ (eval (Expr.ListComp _ _ _ _) _) _ _ _ | show wpAny _ _ (exec (Stmt.Assign _ (Expr.ListComp _ _ _ _) _) _) _ _ _ | show wpAny _ _ (call (Value.builtin "sorted") _) _ _ _ | show wpAny _ _ (call (Value.builtin "sum") _) _ _ _ | show wpAny _ _ (call (Value.type "enumerate") _) _ _ _ | show wpAny _ _ (call (Value.type "range") _) _ _ _ | show wpAny _ _ (binaryOp _ (Value.ref _) (Value.ref _)) _ _ _ | show wpAny _ _ (call (Value.ref _) (Value.ref _ :: _)) _ _ _ | show wpAny _ _ (call (Value.ref 178) _) _ _ _)); first | ((with_reducible refine' isq_back ?e9 ?_); (case e9 => with_reducible assumption); (try dsimp only)) | ((with_reducible show wpAny _ _ (exec _ _) _ _ _); (refine gen_exec ?_); intro P9 hP9; walk1) | (k_unfold; (try dsimp only)) | (with_reducible (k_here; (with_reducible show wpAny _ _ (subscriptTail _ (PySem.Expr.Slice none (some _) none _) (Value.ref _) (Value.ref _)) _ _ _); k_dflt (refine' vst_upto ?qF ?qN ?ql ?qz ?_ ?qs ?qt; (case qF => k_asm); (case qN => k_asm); (case ql => k_mem); (case qz => assumption); (case qs => with_unfolding_all rfl); (case qt => kmk_pure)); intro D' h' F' N' l1; (try k_lt l1); (try k_sweep))) | (with_reducible (k_here; (with_reducible show wpAny _ _ (subscriptTail _ (PySem.Expr.Slice (some _) none none _) (Value.ref _) (Value.ref _)) _ _ _); k_dflt (refine' vst_from ?qF ?qN ?ql ?qz ?_ ?qs ?qt; (case qF => k_asm); (case qN => k_asm); (case ql => k_mem); (case qz => assumption); (case qs => with_unfolding_all rfl); (case qt => kmk_pure)); intro D' h' F' N' l1; (try k_lt l1); (try k_sweep))) | (with_reducible (k_here; (with_reducible show wpAny _ _ (call (Value.builtin "len") [Value.ref _]) _ _ _); (k_dflt (refine' vst_len ?qk1 ?qk2 ?qk4 ?_; (case qk1 => k_asm); (case qk2 => k_mem); (case qk4 => assumption); k_whole)); intro _ _)) | (with_reducible ((with_reducible show wpAny _ _ (binaryOp Operator.FloorDiv (Value.int _ _) (Value.int _ _)) _ _ _); (k_here; (refine div_pow (by assumption) ?_); intro _ _))) | (with_reducible ((with_reducible show wpAny _ _ (setItem (Value.ref _) (Value.str _ _) _) _ _ _); (k_here; (k_dflt (refine' dct_set ?qF ?qN ?qk2 ?qk3 ?qk4 ?_; (case qF => k_asm); (case qN => k_asm); (case qk2 => assumption); (case qk3 => assumption); (case qk4 => assumption); k_whole)); intro h' o' k' F' N' hd'))) | (with_reducible ((with_reducible show wpAny _ _ (call (Value.builtin "dict.get") _) _ _ _); (k_here; (k_dflt (refine' dct_get ?qk1 ?qk2 ?qk3 ?qk4 ?_; (case qk1 => k_asm); (case qk2 => k_mem); (case qk3 => assumption); (case qk4 => assumption); k_whole)); intro _ _))) | (with_reducible ((with_reducible show wpAny _ _ (call (Value.builtin "dict.items") _) _ _ _); (k_here; (k_dflt (refine' dct_items ?qF ?qN ?qk2 ?qk3 ?qk4 ?_; (case qF => k_asm); (case qN => k_asm); (case qk2 => k_mem); (case qk3 => assumption); (case qk4 => assumption); k_whole)); intro V' h' hv' F' N'))) | (with_reducible ((with_reducible show wpAny _ _ (getMethod (Value.ref _) _ _) _ _ _); (k_here; (k_dflt (refine' dct_items_method ?qk1 ?qk2 ?qk3 ?_; (case qk1 => k_asm); (case qk2 => k_mem); (case qk3 => assumption); k_whole))))) | (with_reducible ((with_reducible show wpAny _ _ (getMethod (Value.ref _) _ _) _ _ _); (k_here; (k_dflt (refine' dct_method ?qk1 ?qk2 ?qk3 ?_; (case qk1 => k_asm); (case qk2 => k_mem); (case qk3 => assumption); k_whole))))) | (with_reducible (k_here; (with_reducible show wpAny _ _ (call (Value.ref 204) [Value.int _ _]) _ _ _); k_dflt (refine' way_tells ?qB ?qF ?qX ?qN ?qT ?qhk ?qhd ?qhu ?qhk1 ?qhk2 ?_; (  (case qB => k_asm); (case qF => k_asm); (case qX => k_asm); (case qN => k_asm); (case qT => k_asm); (case qhk => first | exact rfl | assumption); (case qhd => ktr_room); (case qhu => ktr_units)); (case qhk1 => (first | (with_reducible assumption) | omega | assumption)); (case qhk2 => (first | (with_reducible assumption) | omega | assumption)); k_whole); intro t' h' tk' F' N'; (try k_sweep))) | walk1 | (dsimp only; walk1)))
          · (with_reducible rename Fr _ _ _ _ => F20)
            (with_reducible rename News _ _ _ _ => N20)
            refine cend F20 hoC N20 hoff ⟨rfl, by rw [List.length_append]; exact Nat.succ_le_succ hwl, ?_⟩
            rw [range_next, if_pos (decide_eq_true (by assumption)), List.map_append]
            exact IntsAre.app hIw (.cons _ _ .nil)
          · (with_reducible rename Fr _ _ _ _ => F20)
            (with_reducible rename News _ _ _ _ => N20)
            refine cend F20 hoC N20 hoff ⟨rfl, Nat.le_succ_of_le hwl, ?_⟩
            rw [range_next, if_neg (fun q => by have := of_decide_eq_true q; contradiction), List.append_nil]
            exact hIw
        case fin =>
          rintro s10 tk10 hs10 ws nw ⟨rfl, hwl, hIw⟩ D8 h10 tk11 F21 N21 hD8
          rw [hs10]
          have hhalf : 0 ≤ halfOf ls := by
            have : 0 ≤ (sizes so).sum := sizes_pos fun e he => (hsz _ (so_mem hso he).2).1
            rw [so_sum hso] at this
            unfold halfOf
            exact Int.fdiv_nonneg this (by decide)
          obtain ⟨rr, hrr⟩ := cut_first (so := so) hhalf
          rw [hrr, List.map_cons] at hIw
          obtain ⟨t12, ws', rfl⟩ : ∃ t ws', ws = .int (cut so (halfOf ls) : Int) t :: ws' := by cases hIw; exact ⟨_, _, rfl⟩
          clear hIw hs10
          have hcl := cut_le so (halfOf ls)
          obtain ⟨c, hcd⟩ : ∃ c, c = cut so (halfOf ls) := ⟨_, rfl⟩
          rw [← hcd] at hcl N21
          have hwl2 : (.int (c : Int) t12 :: ws').length ≤ 1000 := by rw [← hcd] at hwl; (clear hcd hcl N21 hrr hhalf hD8 F21 hyl3 hrl d2n d1n N16 F16 q73 q72 q71 q63 q62 q61 hI2 hD7 hzl hLA3 hrm hD6 hI hyl2 hs8 ht8 hr3 hr2 hr1 hSr hS3 hS2 hS1 hse hso hrp' ep hSD hsd hD5 hyl hrp htr hrne hbase hs9 hLA1 hnl d3 d2 d1 l1 T' X' B' FG' hret hnm hsz hls hLA hu hd hk T N X F B; lia)
          clear F16 N16
          (repeat' ((fail_if_success (with_reducible first | show wpAny _ _ (pyIter _) _ _ _ | show wpAny _ _ (exec (Stmt.While _ _ _ _) _) _ _ _ | show wpAny _ _ (exec (Stmt.For _ _ _ _ _) _) _ _ _ | show TurnEnd _ _ _ _ _ _ _ | show TurnPost _ _ _ _ _ _ _ _ _ | show WhileStep _ _ _ _ _ _ _ | show WhileStep2 _ _ _ _ _ _ _ _ | show wpAny _ _ (eval (Expr.ListComp _ _ _ _) _) _ _ _ | show wpAny _ _ (exec (Stmt.Assign _ (Expr.ListComp _ _ _ _) _) _) _ _ _ | show wpAny _ _ (call (Value.builtin "sorted") _) _ _ _ | show wpAny _ _ (call (Value.builtin "sum") _) _ _ _ | show wpAny _ _ (call (Value.type "enumerate") _) _ _ _ | show wpAny _ _ (call (Value.type "range") _) _ _ _ | show wpAny _ _ (binaryOp _ (Value.ref _) (Value.ref _)) _ _ _ | show wpAny _ _ (call (Value.ref _) (Value.ref _ :: _)) _ _ _ | show wpAny _ _ (call (Value.ref 178) _) _ _ _)); first | ((with_reducible refine' isq_back ?e9 ?_); (case e9 => with_reducible assumption); (try dsimp only)) | ((with_reducible show wpAny _ _ (exec _ _) _ _ _); (refine gen_exec ?_); intro P9 hP9; walk1) | (k_unfold; (try dsimp only)) | (with_reducible (k_here; (with_reducible show wpAny _ _ (subscriptTail _ (PySem.Expr.Slice none (some _) none _) (Value.ref _) (Value.ref _)) _ _ _); k_dflt (refine' vst_upto ?qF ?qN ?ql ?qz ?_ ?qs ?qt; (case qF => k_asm); (case qN => k_asm); (case ql => k_mem); (case qz => assumption); (case qs => with_unfolding_all rfl); (case qt => kmk_pure)); intro D' h' F' N' l1; (try k_lt l1); (try k_sweep))) | (with_reducible (k_here; (with_reducible show wpAny _ _ (subscriptTail _ (PySem.Expr.Slice (some _) none none _) (Value.ref _) (Value.ref _)) _ _ _); k_dflt (refine' vst_from ?qF ?qN ?ql ?qz ?_ ?qs ?qt; (case qF => k_asm); (case qN => k_asm); (case ql => k_mem); (case qz => assumption); (case qs => with_unfolding_all rfl); (case qt => kmk_pure)); intro D' h' F' N' l1; (try k_lt l1); (try k_sweep))) | (with_reducible (k_here; (with_reducible show wpAny _ _ (call (Value.builtin "len") [Value.ref _]) _ _ _); (k_dflt (refine' vst_len ?qk1 ?qk2 ?qk4 ?_; (case qk1 => k_asm); (case qk2 => k_mem); (case qk4 => assumption); k_whole)); intro _ _)) | (with_reducible ((with_reducible show wpAny _ _ (binaryOp Operator.FloorDiv (Value.int _ _) (Value.int _ _)) _ _ _); (k_here; (refine div_pow (by assumption) ?_); intro _ _))) | (with_reducible ((with_reducible show wpAny _ _ (setItem (Value.ref _) (Value.str _ _) _) _ _ _); (k_here; (k_dflt (refine' dct_set ?qF ?qN ?qk2 ?qk3 ?qk4 ?_; (case qF => k_asm); (case qN => k_asm); (case qk2 => assumption); (case qk3 => assumption); (case qk4 => assumption); k_whole)); intro h' o' k' F' N' hd'))) | (with_reducible ((with_reducible show wpAny _ _ (call (Value.builtin "dict.get") _) _ _ _); (k_here; (k_dflt (refine' dct_get ?qk1 ?qk2 ?qk3 ?qk4 ?_; (case qk1 => k_asm); (case qk2 => k_mem); (case qk3 => assumption); (case qk4 => assumption); k_whole)); intro _ _))) | (with_reducible ((with_reducible show wpAny _ _ (call (Value.builtin "dict.items") _) _ _ _); (k_here; (k_dflt (refine' dct_items ?qF ?qN ?qk2 ?qk3 ?qk4 ?_; (case qF => k_asm); (case qN => k_asm); (case qk2 => k_mem); (case qk3 => assumption); (case qk4 => assumption); k_whole)); intro V' h' hv' F' N'))) | (with_reducible ((with_reducible show wpAny _ _ (getMethod (Value.ref _) _ _) _ _ _); (k_here; (k_dflt (refine' dct_items_method ?qk1 ?qk2 ?qk3 ?_; (case qk1 => k_asm); (case qk2 => k_mem); (case qk3 => assumption); k_whole))))) | (with_reducible ((with_reducible show wpAny _ _ (getMethod (Value.ref _) _ _) _ _ _); (k_here; (k_dflt (refine' dct_method ?qk1 ?qk2 ?qk3 ?_; (case qk1 => k_asm); (case qk2 => k_mem); (case qk3 => assumption); k_whole))))) | (with_reducible (k_here; (with_reducible show wpAny _ _ (call (Value.ref 204) [Value.int _ _]) _ _ _); k_dflt (refine' way_tells ?qB ?qF ?qX ?qN ?qT ?qhk ?qhd ?qhu ?qhk1 ?qhk2 ?_; (  (case qB => k_asm); (case qF => k_asm); (case qX => k_asm); (case qN => k_asm); (case qT => k_asm); (case qhk => first | exact rfl | assumption); (case qhd => ktr_room); (case qhu => ktr_units)); (case qhk1 => (first | (with_reducible assumption) | omega | assumption)); (case qhk2 => (first | (with_reducible assumption) | omega | assumption)); k_whole); intro t' h' tk' F' N'; (try k_sweep))) | walk1 | (dsimp only; walk1)))
          (with_reducible rename Fr _ _ _ _ => F22)
          (with_reducible rename News _ _ _ _ => N22)
          (refine gen_exec ?_); intro P8 hP8
          k_dflt refine' For_turns F22 ?_
          (repeat' ((fail_if_success (with_reducible first | show wpAny _ _ (pyIter _) _ _ _ | show wpAny _ _ (exec (Stmt.While _ _ _ _) _) _ _ _ | show wpAny _ _ (exec (Stmt.For _ _ _ _ _) _) _ _ _ | show TurnEnd _ _ _ _ _ _ _ | show TurnPost _ _ _ _ _ _ _ _ _ | show WhileStep _ _ _ _ _ _ _ | show WhileStep2 _ _ _ _ _ _ _ _ | show wpAny _ _ (eval (Expr.ListComp _ _ _ _) _) _ _ _ | show wpAny _ _ (exec (Stmt.Assign _ (Expr.ListComp _ _ _ _) _) _) _ _ _ | show wpAny _ _ (call (Value.builtin "sorted") _) _ _ _ | show wpAny _ _ (call (Value.builtin "sum") _) _ _ _ | show wpAny _ _ (call (Value.type "enumerate") _) _ _ _ | show wpAny _ _ (call (Value.type "range") _) _ _ _ | show wpAny _ _ (binaryOp _ (Value.ref _) (Value.ref _)) _ _ _ | show wpAny _ _ (call (Value.ref _) (Value.ref _ :: _)) _ _ _ | show wpAny _ _ (call (Value.ref 178) _) _ _ _)); first | ((with_reducible refine' isq_back ?e9 ?_); (case e9 => with_reducible assumption); (try dsimp only)) | ((with_reducible show wpAny _ _ (exec _ _) _ _ _); (refine gen_exec ?_); intro P9 hP9; walk1) | (k_unfold; (try dsimp only)) | (with_reducible (k_here; (with_reducible show wpAny _ _ (subscriptTail _ (PySem.Expr.Slice none (some _) none _) (Value.ref _) (Value.ref _)) _ _ _); k_dflt (refine' vst_upto ?qF ?qN ?ql ?qz ?_ ?qs ?qt; (case qF => k_asm); (case qN => k_asm); (case ql => k_mem); (case qz => assumption); (case qs => with_unfolding_all rfl); (case qt => kmk_pure)); intro D' h' F' N' l1; (try k_lt l1); (try k_sweep))) | (with_reducible (k_here; (with_reducible show wpAny _ _ (subscriptTail _ (PySem.Expr.Slice (some _) none none _) (Value.ref _) (Value.ref _)) _ _ _); k_dflt (refine' vst_from ?qF ?qN ?ql ?qz ?_ ?qs ?qt; (case qF => k_asm); (case qN => k_asm); (case ql => k_mem); (case qz => assumption); (case qs => with_unfolding_all rfl); (case qt => kmk_pure)); intro D' h' F' N' l1; (try k_lt l1); (try k_sweep))) | (with_reducible (k_here; (with_reducible show wpAny _ _ (call (Value.builtin "len") [Value.ref _]) _ _ _); (k_dflt (refine' vst_len ?qk1 ?qk2 ?qk4 ?_; (case qk1 => k_asm); (case qk2 => k_mem); (case qk4 => assumption); k_whole)); intro _ _)) | (with_reducible ((with_reducible show wpAny _ _ (binaryOp Operator.FloorDiv (Value.int _ _) (Value.int _ _)) _ _ _); (k_here; (refine div_pow (by assumption) ?_); intro _ _))) | (with_reducible ((with_reducible show wpAny _ _ (setItem (Value.ref _) (Value.str _ _) _) _ _ _); (k_here; (k_dflt (refine' dct_set ?qF ?qN ?qk2 ?qk3 ?qk4 ?_; (case qF => k_asm); (case qN => k_asm); (case qk2 => assumption); (case qk3 => assumption); (case qk4 => assumption); k_whole)); intro h' o' k' F' N' hd'))) | (with_reducible ((with_reducible show wpAny _ _ (call (Value.builtin "dict.get") _) _ _ _); (k_here; (k_dflt (refine' dct_get ?qk1 ?qk2 ?qk3 ?qk4 ?_; (case qk1 => k_asm); (case qk2 => k_mem); (case qk3 => assumption); (case qk4 => assumption); k_whole)); intro _ _))) | (with_reducible ((with_reducible show wpAny _ _ (call (Value.builtin "dict.items") _) _ _ _); (k_here; (k_dflt (refine' dct_items ?qF ?qN ?qk2 ?qk3 ?qk4 ?_; (case qF => k_asm); (case qN => k_asm); (case qk2 => k_mem); (case qk3 => assumption); (case qk4 => assumption); k_whole)); intro V' h' hv' F' N'))) | (with_reducible ((with_reducible show wpAny _ _ (getMethod (Value.ref _) _ _) _ _ _); (k_here; (k_dflt (refine' dct_items_method ?qk1 ?qk2 ?qk3 ?_; (case qk1 => k_asm); (case qk2 => k_mem); (case qk3 => assumption); k_whole))))) | (with_reducible ((with_reducible show wpAny _ _ (getMethod (Value.ref _) _ _) _ _ _); (k_here; (k_dflt (refine' dct_method ?qk1 ?qk2 ?qk3 ?_; (case qk1 => k_asm); (case qk2 => k_mem); (case qk3 => assumption); k_whole))))) | (with_reducible (k_here; (with_reducible show wpAny _ _ (call (Value.ref 204) [Value.int _ _]) _ _ _); k_dflt (refine' way_tells ?qB ?qF ?qX ?qN ?qT ?qhk ?qhd ?qhu ?qhk1 ?qhk2 ?_; (  (case qB => k_asm); (case qF => k_asm); (case qX => k_asm); (case qN => k_asm); (case qT => k_asm); (case qhk => first | exact rfl | assumption); (case qhd => ktr_room); (case qhu => ktr_units)); (case qhk1 => (first | (with_reducible assumption) | omega | assumption)); (case qhk2 => (first | (with_reducible assumption) | omega | assumption)); k_whole); intro t' h' tk' F' N'; (try k_sweep))) | walk1 | (dsimp only; walk1)))
          (rename Obj.IsDictOf (PySem.strKind _ _) _ _ => hdc)
          (with_reducible rename Fr _ _ _ _ => F23)
          (with_reducible rename News _ _ _ _ => N23)

          refine name_two N23 ?_
          intro TD CA o6 e6 e7 e8
          subst e6 e7 e8
          have hord : CA < TD ∧ D8 < TD ∧ D6 < TD ∧ SD < TD ∧ L' + 1 + 1 + 1 < TD ∧ L' + 1 + 1 < TD ∧ L' + 1 < TD ∧ AllLt TD r := by assumption
          have hord2 : D8 < CA ∧ D6 < CA ∧ SD < CA ∧ L' + 1 + 1 + 1 < CA ∧ L' + 1 + 1 < CA ∧ L' + 1 < CA ∧ AllLt CA r := by assumption
          have hCAr := allLt_ne hord2.2.2.2.2.2.2
          have hTDN := (N23 _ (.head _))
          k_dflt refine' for_listT (vs := List.drop c (tr'.map (·.1))) (news := (L' + 1, o3) :: (CA, o6) :: (SD, listOf (List.map (fun x => x.1) tr').toArray se) :: r)
            (fun i m₁ nx => ∃ oN oC v, DueB L' CA SD tr' se r w t12 c so i m₁ nx oN oC v) ?hh ?hl ?hlL F23 ?N ?hj ?turn ?done
          case hh => exact rfl
          case hl => exact ⟨_, hTDN.1, rfl, 0, rfl⟩
          case hlL => exact hTDN.2.1
          case N =>
            intro p hp
            rcases mem3 hp with rfl | rfl | hp
            · exact N23 _ (.tail _ (.tail _ (.tail _ (.tail _ (.tail _ (.tail _ (.tail _ (.head _))))))))
            · exact N23 _ (.tail _ (.head _))
            · rcases List.mem_cons.mp hp with rfl | hp
              · exact N23 _ (.tail _ (.tail _ (.tail _ (.tail _ (.head _)))))
              · exact N23 _ (.tail _ (.tail _ (.tail _ (.tail _ (.tail _ (.tail _ (.tail _ (.tail _ hp))))))))
          case hj => exact ⟨o3, o6, _, rfl, rfl, rfl, rfl, d3, [], hdc, .nil⟩
          case turn =>
            rintro i v m₁ nx h tk own I hi hv ⟨oN, oC, v0, hm1, hm2, hm3, rfl, hoN, hDC⟩ hown hoff hI1 hlt F24 N24
            rw [List.getElem?_drop] at hv
            obtain ⟨p, a, n4, t1, t2, t3, t4, hp, rfl, hma⟩ := row_at hrp' hv
            have F25 := fr_known3 F24 hm1 hm2 hm3
            clear F24
            have N25 : News g' _ h ((a, listOf #[.int p.2.2.1 t1, .int (-p.2.2.2.1) t2, .str (pathS p.2) t3, .int (p.2.2.2.2.natAbs : Int) t4] n4) :: (L' + 1, oN) :: (CA, oC) :: (SD, listOf (List.map (fun x => x.1) tr').toArray se) :: (r ++ own)) := fun q hq => by
              rcases List.mem_cons.mp hq with rfl | hq
              · exact N24 _ (.tail _ (.tail _ (.tail _ (List.mem_append_left _ hma))))
              · exact N24 _ hq
            clear N24
            have qa : @Ne Nat a (L' + 1) := hr3 _ hma
            have qc : @LT.lt Nat _ (L' + 1) CA := hord2.2.2.2.2.2.1
            have qac : @Ne Nat a CA := hCAr _ hma
            have qsc : @LT.lt Nat _ SD CA := hord2.2.2.1
            have hI0 : @LT.lt Nat _ (L' + 1) I := hlt _ (.head _)
            have hIC : @LT.lt Nat _ CA I := hlt (CA, o6) (.tail _ (.head _))
            have hown3 : ∀ p ∈ own, p.1 ≠ L' + 1 ∧ p.1 ≠ CA := fun p hp => by
              rcases hown p hp with e | e <;> rw [e]
              · exact ⟨Nat.ne_of_gt hI0, Nat.ne_of_gt hIC⟩
              · exact ⟨Nat.ne_of_gt hord.2.2.2.2.2.2.1, Nat.ne_of_gt hord.1⟩
            have hro3 : ∀ p ∈ r ++ own, p.1 ≠ L' + 1 := fun p hp => (List.mem_append.mp hp).elim (hr3 p) fun h => (hown3 p h).1
            have hro4 : ∀ p ∈ r ++ own, p.1 ≠ CA := fun p hp => (List.mem_append.mp hp).elim (hCAr p) fun h => (hown3 p h).2
            (repeat' ((fail_if_success (with_reducible first | show wpAny _ _ (pyIter _) _ _ _ | show wpAny _ _ (exec (Stmt.While _ _ _ _) _) _ _ _ | show wpAny _ _ (exec (Stmt.For _ _ _ _ _) _) _ _ _ | show TurnEnd _ _ _ _ _ _ _ | show TurnPost _ _ _ _ _ _ _ _ _ | show WhileStep _ _ _ _ _ _ _ | show WhileStep2 _ _ _ _ _ _ _ _ | show wpAny _ _ (eval (Expr.ListComp _ _ _ _) _) _ _ _ | show wpAny _ _ (exec (Stmt.Assign _ (Expr.ListComp _ _ _ _) _) _) _ _ _ | show wpAny _ _ (call (Value.builtin "sorted") _) _ _ _ | show wpAny _ _ (call (Value.builtin "sum") _) _ _ _ | show wpAny _ _ (call (Value.type "enumerate") _) _ _ _ | show wpAny _ _ (call (Value.type "range") _) _ _ _ | show wpAny _ _ (binaryOp _ (Value.ref _) (Value.ref _)) _ _ _ | show wpAny _ _ (call (Value.ref _) (Value.ref _ :: _)) _ _ _ | show wpAny _ _ (call (Value.ref 178) _) _ _ _)); first | ((with_reducible refine' isq_back ?e9 ?_); (case e9 => with_reducible assumption); (try dsimp only)) | ((with_reducible show wpAny _ _ (exec _ _) _ _ _); (refine gen_exec ?_); intro P9 hP9; walk1) | (k_unfold; (try dsimp only)) | (with_reducible (k_here; (with_reducible show wpAny _ _ (subscriptTail _ (PySem.Expr.Slice none (some _) none _) (Value.ref _) (Value.ref _)) _ _ _); k_dflt (refine' vst_upto ?qF ?qN ?ql ?qz ?_ ?qs ?qt; (case qF => k_asm); (case qN => k_asm); (case ql => k_mem); (case qz => assumption); (case qs => with_unfolding_all rfl); (case qt => kmk_pure)); intro D' h' F' N' l1; (try k_lt l1); (try k_sweep))) | (with_reducible (k_here; (with_reducible show wpAny _ _ (subscriptTail _ (PySem.Expr.Slice (some _) none none _) (Value.ref _) (Value.ref _)) _ _ _); k_dflt (refine' vst_from ?qF ?qN ?ql ?qz ?_ ?qs ?qt; (case qF => k_asm); (case qN => k_asm); (case ql => k_mem); (case qz => assumption); (case qs => with_unfolding_all rfl); (case qt => kmk_pure)); intro D' h' F' N' l1; (try k_lt l1); (try k_sweep))) | (with_reducible (k_here; (with_reducible show wpAny _ _ (call (Value.builtin "len") [Value.ref _]) _ _ _); (k_dflt (refine' vst_len ?qk1 ?qk2 ?qk4 ?_; (case qk1 => k_asm); (case qk2 => k_mem); (case qk4 => assumption); k_whole)); intro _ _)) | (with_reducible ((with_reducible show wpAny _ _ (binaryOp Operator.FloorDiv (Value.int _ _) (Value.int _ _)) _ _ _); (k_here; (refine div_pow (by assumption) ?_); intro _ _))) | (with_reducible ((with_reducible show wpAny _ _ (setItem (Value.ref _) (Value.str _ _) _) _ _ _); (k_here; (k_dflt (refine' dct_set ?qF ?qN ?qk2 ?qk3 ?qk4 ?_; (case qF => k_asm); (case qN => k_asm); (case qk2 => assumption); (case qk3 => assumption); (case qk4 => assumption); k_whole)); intro h' o' k' F' N' hd'))) | (with_reducible ((with_reducible show wpAny _ _ (call (Value.builtin "dict.get") _) _ _ _); (k_here; (k_dflt (refine' dct_get ?qk1 ?qk2 ?qk3 ?qk4 ?_; (case qk1 => k_asm); (case qk2 => k_mem); (case qk3 => assumption); (case qk4 => assumption); k_whole)); intro _ _))) | (with_reducible ((with_reducible show wpAny _ _ (call (Value.builtin "dict.items") _) _ _ _); (k_here; (k_dflt (refine' dct_items ?qF ?qN ?qk2 ?qk3 ?qk4 ?_; (case qF => k_asm); (case qN => k_asm); (case qk2 => k_mem); (case qk3 => assumption); (case qk4 => assumption); k_whole)); intro V' h' hv' F' N'))) | (with_reducible ((with_reducible show wpAny _ _ (getMethod (Value.ref _) _ _) _ _ _); (k_here; (k_dflt (refine' dct_items_method ?qk1 ?qk2 ?qk3 ?_; (case qk1 => k_asm); (case qk2 => k_mem); (case qk3 => assumption); k_whole))))) | (with_reducible ((with_reducible show wpAny _ _ (getMethod (Value.ref _) _ _) _ _ _); (k_here; (k_dflt (refine' dct_method ?qk1 ?qk2 ?qk3 ?_; (case qk1 => k_asm); (case qk2 => k_mem); (case qk3 => assumption); k_whole))))) | (with_reducible (k_here; (with_reducible show wpAny _ _ (call (Value.ref 204) [Value.int _ _]) _ _ _); k_dflt (refine' way_tells ?qB ?qF ?qX ?qN ?qT ?qhk ?qhd ?qhu ?qhk1 ?qhk2 ?_; (  (case qB => k_asm); (case qF => k_asm); (case qX => k_asm); (case qN => k_asm); (case qT => k_asm); (case qhk => first | exact rfl | assumption); (case qhd => ktr_room); (case qhu => ktr_units)); (case qhk1 => (first | (with_reducible assumption) | omega | assumption)); (case qhk2 => (first | (with_reducible assumption) | omega | assumption)); k_whole); intro t' h' tk' F' N'; (try k_sweep))) | walk1 | (dsimp only; walk1)))
            (rename _ = Data.cell (some (Value.int _ _)) => dN)
            (with_reducible rename Fr _ _ _ _ => F26)
            (with_reducible rename News _ _ _ _ => N26)
            refine news_second N26 fun oN2 e9 N27 => ?_
            subst e9
            clear N26
            have N28 : News g' L' _ ((L' + 1, oN2) :: (CA, oC) :: (SD, listOf (List.map (fun x => x.1) tr').toArray se) :: (r ++ own)) := fun q hq => N27 q (.tail _ hq)
            clear N27
            obtain ⟨q, hq⟩ : ∃ q, q = p.2.2.2.2.natAbs := ⟨_, rfl⟩
            rw [← hq] at dN
            (refine gen_exec ?_); intro P8 hP8
            k_dflt refine' for_go F26 rfl rfl ?_
            (repeat' ((fail_if_success (with_reducible first | show wpAny _ _ (pyIter _) _ _ _ | show wpAny _ _ (exec (Stmt.While _ _ _ _) _) _ _ _ | show wpAny _ _ (exec (Stmt.For _ _ _ _ _) _) _ _ _ | show TurnEnd _ _ _ _ _ _ _ | show TurnPost _ _ _ _ _ _ _ _ _ | show WhileStep _ _ _ _ _ _ _ | show WhileStep2 _ _ _ _ _ _ _ _ | show wpAny _ _ (eval (Expr.ListComp _ _ _ _) _) _ _ _ | show wpAny _ _ (exec (Stmt.Assign _ (Expr.ListComp _ _ _ _) _) _) _ _ _ | show wpAny _ _ (call (Value.builtin "sorted") _) _ _ _ | show wpAny _ _ (call (Value.builtin "sum") _) _ _ _ | show wpAny _ _ (call (Value.type "enumerate") _) _ _ _ | show wpAny _ _ (call (Value.type "range") _) _ _ _ | show wpAny _ _ (binaryOp _ (Value.ref _) (Value.ref _)) _ _ _ | show wpAny _ _ (call (Value.ref _) (Value.ref _ :: _)) _ _ _ | show wpAny _ _ (call (Value.ref 178) _) _ _ _)); first | ((with_reducible refine' isq_back ?e9 ?_); (case e9 => with_reducible assumption); (try dsimp only)) | ((with_reducible show wpAny _ _ (exec _ _) _ _ _); (refine gen_exec ?_); intro P9 hP9; walk1) | (k_unfold; (try dsimp only)) | (with_reducible (k_here; (with_reducible show wpAny _ _ (subscriptTail _ (PySem.Expr.Slice none (some _) none _) (Value.ref _) (Value.ref _)) _ _ _); k_dflt (refine' vst_upto ?qF ?qN ?ql ?qz ?_ ?qs ?qt; (case qF => k_asm); (case qN => k_asm); (case ql => k_mem); (case qz => assumption); (case qs => with_unfolding_all rfl); (case qt => kmk_pure)); intro D' h' F' N' l1; (try k_lt l1); (try k_sweep))) | (with_reducible (k_here; (with_reducible show wpAny _ _ (subscriptTail _ (PySem.Expr.Slice (some _) none none _) (Value.ref _) (Value.ref _)) _ _ _); k_dflt (refine' vst_from ?qF ?qN ?ql ?qz ?_ ?qs ?qt; (case qF => k_asm); (case qN => k_asm); (case ql => k_mem); (case qz => assumption); (case qs => with_unfolding_all rfl); (case qt => kmk_pure)); intro D' h' F' N' l1; (try k_lt l1); (try k_sweep))) | (with_reducible (k_here; (with_reducible show wpAny _ _ (call (Value.builtin "len") [Value.ref _]) _ _ _); (k_dflt (refine' vst_len ?qk1 ?qk2 ?qk4 ?_; (case qk1 => k_asm); (case qk2 => k_mem); (case qk4 => assumption); k_whole)); intro _ _)) | (with_reducible ((with_reducible show wpAny _ _ (binaryOp Operator.FloorDiv (Value.int _ _) (Value.int _ _)) _ _ _); (k_here; (refine div_pow (by assumption) ?_); intro _ _))) | (with_reducible ((with_reducible show wpAny _ _ (setItem (Value.ref _) (Value.str _ _) _) _ _ _); (k_here; (k_dflt (refine' dct_set ?qF ?qN ?qk2 ?qk3 ?qk4 ?_; (case qF => k_asm); (case qN => k_asm); (case qk2 => assumption); (case qk3 => assumption); (case qk4 => assumption); k_whole)); intro h' o' k' F' N' hd'))) | (with_reducible ((with_reducible show wpAny _ _ (call (Value.builtin "dict.get") _) _ _ _); (k_here; (k_dflt (refine' dct_get ?qk1 ?qk2 ?qk3 ?qk4 ?_; (case qk1 => k_asm); (case qk2 => k_mem); (case qk3 => assumption); (case qk4 => assumption); k_whole)); intro _ _))) | (with_reducible ((with_reducible show wpAny _ _ (call (Value.builtin "dict.items") _) _ _ _); (k_here; (k_dflt (refine' dct_items ?qF ?qN ?qk2 ?qk3 ?qk4 ?_; (case qF => k_asm); (case qN => k_asm); (case qk2 => k_mem); (case qk3 => assumption); (case qk4 => assumption); k_whole)); intro V' h' hv' F' N'))) | (with_reducible ((with_reducible show wpAny _ _ (getMethod (Value.ref _) _ _) _ _ _); (k_here; (k_dflt (refine' dct_items_method ?qk1 ?qk2 ?qk3 ?_; (case qk1 => k_asm); (case qk2 => k_mem); (case qk3 => assumption); k_whole))))) | (with_reducible ((with_reducible show wpAny _ _ (getMethod (Value.ref _) _ _) _ _ _); (k_here; (k_dflt (refine' dct_method ?qk1 ?qk2 ?qk3 ?_; (case qk1 => k_asm); (case qk2 => k_mem); (case qk3 => assumption); k_whole))))) | (with_reducible (k_here; (with_reducible show wpAny _ _ (call (Value.ref 204) [Value.int _ _]) _ _ _); k_dflt (refine' way_tells ?qB ?qF ?qX ?qN ?qT ?qhk ?qhd ?qhu ?qhk1 ?qhk2 ?_; (  (case qB => k_asm); (case qF => k_asm); (case qX => k_asm); (case qN => k_asm); (case qT => k_asm); (case qhk => first | exact rfl | assumption); (case qhd => ktr_room); (case qhu => ktr_units)); (case qhk1 => (first | (with_reducible assumption) | omega | assumption)); (case qhk2 => (first | (with_reducible assumption) | omega | assumption)); k_whole); intro t' h' tk' F' N'; (try k_sweep))) | walk1 | (dsimp only; walk1)))
            (with_reducible rename Fr _ _ _ _ => F29)
            (with_reducible rename News _ _ _ _ => N29)
            k_dflt (refine' comp_eval F29 ?c1 ?c2 ?c3 ?c4 ?_; (case c1 => with_unfolding_all rfl); (case c2 => decide); (case c3 => exact rfl); (case c4 => decide))
            (repeat' ((fail_if_success (with_reducible first | show wpAny _ _ (pyIter _) _ _ _ | show wpAny _ _ (exec (Stmt.While _ _ _ _) _) _ _ _ | show wpAny _ _ (exec (Stmt.For _ _ _ _ _) _) _ _ _ | show TurnEnd _ _ _ _ _ _ _ | show TurnPost _ _ _ _ _ _ _ _ _ | show WhileStep _ _ _ _ _ _ _ | show WhileStep2 _ _ _ _ _ _ _ _ | show wpAny _ _ (eval (Expr.ListComp _ _ _ _) _) _ _ _ | show wpAny _ _ (exec (Stmt.Assign _ (Expr.ListComp _ _ _ _) _) _) _ _ _ | show wpAny _ _ (call (Value.builtin "sorted") _) _ _ _ | show wpAny _ _ (call (Value.builtin "sum") _) _ _ _ | show wpAny _ _ (call (Value.type "enumerate") _) _ _ _ | show wpAny _ _ (call (Value.type "range") _) _ _ _ | show wpAny _ _ (binaryOp _ (Value.ref _) (Value.ref _)) _ _ _ | show wpAny _ _ (call (Value.ref _) (Value.ref _ :: _)) _ _ _ | show wpAny _ _ (call (Value.ref 178) _) _ _ _)); first | ((with_reducible refine' isq_back ?e9 ?_); (case e9 => with_reducible assumption); (try dsimp only)) | ((with_reducible show wpAny _ _ (exec _ _) _ _ _); (refine gen_exec ?_); intro P9 hP9; walk1) | (k_unfold; (try dsimp only)) | (with_reducible (k_here; (with_reducible show wpAny _ _ (subscriptTail _ (PySem.Expr.Slice none (some _) none _) (Value.ref _) (Value.ref _)) _ _ _); k_dflt (refine' vst_upto ?qF ?qN ?ql ?qz ?_ ?qs ?qt; (case qF => k_asm); (case qN => k_asm); (case ql => k_mem); (case qz => assumption); (case qs => with_unfolding_all rfl); (case qt => kmk_pure)); intro D' h' F' N' l1; (try k_lt l1); (try k_sweep))) | (with_reducible (k_here; (with_reducible show wpAny _ _ (subscriptTail _ (PySem.Expr.Slice (some _) none none _) (Value.ref _) (Value.ref _)) _ _ _); k_dflt (refine' vst_from ?qF ?qN ?ql ?qz ?_ ?qs ?qt; (case qF => k_asm); (case qN => k_asm); (case ql => k_mem); (case qz => assumption); (case qs => with_unfolding_all rfl); (case qt => kmk_pure)); intro D' h' F' N' l1; (try k_lt l1); (try k_sweep))) | (with_reducible (k_here; (with_reducible show wpAny _ _ (call (Value.builtin "len") [Value.ref _]) _ _ _); (k_dflt (refine' vst_len ?qk1 ?qk2 ?qk4 ?_; (case qk1 => k_asm); (case qk2 => k_mem); (case qk4 => assumption); k_whole)); intro _ _)) | (with_reducible ((with_reducible show wpAny _ _ (binaryOp Operator.FloorDiv (Value.int _ _) (Value.int _ _)) _ _ _); (k_here; (refine div_pow (by assumption) ?_); intro _ _))) | (with_reducible ((with_reducible show wpAny _ _ (setItem (Value.ref _) (Value.str _ _) _) _ _ _); (k_here; (k_dflt (refine' dct_set ?qF ?qN ?qk2 ?qk3 ?qk4 ?_; (case qF => k_asm); (case qN => k_asm); (case qk2 => assumption); (case qk3 => assumption); (case qk4 => assumption); k_whole)); intro h' o' k' F' N' hd'))) | (with_reducible ((with_reducible show wpAny _ _ (call (Value.builtin "dict.get") _) _ _ _); (k_here; (k_dflt (refine' dct_get ?qk1 ?qk2 ?qk3 ?qk4 ?_; (case qk1 => k_asm); (case qk2 => k_mem); (case qk3 => assumption); (case qk4 => assumption); k_whole)); intro _ _))) | (with_reducible ((with_reducible show wpAny _ _ (call (Value.builtin "dict.items") _) _ _ _); (k_here; (k_dflt (refine' dct_items ?qF ?qN ?qk2 ?qk3 ?qk4 ?_; (case qF => k_asm); (case qN => k_asm); (case qk2 => k_mem); (case qk3 => assumption); (case qk4 => assumption); k_whole)); intro V' h' hv' F' N'))) | (with_reducible ((with_reducible show wpAny _ _ (getMethod (Value.ref _) _ _) _ _ _); (k_here; (k_dflt (refine' dct_items_method ?qk1 ?qk2 ?qk3 ?_; (case qk1 => k_asm); (case qk2 => k_mem); (case qk3 => assumption); k_whole))))) | (with_reducible ((with_reducible show wpAny _ _ (getMethod (Value.ref _) _ _) _ _ _); (k_here; (k_dflt (refine' dct_method ?qk1 ?qk2 ?qk3 ?_; (case qk1 => k_asm); (case qk2 => k_mem); (case qk3 => assumption); k_whole))))) | (with_reducible (k_here; (with_reducible show wpAny _ _ (call (Value.ref 204) [Value.int _ _]) _ _ _); k_dflt (refine' way_tells ?qB ?qF ?qX ?qN ?qT ?qhk ?qhd ?qhu ?qhk1 ?qhk2 ?_; (  (case qB => k_asm); (case qF => k_asm); (case qX => k_asm); (case qN => k_asm); (case qT => k_asm); (case qhk => first | exact rfl | assumption); (case qhd => ktr_room); (case qhu => ktr_units)); (case qhk1 => (first | (with_reducible assumption) | omega | assumption)); (case qhk2 => (first | (with_reducible assumption) | omega | assumption)); k_whole); intro t' h' tk' F' N'; (try k_sweep))) | walk1 | (dsimp only; walk1)))
            (with_reducible rename Fr _ _ _ _ => F30)
            (with_reducible rename News _ _ _ _ => N30)
            refine news_first N30 fun Z0 oz rz e1 e2 e3 N31 => ?_
            subst e1 e3
            have hoz : ∃ tz, oz = listOf #[.int 0 tz] 0 := ⟨_, e2⟩
            clear e2 N30
            have hZ : L' + 1 < Z0 ∧ CA < Z0 ∧ SD < Z0 ∧ AllLt Z0 (r ++ own) := by assumption
            k_dflt refine' comp_rangeN (n := 12) (fun i ws nw => nw = (Z0, oz) :: (L' + 1, oN2) :: (CA, oC) :: (SD, listOf (List.map (fun x => x.1) tr').toArray se) :: (r ++ own) ∧ ws.length ≤ i ∧
              IntsAre ws (((List.range i).filter fun k => decide (0 < q / 16 ^ k)).map fun k : Nat => ((q / 16 ^ k : Nat) : Int))) ?hh ?hkn ?hn F30 N31 ?hlen2 ?h0 ?hkind ?hx ?step ?fin
            case hh => exact rfl
            case hkn => rfl
            case hn => decide
            case hlen2 => exact fun i ws nw h => h.2.1
            case h0 => exact ⟨rfl, Nat.le_refl _, .nil⟩
            case hkind => exact rfl
            case hx => decide
            case step =>
              rintro s' I2 hlt2 j ws nw own2 h₁ tk₁ C oC2 mC D E' hj ⟨rfl, hwl, hIw⟩ ⟨t9, hm5⟩ hoff2 hown2 hwr hCD F₁ hoC2 N₁
              replace N₁ : News g' _ h₁ ((C, oC2) :: (D, LCg.lst ws) :: (Z0, oz) :: (L' + 1, oN2) :: (CA, oC) :: (SD, listOf (List.map (fun x => x.1) tr').toArray se) :: (r ++ own ++ own2)) := N₁
              refine tst_one ?_
              (repeat' ((fail_if_success (with_reducible first | show wpAny _ _ (pyIter _) _ _ _ | show wpAny _ _ (exec (Stmt.While _ _ _ _) _) _ _ _ | show wpAny _ _ (exec (Stmt.For _ _ _ _ _) _) _ _ _ | show TurnEnd _ _ _ _ _ _ _ | show TurnPost _ _ _ _ _ _ _ _ _ | show WhileStep _ _ _ _ _ _ _ | show WhileStep2 _ _ _ _ _ _ _ _ | show wpAny _ _ (eval (Expr.ListComp _ _ _ _) _) _ _ _ | show wpAny _ _ (exec (Stmt.Assign _ (Expr.ListComp _ _ _ _) _) _) _ _ _ | show wpAny _ _ (call (Value.builtin "sorted") _) _ _ _ | show wpAny _ _ (call (Value.builtin "sum") _) _ _ _ | show wpAny _ _ (call (Value.type "enumerate") _) _ _ _ | show wpAny _ _ (call (Value.type "range") _) _ _ _ | show wpAny _ _ (binaryOp _ (Value.ref _) (Value.ref _)) _ _ _ | show wpAny _ _ (call (Value.ref _) (Value.ref _ :: _)) _ _ _ | show wpAny _ _ (call (Value.ref 178) _) _ _ _)); first | ((with_reducible refine' isq_back ?e9 ?_); (case e9 => with_reducible assumption); (try dsimp only)) | ((with_reducible show wpAny _ _ (exec _ _) _ _ _); (refine gen_exec ?_); intro P9 hP9; walk1) | (k_unfold; (try dsimp only)) | (with_reducible (k_here; (with_reducible show wpAny _ _ (subscriptTail _ (PySem.Expr.Slice none (some _) none _) (Value.ref _) (Value.ref _)) _ _ _); k_dflt (refine' vst_upto ?qF ?qN ?ql ?qz ?_ ?qs ?qt; (case qF => k_asm); (case qN => k_asm); (case ql => k_mem); (case qz => assumption); (case qs => with_unfolding_all rfl); (case qt => kmk_pure)); intro D' h' F' N' l1; (try k_lt l1); (try k_sweep))) | (with_reducible (k_here; (with_reducible show wpAny _ _ (subscriptTail _ (PySem.Expr.Slice (some _) none none _) (Value.ref _) (Value.ref _)) _ _ _); k_dflt (refine' vst_from ?qF ?qN ?ql ?qz ?_ ?qs ?qt; (case qF => k_asm); (case qN => k_asm); (case ql => k_mem); (case qz => assumption); (case qs => with_unfolding_all rfl); (case qt => kmk_pure)); intro D' h' F' N' l1; (try k_lt l1); (try k_sweep))) | (with_reducible (k_here; (with_reducible show wpAny _ _ (call (Value.builtin "len") [Value.ref _]) _ _ _); (k_dflt (refine' vst_len ?qk1 ?qk2 ?qk4 ?_; (case qk1 => k_asm); (case qk2 => k_mem); (case qk4 => assumption); k_whole)); intro _ _)) | (with_reducible ((with_reducible show wpAny _ _ (binaryOp Operator.FloorDiv (Value.int _ _) (Value.int _ _)) _ _ _); (k_here; (refine div_pow (by assumption) ?_); intro _ _))) | (with_reducible ((with_reducible show wpAny _ _ (setItem (Value.ref _) (Value.str _ _) _) _ _ _); (k_here; (k_dflt (refine' dct_set ?qF ?qN ?qk2 ?qk3 ?qk4 ?_; (case qF => k_asm); (case qN => k_asm); (case qk2 => assumption); (case qk3 => assumption); (case qk4 => assumption); k_whole)); intro h' o' k' F' N' hd'))) | (with_reducible ((with_reducible show wpAny _ _ (call (Value.builtin "dict.get") _) _ _ _); (k_here; (k_dflt (refine' dct_get ?qk1 ?qk2 ?qk3 ?qk4 ?_; (case qk1 => k_asm); (case qk2 => k_mem); (case qk3 => assumption); (case qk4 => assumption); k_whole)); intro _ _))) | (with_reducible ((with_reducible show wpAny _ _ (call (Value.builtin "dict.items") _) _ _ _); (k_here; (k_dflt (refine' dct_items ?qF ?qN ?qk2 ?qk3 ?qk4 ?_; (case qF => k_asm); (case qN => k_asm); (case qk2 => k_mem); (case qk3 => assumption); (case qk4 => assumption); k_whole)); intro V' h' hv' F' N'))) | (with_reducible ((with_reducible show wpAny _ _ (getMethod (Value.ref _) _ _) _ _ _); (k_here; (k_dflt (refine' dct_items_method ?qk1 ?qk2 ?qk3 ?_; (case qk1 => k_asm); (case qk2 => k_mem); (case qk3 => assumption); k_whole))))) | (with_reducible ((with_reducible show wpAny _ _ (getMethod (Value.ref _) _ _) _ _ _); (k_here; (k_dflt (refine' dct_method ?qk1 ?qk2 ?qk3 ?_; (case qk1 => k_asm); (case qk2 => k_mem); (case qk3 => assumption); k_whole))))) | (with_reducible (k_here; (with_reducible show wpAny _ _ (call (Value.ref 204) [Value.int _ _]) _ _ _); k_dflt (refine' way_tells ?qB ?qF ?qX ?qN ?qT ?qhk ?qhd ?qhu ?qhk1 ?qhk2 ?_; (  (case qB => k_asm); (case qF => k_asm); (case qX => k_asm); (case qN => k_asm); (case qT => k_asm); (case qhk => first | exact rfl | assumption); (case qhd => ktr_room); (case qhu => ktr_units)); (case qhk1 => (first | (with_reducible assumption) | omega | assumption)); (case qhk2 => (first | (with_reducible assumption) | omega | assumption)); k_whole); intro t' h' tk' F' N'; (try k_sweep))) | walk1 | (dsimp only; walk1)))
              · (with_reducible rename Fr _ _ _ _ => F32)
                (with_reducible rename News _ _ _ _ => N32)
                refine cend F32 hoC2 N32 hoff2 ⟨rfl, by rw [List.length_append]; exact Nat.succ_le_succ hwl, ?_⟩
                rw [range_next, if_pos (decide_eq_true (Int.ofNat_lt.mp (by assumption))), List.map_append]
                exact IntsAre.app hIw (.cons _ _ .nil)
              · (with_reducible rename Fr _ _ _ _ => F32)
                (with_reducible rename News _ _ _ _ => N32)
                refine cend F32 hoC2 N32 hoff2 ⟨rfl, Nat.le_succ_of_le hwl, ?_⟩
                rw [range_next, if_neg (fun q => by have := Int.ofNat_lt.mpr (of_decide_eq_true q); contradiction), List.append_nil]
                exact hIw
            case fin =>
              rintro s11 tk12 hs11 ws nw ⟨rfl, hwl3, hIw⟩ D9 h12 tk13 F33 N33 hD9
              rw [hs11]
              clear hs11
              obtain ⟨tz, rfl⟩ := hoz
              (repeat' ((fail_if_success (with_reducible first | show wpAny _ _ (pyIter _) _ _ _ | show wpAny _ _ (exec (Stmt.While _ _ _ _) _) _ _ _ | show wpAny _ _ (exec (Stmt.For _ _ _ _ _) _) _ _ _ | show TurnEnd _ _ _ _ _ _ _ | show TurnPost _ _ _ _ _ _ _ _ _ | show WhileStep _ _ _ _ _ _ _ | show WhileStep2 _ _ _ _ _ _ _ _ | show wpAny _ _ (eval (Expr.ListComp _ _ _ _) _) _ _ _ | show wpAny _ _ (exec (Stmt.Assign _ (Expr.ListComp _ _ _ _) _) _) _ _ _ | show wpAny _ _ (call (Value.builtin "sorted") _) _ _ _ | show wpAny _ _ (call (Value.builtin "sum") _) _ _ _ | show wpAny _ _ (call (Value.type "enumerate") _) _ _ _ | show wpAny _ _ (call (Value.type "range") _) _ _ _ | show wpAny _ _ (binaryOp _ (Value.ref _) (Value.ref _)) _ _ _ | show wpAny _ _ (call (Value.ref _) (Value.ref _ :: _)) _ _ _ | show wpAny _ _ (call (Value.ref 178) _) _ _ _)); first | ((with_reducible refine' isq_back ?e9 ?_); (case e9 => with_reducible assumption); (try dsimp only)) | ((with_reducible show wpAny _ _ (exec _ _) _ _ _); (refine gen_exec ?_); intro P9 hP9; walk1) | (k_unfold; (try dsimp only)) | (with_reducible (k_here; (with_reducible show wpAny _ _ (subscriptTail _ (PySem.Expr.Slice none (some _) none _) (Value.ref _) (Value.ref _)) _ _ _); k_dflt (refine' vst_upto ?qF ?qN ?ql ?qz ?_ ?qs ?qt; (case qF => k_asm); (case qN => k_asm); (case ql => k_mem); (case qz => assumption); (case qs => with_unfolding_all rfl); (case qt => kmk_pure)); intro D' h' F' N' l1; (try k_lt l1); (try k_sweep))) | (with_reducible (k_here; (with_reducible show wpAny _ _ (subscriptTail _ (PySem.Expr.Slice (some _) none none _) (Value.ref _) (Value.ref _)) _ _ _); k_dflt (refine' vst_from ?qF ?qN ?ql ?qz ?_ ?qs ?qt; (case qF => k_asm); (case qN => k_asm); (case ql => k_mem); (case qz => assumption); (case qs => with_unfolding_all rfl); (case qt => kmk_pure)); intro D' h' F' N' l1; (try k_lt l1); (try k_sweep))) | (with_reducible (k_here; (with_reducible show wpAny _ _ (call (Value.builtin "len") [Value.ref _]) _ _ _); (k_dflt (refine' vst_len ?qk1 ?qk2 ?qk4 ?_; (case qk1 => k_asm); (case qk2 => k_mem); (case qk4 => assumption); k_whole)); intro _ _)) | (with_reducible ((with_reducible show wpAny _ _ (binaryOp Operator.FloorDiv (Value.int _ _) (Value.int _ _)) _ _ _); (k_here; (refine div_pow (by assumption) ?_); intro _ _))) | (with_reducible ((with_reducible show wpAny _ _ (setItem (Value.ref _) (Value.str _ _) _) _ _ _); (k_here; (k_dflt (refine' dct_set ?qF ?qN ?qk2 ?qk3 ?qk4 ?_; (case qF => k_asm); (case qN => k_asm); (case qk2 => assumption); (case qk3 => assumption); (case qk4 => assumption); k_whole)); intro h' o' k' F' N' hd'))) | (with_reducible ((with_reducible show wpAny _ _ (call (Value.builtin "dict.get") _) _ _ _); (k_here; (k_dflt (refine' dct_get ?qk1 ?qk2 ?qk3 ?qk4 ?_; (case qk1 => k_asm); (case qk2 => k_mem); (case qk3 => assumption); (case qk4 => assumption); k_whole)); intro _ _))) | (with_reducible ((with_reducible show wpAny _ _ (call (Value.builtin "dict.items") _) _ _ _); (k_here; (k_dflt (refine' dct_items ?qF ?qN ?qk2 ?qk3 ?qk4 ?_; (case qF => k_asm); (case qN => k_asm); (case qk2 => k_mem); (case qk3 => assumption); (case qk4 => assumption); k_whole)); intro V' h' hv' F' N'))) | (with_reducible ((with_reducible show wpAny _ _ (getMethod (Value.ref _) _ _) _ _ _); (k_here; (k_dflt (refine' dct_items_method ?qk1 ?qk2 ?qk3 ?_; (case qk1 => k_asm); (case qk2 => k_mem); (case qk3 => assumption); k_whole))))) | (with_reducible ((with_reducible show wpAny _ _ (getMethod (Value.ref _) _ _) _ _ _); (k_here; (k_dflt (refine' dct_method ?qk1 ?qk2 ?qk3 ?_; (case qk1 => k_asm); (case qk2 => k_mem); (case qk3 => assumption); k_whole))))) | (with_reducible (k_here; (with_reducible show wpAny _ _ (call (Value.ref 204) [Value.int _ _]) _ _ _); k_dflt (refine' way_tells ?qB ?qF ?qX ?qN ?qT ?qhk ?qhd ?qhu ?qhk1 ?qhk2 ?_; (  (case qB => k_asm); (case qF => k_asm); (case qX => k_asm); (case qN => k_asm); (case qT => k_asm); (case qhk => first | exact rfl | assumption); (case qhd => ktr_room); (case qhu => ktr_units)); (case qhk1 => (first | (with_reducible assumption) | omega | assumption)); (case qhk2 => (first | (with_reducible assumption) | omega | assumption)); k_whole); intro t' h' tk' F' N'; (try k_sweep))) | walk1 | (dsimp only; walk1)))
              k_dflt refine' add_list_N (vs := [.int 0 tz]) (ws := ws) F33 N33 ?hl ?hb ?hz ?_
              case hl => exact .tail _ (.head _)
              case hb => exact .head _
              case hz => exact Nat.le_trans (Nat.add_le_add_left hwl3 1) (by decide)
              intro D10 h13 F34 N34 hD10
              have hID : @LT.lt Nat _ (L' + 1) D10 := hD10 (L' + 1, oN2) (.tail _ (.tail _ (.head _)))
              have hICA : @LT.lt Nat _ CA D10 := hD10 (CA, oC) (.tail _ (.tail _ (.tail _ (.head _))))
              have hcu : IntsAre ([.int 0 tz] ++ ws) ((cuts q).map fun c : Nat => (c : Int)) := by
                have e : (cuts q).map (fun c : Nat => (c : Int)) = 0 :: (((List.range 12).filter fun k => decide (0 < q / 16 ^ k)).map fun k : Nat => ((q / 16 ^ k : Nat) : Int)) := by
                  unfold cuts
                  rw [List.map_cons, List.map_map]; rfl
                rw [e]
                exact .cons _ _ hIw
              have hcul : ([Value.int 0 tz] ++ ws).length = (cuts q).length := by rw [hcu.length, List.length_map]
              have hpe : (so.drop c)[i]? = some p.2 := by rw [List.getElem?_drop, hse, List.getElem?_map, hp]; rfl
              have hpso : p.2 ∈ so := List.mem_of_mem_drop (List.mem_of_getElem? hpe)
              have hqn : q < 16 ^ 12 := by rw [hq]; exact hnm _ (so_mem hso hpso).2
              have hdl : (dueF ((so.drop c).take i)).length ≤ 143 := by
                have h1 := dues_len ((so.drop c).take i) []
                have h2 : ((so.drop c).take i).length ≤ so.length := by rw [List.length_take, List.length_drop]; (clear h1 hqn hpso hpe hcul hcu hICA hID hD10 N34 F34 hD9 N33 N31 F33 hIw hwl3 hZ F30 hP8 hq dN hro4 hro3 hown3 hIC hI0 qsc qac qc qa hv hma hp hlt hI1 hoff hown hDC hoN hm3 hm2 hm1 hi hTDN hCAr hord2 hord hdc hwl2 hwl hrr hhalf hD8 hyl3 hsol hrl d2n d1n q73 q72 q71 q63 q62 q61 hI2 hD7 hzl hLA3 hrm hD6 hI hyl2 hs8 ht8 hr3 hr2 hr1 hSr hS3 hS2 hS1 hse hso hrowlen hrp' ep hSD hsd hD5 hyl hrp htr hrne hbase hs9 hLA1 hnl d3 d2 d1 l1 T' X' B' FG' hret hnm hsz hlen hls hLA hu hd hk T N X F B; lia)
                unfold dueF
                simp only [List.length_nil] at h1
                (clear hqn hpso hpe hcul hcu hICA hID hD10 N34 F34 hD9 N33 N31 F33 hIw hwl3 hZ F30 hP8 hq dN hro4 hro3 hown3 hIC hI0 qsc qac qc qa hv hma hp hlt hI1 hoff hown hDC hoN hm3 hm2 hm1 hi hTDN hCAr hord2 hord hdc hwl2 hcd hcl hwl hrr hhalf hD8 hyl3 hrl d2n d1n q73 q72 q71 q63 q62 q61 hI2 hD7 hzl hLA3 hrm hD6 hI hyl2 hs8 ht8 hr3 hr2 hr1 hSr hS3 hS2 hS1 hse hso hrp' ep hSD hsd hD5 hyl hrp htr hrne hbase hs9 hLA1 hnl d3 d2 d1 l1 T' X' B' FG' hret hnm hsz hls hLA hu hd hk T N X F B; lia)
              (repeat' ((fail_if_success (with_reducible first | show wpAny _ _ (pyIter _) _ _ _ | show wpAny _ _ (exec (Stmt.While _ _ _ _) _) _ _ _ | show wpAny _ _ (exec (Stmt.For _ _ _ _ _) _) _ _ _ | show TurnEnd _ _ _ _ _ _ _ | show TurnPost _ _ _ _ _ _ _ _ _ | show WhileStep _ _ _ _ _ _ _ | show WhileStep2 _ _ _ _ _ _ _ _ | show wpAny _ _ (eval (Expr.ListComp _ _ _ _) _) _ _ _ | show wpAny _ _ (exec (Stmt.Assign _ (Expr.ListComp _ _ _ _) _) _) _ _ _ | show wpAny _ _ (call (Value.builtin "sorted") _) _ _ _ | show wpAny _ _ (call (Value.builtin "sum") _) _ _ _ | show wpAny _ _ (call (Value.type "enumerate") _) _ _ _ | show wpAny _ _ (call (Value.type "range") _) _ _ _ | show wpAny _ _ (binaryOp _ (Value.ref _) (Value.ref _)) _ _ _ | show wpAny _ _ (call (Value.ref _) (Value.ref _ :: _)) _ _ _ | show wpAny _ _ (call (Value.ref 178) _) _ _ _)); first | ((with_reducible refine' isq_back ?e9 ?_); (case e9 => with_reducible assumption); (try dsimp only)) | ((with_reducible show wpAny _ _ (exec _ _) _ _ _); (refine gen_exec ?_); intro P9 hP9; walk1) | (k_unfold; (try dsimp only)) | (with_reducible (k_here; (with_reducible show wpAny _ _ (subscriptTail _ (PySem.Expr.Slice none (some _) none _) (Value.ref _) (Value.ref _)) _ _ _); k_dflt (refine' vst_upto ?qF ?qN ?ql ?qz ?_ ?qs ?qt; (case qF => k_asm); (case qN => k_asm); (case ql => k_mem); (case qz => assumption); (case qs => with_unfolding_all rfl); (case qt => kmk_pure)); intro D' h' F' N' l1; (try k_lt l1); (try k_sweep))) | (with_reducible (k_here; (with_reducible show wpAny _ _ (subscriptTail _ (PySem.Expr.Slice (some _) none none _) (Value.ref _) (Value.ref _)) _ _ _); k_dflt (refine' vst_from ?qF ?qN ?ql ?qz ?_ ?qs ?qt; (case qF => k_asm); (case qN => k_asm); (case ql => k_mem); (case qz => assumption); (case qs => with_unfolding_all rfl); (case qt => kmk_pure)); intro D' h' F' N' l1; (try k_lt l1); (try k_sweep))) | (with_reducible (k_here; (with_reducible show wpAny _ _ (call (Value.builtin "len") [Value.ref _]) _ _ _); (k_dflt (refine' vst_len ?qk1 ?qk2 ?qk4 ?_; (case qk1 => k_asm); (case qk2 => k_mem); (case qk4 => assumption); k_whole)); intro _ _)) | (with_reducible ((with_reducible show wpAny _ _ (binaryOp Operator.FloorDiv (Value.int _ _) (Value.int _ _)) _ _ _); (k_here; (refine div_pow (by assumption) ?_); intro _ _))) | (with_reducible ((with_reducible show wpAny _ _ (setItem (Value.ref _) (Value.str _ _) _) _ _ _); (k_here; (k_dflt (refine' dct_set ?qF ?qN ?qk2 ?qk3 ?qk4 ?_; (case qF => k_asm); (case qN => k_asm); (case qk2 => assumption); (case qk3 => assumption); (case qk4 => assumption); k_whole)); intro h' o' k' F' N' hd'))) | (with_reducible ((with_reducible show wpAny _ _ (call (Value.builtin "dict.get") _) _ _ _); (k_here; (k_dflt (refine' dct_get ?qk1 ?qk2 ?qk3 ?qk4 ?_; (case qk1 => k_asm); (case qk2 => k_mem); (case qk3 => assumption); (case qk4 => assumption); k_whole)); intro _ _))) | (with_reducible ((with_reducible show wpAny _ _ (call (Value.builtin "dict.items") _) _ _ _); (k_here; (k_dflt (refine' dct_items ?qF ?qN ?qk2 ?qk3 ?qk4 ?_; (case qF => k_asm); (case qN => k_asm); (case qk2 => k_mem); (case qk3 => assumption); (case qk4 => assumption); k_whole)); intro V' h' hv' F' N'))) | (with_reducible ((with_reducible show wpAny _ _ (getMethod (Value.ref _) _ _) _ _ _); (k_here; (k_dflt (refine' dct_items_method ?qk1 ?qk2 ?qk3 ?_; (case qk1 => k_asm); (case qk2 => k_mem); (case qk3 => assumption); k_whole))))) | (with_reducible ((with_reducible show wpAny _ _ (getMethod (Value.ref _) _ _) _ _ _); (k_here; (k_dflt (refine' dct_method ?qk1 ?qk2 ?qk3 ?_; (case qk1 => k_asm); (case qk2 => k_mem); (case qk3 => assumption); k_whole))))) | (with_reducible (k_here; (with_reducible show wpAny _ _ (call (Value.ref 204) [Value.int _ _]) _ _ _); k_dflt (refine' way_tells ?qB ?qF ?qX ?qN ?qT ?qhk ?qhd ?qhu ?qhk1 ?qhk2 ?_; (  (case qB => k_asm); (case qF => k_asm); (case qX => k_asm); (case qN => k_asm); (case qT => k_asm); (case qhk => first | exact rfl | assumption); (case qhd => ktr_room); (case qhu => ktr_units)); (case qhk1 => (first | (with_reducible assumption) | omega | assumption)); (case qhk2 => (first | (with_reducible assumption) | omega | assumption)); k_whole); intro t' h' tk' F' N'; (try k_sweep))) | walk1 | (dsimp only; walk1)))
              (with_reducible rename Fr _ _ _ _ => F35)
              have hDL := N34 _ (.head _)
              k_dflt refine' iter_listM (x := Str.ofString "cut") (vs := [.int 0 tz] ++ ws) (news := (CA, oC) :: (L' + 1, oN2) :: (SD, listOf (List.map (fun x => x.1) tr').toArray se) :: (r ++ own))
                (fun m0 j m₁ nx => ∃ oC', DueC L' CA SD tr' se r own w t2 t12 c so i q p oN2 j m₁ nx oC') ?hh ?hl ?hlL F35 ?N ?hj ?turn2 ?done2
              case hh => exact rfl
              case hl => exact ⟨_, hDL.1, rfl, _, rfl⟩
              case hlL => exact hDL.2.1
              case N =>
                intro p hp
                rcases mem3 hp with rfl | rfl | hp
                · exact N34 _ (.tail _ (.tail _ (.tail _ (.tail _ (.head _)))))
                · exact N34 _ (.tail _ (.tail _ (.tail _ (.head _))))
                · exact N34 _ (.tail _ (.tail _ (.tail _ (.tail _ (.tail _ hp)))))
              case hj => exact ⟨oC, rfl, rfl, rfl, rfl, rfl, hDC⟩
              case turn2 =>
                rintro j v m₂ nx h tk own3 I3 hj hv ⟨oC', hn1, hn2, hn3, hn4, rfl, hDC'⟩ hown3 hoff3 hlt3 F36 N36
                obtain ⟨cv, tv, hcv, rfl⟩ := ints_at hcu hv
                rw [List.getElem?_map] at hcv
                obtain ⟨cj, hcj, ecv⟩ : ∃ cj, (cuts q)[j]? = some cj ∧ (cj : Int) = cv := by
                  cases e : (cuts q)[j]? with
                  | none => rw [e] at hcv; cases hcv
                  | some cj => rw [e] at hcv; exact ⟨cj, rfl, by simpa using hcv⟩
                subst ecv
                have hcm := cuts_lt hqn (List.mem_of_getElem? hcj)
                have hc0 : 0 ≤ (cj : Int) := Int.natCast_nonneg _
                have hc1 : (cj : Int) < 16 ^ 12 := by (clear hc0 F36 hv hcv hcj N36 hlt3 hoff3 hown3 hDC' hn4 hn3 hn2 hn1 hj hDL hdl hqn hpso hpe hcul hcu hICA hID hD10 N34 F35 hD9 N33 N31 F33 hIw hwl3 hZ F30 hP8 hq dN hro4 hro3 hIC hI0 qsc qac qc qa hma hp hlt hI1 hoff hown hDC hoN hm3 hm2 hm1 hi hTDN hCAr hord2 hord hdc hwl2 hcd hcl hwl hrr hhalf hD8 hyl3 hsol hrl d2n d1n q73 q72 q71 q63 q62 q61 hI2 hD7 hzl hLA3 hrm hD6 hI hyl2 hs8 ht8 hr3 hr2 hr1 hSr hS3 hS2 hS1 hse hso hrowlen hrp' ep hSD hsd hD5 hyl hrp htr hrne hbase hs9 hLA1 hnl d3 d2 d1 l1 T' X' B' FG' hret hnm hsz hlen hls hLA hu hd hk T N X F B; lia)
                have F37 : Fr g' L' h _ := fr_cut F36 (by decide) (by decide) (by decide) (by decide) hn1 hn2 hn3 hn4
                clear F36
                have N37 : News g' L' h ((CA, oC') :: (L' + 1, oN2) :: (SD, listOf (List.map (fun x => x.1) tr').toArray se) :: (r ++ own ++ own3)) := N36
                clear N36
                have hIC3 : @LT.lt Nat _ CA I3 := hlt3 _ (.head _)
                have hna : ∀ p ∈ (L' + 1, oN2) :: (SD, listOf (List.map (fun x => x.1) tr').toArray se) :: (r ++ own ++ own3), p.1 ≠ CA := fun p hp => by
                  rcases mem3 hp with rfl | rfl | hp
                  · exact Nat.ne_of_lt qc
                  · exact Nat.ne_of_lt qsc
                  · rcases List.mem_append.mp hp with hp | hp
                    · exact hro4 p hp
                    · rcases hown3 p hp with e | e <;> rw [e]
                      · exact Nat.ne_of_gt hIC3
                      · exact Nat.ne_of_gt hICA
                have hchl : (addsC p.2.2.2.1 (dueF ((so.drop c).take i)) ((cuts q).take j)).length ≤ 1000 := by
                  have h1 := addsC_len p.2.2.2.1 ((cuts q).take j) (dueF ((so.drop c).take i))
                  have h2 := cuts_len q
                  have h3 : ((cuts q).take j).length ≤ (cuts q).length := by rw [List.length_take]; (clear h2 h1 hna hIC3 N37 F37 hc1 hc0 hcm hv hcv hcj hlt3 hoff3 hown3 hDC' hn4 hn3 hn2 hn1 hDL hdl hqn hpso hpe hcu hICA hID hD10 N34 F35 hD9 N33 N31 F33 hIw hwl3 hZ F30 hP8 hq dN hro4 hro3 hIC hI0 qsc qac qc qa hma hp hlt hI1 hoff hown hDC hoN hm3 hm2 hm1 hi hTDN hCAr hord2 hord hdc hwl2 hcd hcl hwl hrr hhalf hD8 hyl3 hsol hrl d2n d1n q73 q72 q71 q63 q62 q61 hI2 hD7 hzl hLA3 hrm hD6 hI hyl2 hs8 ht8 hr3 hr2 hr1 hSr hS3 hS2 hS1 hse hso hrowlen hrp' ep hSD hsd hD5 hyl hrp htr hrne hbase hs9 hLA1 hnl d3 d2 d1 l1 T' X' B' FG' hret hnm hsz hlen hls hLA hu hd hk T N X F B; lia)
                  (clear hna hIC3 N37 F37 hc1 hc0 hcm hv hcv hcj hlt3 hoff3 hown3 hDC' hn4 hn3 hn2 hn1 hj hDL hqn hpso hpe hcu hICA hID hD10 N34 F35 hD9 N33 N31 F33 hIw hwl3 hZ F30 hP8 hq dN hro4 hro3 hIC hI0 qsc qac qc qa hma hp hlt hI1 hoff hown hDC hoN hm3 hm2 hm1 hi hTDN hCAr hord2 hord hdc hwl2 hcd hcl hwl hrr hhalf hD8 hyl3 hsol hrl d2n d1n q73 q72 q71 q63 q62 q61 hI2 hD7 hzl hLA3 hrm hD6 hI hyl2 hs8 ht8 hr3 hr2 hr1 hSr hS3 hS2 hS1 hse hso hrowlen hrp' ep hSD hsd hD5 hyl hrp htr hrne hbase hs9 hLA1 hnl d3 d2 d1 l1 T' X' B' FG' hret hnm hsz hlen hls hLA hu hd hk T N X F B; lia)
                have hadd : putC (addsC p.2.2.2.1 (dueF ((so.drop c).take i)) ((cuts q).take j)) (wayS (cj : Int).toNat) (getC (addsC p.2.2.2.1 (dueF ((so.drop c).take i)) ((cuts q).take j)) (wayS (cj : Int).toNat) - -p.2.2.2.1) = addsC p.2.2.2.1 (dueF ((so.drop c).take i)) ((cuts q).take (j + 1)) := by
                  rw [List.take_add_one, hcj, Int.toNat_natCast, Int.sub_neg]
                  exact (addsC_app _ _ _ _).symm
                (repeat' ((fail_if_success (with_reducible first | show wpAny _ _ (pyIter _) _ _ _ | show wpAny _ _ (exec (Stmt.While _ _ _ _) _) _ _ _ | show wpAny _ _ (exec (Stmt.For _ _ _ _ _) _) _ _ _ | show TurnEnd _ _ _ _ _ _ _ | show TurnPost _ _ _ _ _ _ _ _ _ | show WhileStep _ _ _ _ _ _ _ | show WhileStep2 _ _ _ _ _ _ _ _ | show wpAny _ _ (eval (Expr.ListComp _ _ _ _) _) _ _ _ | show wpAny _ _ (exec (Stmt.Assign _ (Expr.ListComp _ _ _ _) _) _) _ _ _ | show wpAny _ _ (call (Value.builtin "sorted") _) _ _ _ | show wpAny _ _ (call (Value.builtin "sum") _) _ _ _ | show wpAny _ _ (call (Value.type "enumerate") _) _ _ _ | show wpAny _ _ (call (Value.type "range") _) _ _ _ | show wpAny _ _ (binaryOp _ (Value.ref _) (Value.ref _)) _ _ _ | show wpAny _ _ (call (Value.ref _) (Value.ref _ :: _)) _ _ _ | show wpAny _ _ (call (Value.ref 178) _) _ _ _)); first | ((with_reducible refine' isq_back ?e9 ?_); (case e9 => with_reducible assumption); (try dsimp only)) | ((with_reducible show wpAny _ _ (exec _ _) _ _ _); (refine gen_exec ?_); intro P9 hP9; walk1) | (k_unfold; (try dsimp only)) | (with_reducible (k_here; (with_reducible show wpAny _ _ (subscriptTail _ (PySem.Expr.Slice none (some _) none _) (Value.ref _) (Value.ref _)) _ _ _); k_dflt (refine' vst_upto ?qF ?qN ?ql ?qz ?_ ?qs ?qt; (case qF => k_asm); (case qN => k_asm); (case ql => k_mem); (case qz => assumption); (case qs => with_unfolding_all rfl); (case qt => kmk_pure)); intro D' h' F' N' l1; (try k_lt l1); (try k_sweep))) | (with_reducible (k_here; (with_reducible show wpAny _ _ (subscriptTail _ (PySem.Expr.Slice (some _) none none _) (Value.ref _) (Value.ref _)) _ _ _); k_dflt (refine' vst_from ?qF ?qN ?ql ?qz ?_ ?qs ?qt; (case qF => k_asm); (case qN => k_asm); (case ql => k_mem); (case qz => assumption); (case qs => with_unfolding_all rfl); (case qt => kmk_pure)); intro D' h' F' N' l1; (try k_lt l1); (try k_sweep))) | (with_reducible (k_here; (with_reducible show wpAny _ _ (call (Value.builtin "len") [Value.ref _]) _ _ _); (k_dflt (refine' vst_len ?qk1 ?qk2 ?qk4 ?_; (case qk1 => k_asm); (case qk2 => k_mem); (case qk4 => assumption); k_whole)); intro _ _)) | (with_reducible ((with_reducible show wpAny _ _ (binaryOp Operator.FloorDiv (Value.int _ _) (Value.int _ _)) _ _ _); (k_here; (refine div_pow (by assumption) ?_); intro _ _))) | (with_reducible ((with_reducible show wpAny _ _ (setItem (Value.ref _) (Value.str _ _) _) _ _ _); (k_here; (k_dflt (refine' dct_set ?qF ?qN ?qk2 ?qk3 ?qk4 ?_; (case qF => k_asm); (case qN => k_asm); (case qk2 => assumption); (case qk3 => assumption); (case qk4 => assumption); k_whole)); intro h' o' k' F' N' hd'))) | (with_reducible ((with_reducible show wpAny _ _ (call (Value.builtin "dict.get") _) _ _ _); (k_here; (k_dflt (refine' dct_get ?qk1 ?qk2 ?qk3 ?qk4 ?_; (case qk1 => k_asm); (case qk2 => k_mem); (case qk3 => assumption); (case qk4 => assumption); k_whole)); intro _ _))) | (with_reducible ((with_reducible show wpAny _ _ (call (Value.builtin "dict.items") _) _ _ _); (k_here; (k_dflt (refine' dct_items ?qF ?qN ?qk2 ?qk3 ?qk4 ?_; (case qF => k_asm); (case qN => k_asm); (case qk2 => k_mem); (case qk3 => assumption); (case qk4 => assumption); k_whole)); intro V' h' hv' F' N'))) | (with_reducible ((with_reducible show wpAny _ _ (getMethod (Value.ref _) _ _) _ _ _); (k_here; (k_dflt (refine' dct_items_method ?qk1 ?qk2 ?qk3 ?_; (case qk1 => k_asm); (case qk2 => k_mem); (case qk3 => assumption); k_whole))))) | (with_reducible ((with_reducible show wpAny _ _ (getMethod (Value.ref _) _ _) _ _ _); (k_here; (k_dflt (refine' dct_method ?qk1 ?qk2 ?qk3 ?_; (case qk1 => k_asm); (case qk2 => k_mem); (case qk3 => assumption); k_whole))))) | (with_reducible (k_here; (with_reducible show wpAny _ _ (call (Value.ref 204) [Value.int _ _]) _ _ _); k_dflt (refine' way_tells ?qB ?qF ?qX ?qN ?qT ?qhk ?qhd ?qhu ?qhk1 ?qhk2 ?_; (  (case qB => k_asm); (case qF => k_asm); (case qX => k_asm); (case qN => k_asm); (case qT => k_asm); (case qhk => first | exact rfl | assumption); (case qhd => ktr_room); (case qhu => ktr_units)); (case qhk1 => (first | (with_reducible assumption) | omega | assumption)); (case qhk2 => (first | (with_reducible assumption) | omega | assumption)); k_whole); intro t' h' tk' F' N'; (try k_sweep))) | walk1 | (dsimp only; walk1)))
                rw [hadd] at *
                (with_reducible rename Fr _ _ _ _ => F38)
                (with_reducible rename News _ _ _ _ => N38)
                (rename DObj _ _ _ _ => hD9)
                refine TurnEnd.intro (nx := (CA, _) :: (L' + 1, oN2) :: (SD, listOf (List.map (fun x => x.1) tr').toArray se) :: (r ++ own)) F38 (fun p hp => N38 p ?_) ?_ ⟨_, rfl, rfl, rfl, rfl, rfl, hD9⟩
                · rcases List.mem_append.mp hp with hp | hp
                  · exact .tail _ (.tail _ (.tail _ (List.mem_append_right _ hp)))
                  · rcases mem3 hp with rfl | rfl | hp
                    · exact .head _
                    · exact .tail _ (.head _)
                    · rcases List.mem_cons.mp hp with rfl | hp
                      · exact .tail _ (.tail _ (.head _))
                      · exact .tail _ (.tail _ (.tail _ (List.mem_append_left _ hp)))
                · intro p hp
                  rcases List.mem_cons.mp hp with rfl | hp
                  · exact hoff3 (CA, oC') (.head _)
                  · exact hoff3 p (.tail _ hp)
              case done2 =>
                rintro m₂ nx h tk ⟨oC', hn1, hn2, hn3, hn4, rfl, hDC'⟩ F36 N36
                rw [hcul, List.take_length, hq, ← dueF_app] at hDC'
                have hte : (so.drop c).take (i + 1) = (so.drop c).take i ++ [p.2] := by rw [List.take_add_one, hpe]; rfl
                rw [← hte] at hDC'
                have F37 := fr_known4 F36 hn1 hn2 hn3 hn4
                clear F36
                (try dsimp only)
                (repeat' ((fail_if_success (with_reducible first | show wpAny _ _ (pyIter _) _ _ _ | show wpAny _ _ (exec (Stmt.While _ _ _ _) _) _ _ _ | show wpAny _ _ (exec (Stmt.For _ _ _ _ _) _) _ _ _ | show TurnEnd _ _ _ _ _ _ _ | show TurnPost _ _ _ _ _ _ _ _ _ | show WhileStep _ _ _ _ _ _ _ | show WhileStep2 _ _ _ _ _ _ _ _ | show wpAny _ _ (eval (Expr.ListComp _ _ _ _) _) _ _ _ | show wpAny _ _ (exec (Stmt.Assign _ (Expr.ListComp _ _ _ _) _) _) _ _ _ | show wpAny _ _ (call (Value.builtin "sorted") _) _ _ _ | show wpAny _ _ (call (Value.builtin "sum") _) _ _ _ | show wpAny _ _ (call (Value.type "enumerate") _) _ _ _ | show wpAny _ _ (call (Value.type "range") _) _ _ _ | show wpAny _ _ (binaryOp _ (Value.ref _) (Value.ref _)) _ _ _ | show wpAny _ _ (call (Value.ref _) (Value.ref _ :: _)) _ _ _ | show wpAny _ _ (call (Value.ref 178) _) _ _ _)); first | ((with_reducible refine' isq_back ?e9 ?_); (case e9 => with_reducible assumption); (try dsimp only)) | ((with_reducible show wpAny _ _ (exec _ _) _ _ _); (refine gen_exec ?_); intro P9 hP9; walk1) | (k_unfold; (try dsimp only)) | (with_reducible (k_here; (with_reducible show wpAny _ _ (subscriptTail _ (PySem.Expr.Slice none (some _) none _) (Value.ref _) (Value.ref _)) _ _ _); k_dflt (refine' vst_upto ?qF ?qN ?ql ?qz ?_ ?qs ?qt; (case qF => k_asm); (case qN => k_asm); (case ql => k_mem); (case qz => assumption); (case qs => with_unfolding_all rfl); (case qt => kmk_pure)); intro D' h' F' N' l1; (try k_lt l1); (try k_sweep))) | (with_reducible (k_here; (with_reducible show wpAny _ _ (subscriptTail _ (PySem.Expr.Slice (some _) none none _) (Value.ref _) (Value.ref _)) _ _ _); k_dflt (refine' vst_from ?qF ?qN ?ql ?qz ?_ ?qs ?qt; (case qF => k_asm); (case qN => k_asm); (case ql => k_mem); (case qz => assumption); (case qs => with_unfolding_all rfl); (case qt => kmk_pure)); intro D' h' F' N' l1; (try k_lt l1); (try k_sweep))) | (with_reducible (k_here; (with_reducible show wpAny _ _ (call (Value.builtin "len") [Value.ref _]) _ _ _); (k_dflt (refine' vst_len ?qk1 ?qk2 ?qk4 ?_; (case qk1 => k_asm); (case qk2 => k_mem); (case qk4 => assumption); k_whole)); intro _ _)) | (with_reducible ((with_reducible show wpAny _ _ (binaryOp Operator.FloorDiv (Value.int _ _) (Value.int _ _)) _ _ _); (k_here; (refine div_pow (by assumption) ?_); intro _ _))) | (with_reducible ((with_reducible show wpAny _ _ (setItem (Value.ref _) (Value.str _ _) _) _ _ _); (k_here; (k_dflt (refine' dct_set ?qF ?qN ?qk2 ?qk3 ?qk4 ?_; (case qF => k_asm); (case qN => k_asm); (case qk2 => assumption); (case qk3 => assumption); (case qk4 => assumption); k_whole)); intro h' o' k' F' N' hd'))) | (with_reducible ((with_reducible show wpAny _ _ (call (Value.builtin "dict.get") _) _ _ _); (k_here; (k_dflt (refine' dct_get ?qk1 ?qk2 ?qk3 ?qk4 ?_; (case qk1 => k_asm); (case qk2 => k_mem); (case qk3 => assumption); (case qk4 => assumption); k_whole)); intro _ _))) | (with_reducible ((with_reducible show wpAny _ _ (call (Value.builtin "dict.items") _) _ _ _); (k_here; (k_dflt (refine' dct_items ?qF ?qN ?qk2 ?qk3 ?qk4 ?_; (case qF => k_asm); (case qN => k_asm); (case qk2 => k_mem); (case qk3 => assumption); (case qk4 => assumption); k_whole)); intro V' h' hv' F' N'))) | (with_reducible ((with_reducible show wpAny _ _ (getMethod (Value.ref _) _ _) _ _ _); (k_here; (k_dflt (refine' dct_items_method ?qk1 ?qk2 ?qk3 ?_; (case qk1 => k_asm); (case qk2 => k_mem); (case qk3 => assumption); k_whole))))) | (with_reducible ((with_reducible show wpAny _ _ (getMethod (Value.ref _) _ _) _ _ _); (k_here; (k_dflt (refine' dct_method ?qk1 ?qk2 ?qk3 ?_; (case qk1 => k_asm); (case qk2 => k_mem); (case qk3 => assumption); k_whole))))) | (with_reducible (k_here; (with_reducible show wpAny _ _ (call (Value.ref 204) [Value.int _ _]) _ _ _); k_dflt (refine' way_tells ?qB ?qF ?qX ?qN ?qT ?qhk ?qhd ?qhu ?qhk1 ?qhk2 ?_; (  (case qB => k_asm); (case qF => k_asm); (case qX => k_asm); (case qN => k_asm); (case qT => k_asm); (case qhk => first | exact rfl | assumption); (case qhd => ktr_room); (case qhu => ktr_units)); (case qhk1 => (first | (with_reducible assumption) | omega | assumption)); (case qhk2 => (first | (with_reducible assumption) | omega | assumption)); k_whole); intro t' h' tk' F' N'; (try k_sweep))) | walk1 | (dsimp only; walk1)))
                refine TurnEnd.intro (nx := (L' + 1, oN2) :: (CA, oC') :: (SD, listOf (List.map (fun x => x.1) tr').toArray se) :: r) F37 (fun p hp => N36 p ?_) ?_ ⟨oN2, oC', _, rfl, rfl, rfl, rfl, dN, hDC'⟩
                · rcases List.mem_append.mp hp with hp | hp
                  · exact .tail _ (.tail _ (.tail _ (List.mem_append_right _ hp)))
                  · rcases mem3 hp with rfl | rfl | hp
                    · exact .tail _ (.head _)
                    · exact .head _
                    · rcases List.mem_cons.mp hp with rfl | hp
                      · exact .tail _ (.tail _ (.head _))
                      · exact .tail _ (.tail _ (.tail _ (List.mem_append_left _ hp)))
                · intro p hp
                  rcases mem3 hp with rfl | rfl | hp
                  · exact hoff (L' + 1, oN) (.head _)
                  · exact hoff (CA, oC) (.tail _ (.head _))
                  · exact hoff p (.tail _ (.tail _ hp))
          case done =>
            rintro m₁ nx h tk ⟨oN, oC, v0, hm1, hm2, hm3, rfl, hoN, hDC⟩ F24 N24
            rw [List.take_of_length_le (l := so.drop c) (by rw [List.length_drop, List.length_drop, hsol, List.length_map, hrowlen]; exact Nat.le_refl _)] at hDC
            have F25 : Fr g' L' h _ := fr_known3 F24 hm1 hm2 hm3
            clear F24
            replace N24 : News g' L' h _ := N24
            (try dsimp only)
            (repeat' ((fail_if_success (with_reducible first | show wpAny _ _ (pyIter _) _ _ _ | show wpAny _ _ (exec (Stmt.While _ _ _ _) _) _ _ _ | show wpAny _ _ (exec (Stmt.For _ _ _ _ _) _) _ _ _ | show TurnEnd _ _ _ _ _ _ _ | show TurnPost _ _ _ _ _ _ _ _ _ | show WhileStep _ _ _ _ _ _ _ | show WhileStep2 _ _ _ _ _ _ _ _ | show wpAny _ _ (eval (Expr.ListComp _ _ _ _) _) _ _ _ | show wpAny _ _ (exec (Stmt.Assign _ (Expr.ListComp _ _ _ _) _) _) _ _ _ | show wpAny _ _ (call (Value.builtin "sorted") _) _ _ _ | show wpAny _ _ (call (Value.builtin "sum") _) _ _ _ | show wpAny _ _ (call (Value.type "enumerate") _) _ _ _ | show wpAny _ _ (call (Value.type "range") _) _ _ _ | show wpAny _ _ (binaryOp _ (Value.ref _) (Value.ref _)) _ _ _ | show wpAny _ _ (call (Value.ref _) (Value.ref _ :: _)) _ _ _ | show wpAny _ _ (call (Value.ref 178) _) _ _ _)); first | ((with_reducible refine' isq_back ?e9 ?_); (case e9 => with_reducible assumption); (try dsimp only)) | ((with_reducible show wpAny _ _ (exec _ _) _ _ _); (refine gen_exec ?_); intro P9 hP9; walk1) | (k_unfold; (try dsimp only)) | (with_reducible (k_here; (with_reducible show wpAny _ _ (subscriptTail _ (PySem.Expr.Slice none (some _) none _) (Value.ref _) (Value.ref _)) _ _ _); k_dflt (refine' vst_upto ?qF ?qN ?ql ?qz ?_ ?qs ?qt; (case qF => k_asm); (case qN => k_asm); (case ql => k_mem); (case qz => assumption); (case qs => with_unfolding_all rfl); (case qt => kmk_pure)); intro D' h' F' N' l1; (try k_lt l1); (try k_sweep))) | (with_reducible (k_here; (with_reducible show wpAny _ _ (subscriptTail _ (PySem.Expr.Slice (some _) none none _) (Value.ref _) (Value.ref _)) _ _ _); k_dflt (refine' vst_from ?qF ?qN ?ql ?qz ?_ ?qs ?qt; (case qF => k_asm); (case qN => k_asm); (case ql => k_mem); (case qz => assumption); (case qs => with_unfolding_all rfl); (case qt => kmk_pure)); intro D' h' F' N' l1; (try k_lt l1); (try k_sweep))) | (with_reducible (k_here; (with_reducible show wpAny _ _ (call (Value.builtin "len") [Value.ref _]) _ _ _); (k_dflt (refine' vst_len ?qk1 ?qk2 ?qk4 ?_; (case qk1 => k_asm); (case qk2 => k_mem); (case qk4 => assumption); k_whole)); intro _ _)) | (with_reducible ((with_reducible show wpAny _ _ (binaryOp Operator.FloorDiv (Value.int _ _) (Value.int _ _)) _ _ _); (k_here; (refine div_pow (by assumption) ?_); intro _ _))) | (with_reducible ((with_reducible show wpAny _ _ (setItem (Value.ref _) (Value.str _ _) _) _ _ _); (k_here; (k_dflt (refine' dct_set ?qF ?qN ?qk2 ?qk3 ?qk4 ?_; (case qF => k_asm); (case qN => k_asm); (case qk2 => assumption); (case qk3 => assumption); (case qk4 => assumption); k_whole)); intro h' o' k' F' N' hd'))) | (with_reducible ((with_reducible show wpAny _ _ (call (Value.builtin "dict.get") _) _ _ _); (k_here; (k_dflt (refine' dct_get ?qk1 ?qk2 ?qk3 ?qk4 ?_; (case qk1 => k_asm); (case qk2 => k_mem); (case qk3 => assumption); (case qk4 => assumption); k_whole)); intro _ _))) | (with_reducible ((with_reducible show wpAny _ _ (call (Value.builtin "dict.items") _) _ _ _); (k_here; (k_dflt (refine' dct_items ?qF ?qN ?qk2 ?qk3 ?qk4 ?_; (case qF => k_asm); (case qN => k_asm); (case qk2 => k_mem); (case qk3 => assumption); (case qk4 => assumption); k_whole)); intro V' h' hv' F' N'))) | (with_reducible ((with_reducible show wpAny _ _ (getMethod (Value.ref _) _ _) _ _ _); (k_here; (k_dflt (refine' dct_items_method ?qk1 ?qk2 ?qk3 ?_; (case qk1 => k_asm); (case qk2 => k_mem); (case qk3 => assumption); k_whole))))) | (with_reducible ((with_reducible show wpAny _ _ (getMethod (Value.ref _) _ _) _ _ _); (k_here; (k_dflt (refine' dct_method ?qk1 ?qk2 ?qk3 ?_; (case qk1 => k_asm); (case qk2 => k_mem); (case qk3 => assumption); k_whole))))) | (with_reducible (k_here; (with_reducible show wpAny _ _ (call (Value.ref 204) [Value.int _ _]) _ _ _); k_dflt (refine' way_tells ?qB ?qF ?qX ?qN ?qT ?qhk ?qhd ?qhu ?qhk1 ?qhk2 ?_; (  (case qB => k_asm); (case qF => k_asm); (case qX => k_asm); (case qN => k_asm); (case qT => k_asm); (case qhk => first | exact rfl | assumption); (case qhd => ktr_room); (case qhu => ktr_units)); (case qhk1 => (first | (with_reducible assumption) | omega | assumption)); (case qhk2 => (first | (with_reducible assumption) | omega | assumption)); k_whole); intro t' h' tk' F' N'; (try k_sweep))) | walk1 | (dsimp only; walk1)))
            k_dflt (refine' comp_eval F25 ?c1 ?c2 ?c3 ?c4 ?_; (case c1 => with_unfolding_all rfl); (case c2 => decide); (case c3 => exact rfl); (case c4 => decide))
            (repeat' ((fail_if_success (with_reducible first | show wpAny _ _ (pyIter _) _ _ _ | show wpAny _ _ (exec (Stmt.While _ _ _ _) _) _ _ _ | show wpAny _ _ (exec (Stmt.For _ _ _ _ _) _) _ _ _ | show TurnEnd _ _ _ _ _ _ _ | show TurnPost _ _ _ _ _ _ _ _ _ | show WhileStep _ _ _ _ _ _ _ | show WhileStep2 _ _ _ _ _ _ _ _ | show wpAny _ _ (eval (Expr.ListComp _ _ _ _) _) _ _ _ | show wpAny _ _ (exec (Stmt.Assign _ (Expr.ListComp _ _ _ _) _) _) _ _ _ | show wpAny _ _ (call (Value.builtin "sorted") _) _ _ _ | show wpAny _ _ (call (Value.builtin "sum") _) _ _ _ | show wpAny _ _ (call (Value.type "enumerate") _) _ _ _ | show wpAny _ _ (call (Value.type "range") _) _ _ _ | show wpAny _ _ (binaryOp _ (Value.ref _) (Value.ref _)) _ _ _ | show wpAny _ _ (call (Value.ref _) (Value.ref _ :: _)) _ _ _ | show wpAny _ _ (call (Value.ref 178) _) _ _ _)); first | ((with_reducible refine' isq_back ?e9 ?_); (case e9 => with_reducible assumption); (try dsimp only)) | ((with_reducible show wpAny _ _ (exec _ _) _ _ _); (refine gen_exec ?_); intro P9 hP9; walk1) | (k_unfold; (try dsimp only)) | (with_reducible (k_here; (with_reducible show wpAny _ _ (subscriptTail _ (PySem.Expr.Slice none (some _) none _) (Value.ref _) (Value.ref _)) _ _ _); k_dflt (refine' vst_upto ?qF ?qN ?ql ?qz ?_ ?qs ?qt; (case qF => k_asm); (case qN => k_asm); (case ql => k_mem); (case qz => assumption); (case qs => with_unfolding_all rfl); (case qt => kmk_pure)); intro D' h' F' N' l1; (try k_lt l1); (try k_sweep))) | (with_reducible (k_here; (with_reducible show wpAny _ _ (subscriptTail _ (PySem.Expr.Slice (some _) none none _) (Value.ref _) (Value.ref _)) _ _ _); k_dflt (refine' vst_from ?qF ?qN ?ql ?qz ?_ ?qs ?qt; (case qF => k_asm); (case qN => k_asm); (case ql => k_mem); (case qz => assumption); (case qs => with_unfolding_all rfl); (case qt => kmk_pure)); intro D' h' F' N' l1; (try k_lt l1); (try k_sweep))) | (with_reducible (k_here; (with_reducible show wpAny _ _ (call (Value.builtin "len") [Value.ref _]) _ _ _); (k_dflt (refine' vst_len ?qk1 ?qk2 ?qk4 ?_; (case qk1 => k_asm); (case qk2 => k_mem); (case qk4 => assumption); k_whole)); intro _ _)) | (with_reducible ((with_reducible show wpAny _ _ (binaryOp Operator.FloorDiv (Value.int _ _) (Value.int _ _)) _ _ _); (k_here; (refine div_pow (by assumption) ?_); intro _ _))) | (with_reducible ((with_reducible show wpAny _ _ (setItem (Value.ref _) (Value.str _ _) _) _ _ _); (k_here; (k_dflt (refine' dct_set ?qF ?qN ?qk2 ?qk3 ?qk4 ?_; (case qF => k_asm); (case qN => k_asm); (case qk2 => assumption); (case qk3 => assumption); (case qk4 => assumption); k_whole)); intro h' o' k' F' N' hd'))) | (with_reducible ((with_reducible show wpAny _ _ (call (Value.builtin "dict.get") _) _ _ _); (k_here; (k_dflt (refine' dct_get ?qk1 ?qk2 ?qk3 ?qk4 ?_; (case qk1 => k_asm); (case qk2 => k_mem); (case qk3 => assumption); (case qk4 => assumption); k_whole)); intro _ _))) | (with_reducible ((with_reducible show wpAny _ _ (call (Value.builtin "dict.items") _) _ _ _); (k_here; (k_dflt (refine' dct_items ?qF ?qN ?qk2 ?qk3 ?qk4 ?_; (case qF => k_asm); (case qN => k_asm); (case qk2 => k_mem); (case qk3 => assumption); (case qk4 => assumption); k_whole)); intro V' h' hv' F' N'))) | (with_reducible ((with_reducible show wpAny _ _ (getMethod (Value.ref _) _ _) _ _ _); (k_here; (k_dflt (refine' dct_items_method ?qk1 ?qk2 ?qk3 ?_; (case qk1 => k_asm); (case qk2 => k_mem); (case qk3 => assumption); k_whole))))) | (with_reducible ((with_reducible show wpAny _ _ (getMethod (Value.ref _) _ _) _ _ _); (k_here; (k_dflt (refine' dct_method ?qk1 ?qk2 ?qk3 ?_; (case qk1 => k_asm); (case qk2 => k_mem); (case qk3 => assumption); k_whole))))) | (with_reducible (k_here; (with_reducible show wpAny _ _ (call (Value.ref 204) [Value.int _ _]) _ _ _); k_dflt (refine' way_tells ?qB ?qF ?qX ?qN ?qT ?qhk ?qhd ?qhu ?qhk1 ?qhk2 ?_; (  (case qB => k_asm); (case qF => k_asm); (case qX => k_asm); (case qN => k_asm); (case qT => k_asm); (case qhk => first | exact rfl | assumption); (case qhd => ktr_room); (case qhu => ktr_units)); (case qhk1 => (first | (with_reducible assumption) | omega | assumption)); (case qhk2 => (first | (with_reducible assumption) | omega | assumption)); k_whole); intro t' h' tk' F' N'; (try k_sweep))) | walk1 | (dsimp only; walk1)))
            (with_reducible rename Fr _ _ _ _ => F40)
            (with_reducible rename News _ _ _ _ => N40)
            have hTU := N40 _ (.head _)
            k_dflt (refine' comp_pick (vs := List.take c (tr'.map (·.1))) (row_its tr') (fun i v => ∃ p t, tr'[i]? = some p ∧ v = .str (pathS p.2) t) ?hh ?hl ?hlL F40 N40 ?hsz ?hkind ?hx ?hel ?hstar ?hnl ?hin ?hxn ?hdb ?hval ?fin3; (case hh => exact rfl); (case hl => exact ⟨_, hTU.1, rfl, 0, rfl⟩); (case hlL => exact hTU.2.1); (case hsz => rw [List.length_take, List.length_map, hrowlen]; (clear hTU N40 F40 hDC hoN hm3 hm2 hm1 hTDN hCAr hord2 hord hdc hP8 hwl2 hwl hrr hhalf hD8 hyl3 hrl d2n d1n q73 q72 q71 q63 q62 q61 hI2 hD7 hzl hLA3 hrm hD6 hI hyl2 hs8 ht8 hr3 hr2 hr1 hSr hS3 hS2 hS1 hse hso hrp' ep hSD hsd hD5 hyl hrp htr hrne hbase hs9 hLA1 hnl d3 d2 d1 l1 T' X' B' FG' hret hnm hsz hls hLA hu hd hk T N X F B; lia)); (case hkind => exact rfl); (case hx => decide); (case hel => exact fun C => rfl); (case hstar => exact fun C => rfl); (case hnl => exact fun C => rfl); (case hxn => decide); (case hdb => decide))
            case hin =>
              intro i v hv
              have hic : i < c := by
                have := (List.getElem?_eq_some_iff.mp hv).1
                rw [List.length_take] at this
                (clear hv hTU N40 F40 hDC hoN hm3 hm2 hm1 hTDN hCAr hord2 hord hdc hP8 hwl2 hcl hwl hrr hhalf hD8 hyl3 hsol hrl d2n d1n q73 q72 q71 q63 q62 q61 hI2 hD7 hzl hLA3 hrm hD6 hI hyl2 hs8 ht8 hr3 hr2 hr1 hSr hS3 hS2 hS1 hse hso hrowlen hrp' ep hSD hsd hD5 hyl hrp htr hrne hbase hs9 hLA1 hnl d3 d2 d1 l1 T' X' B' FG' hret hnm hsz hlen hls hLA hu hd hk T N X F B; lia)
              rw [List.getElem?_take, if_pos hic] at hv
              obtain ⟨p, a, n4, t1, t2, t3, t4, hp, rfl, hma⟩ := row_at hrp' hv
              exact ⟨a, _, _, rfl, .tail _ (.tail _ (.tail _ (.tail _ hma))), rfl, ⟨n4, rfl⟩, rfl, p, t1, t2, t3, t4, hp, rfl⟩
            case hval =>
              rintro i its m' ⟨p, t1, t2, t3, t4, hp, rfl⟩
              exact ⟨_, rfl, p, t3, hp, rfl⟩
            case fin3 =>
              rintro s12 hs12 tv htvl htv DP h14 tk14 F41 N41 hDP
              rw [hs12]
              clear hs12
              have htl : (List.take c (tr'.map (·.1))).length = c := by rw [List.length_take, List.length_map, hrowlen]; (clear hDP N41 F41 htv htvl hTU N40 F40 hDC hoN hm3 hm2 hm1 hTDN hCAr hord2 hord hdc hP8 hwl2 hwl hrr hhalf hD8 hyl3 hrl d2n d1n q73 q72 q71 q63 q62 q61 hI2 hD7 hzl hLA3 hrm hD6 hI hyl2 hs8 ht8 hr3 hr2 hr1 hSr hS3 hS2 hS1 hse hso hrp' ep hSD hsd hD5 hyl hrp htr hrne hbase hs9 hLA1 hnl d3 d2 d1 l1 T' X' B' FG' hret hnm hsz hlen hls hLA hu hd hk T N X F B; lia)
              rw [htl] at htvl htv
              have hSt : StrsAre tv ((so.take c).map pathS) := strs_of (by rw [htvl, List.length_map, List.length_take]; (clear hDP N41 F41 htv hTU N40 F40 hDC hoN hm3 hm2 hm1 hTDN hCAr hord2 hord hdc hP8 hwl2 hwl hrr hhalf hD8 hyl3 hsol hrl d2n d1n q73 q72 q71 q63 q62 q61 hI2 hD7 hzl hLA3 hrm hD6 hI hyl2 hs8 ht8 hr3 hr2 hr1 hSr hS3 hS2 hS1 hse hso hrowlen hrp' ep hSD hsd hD5 hyl hrp htr hrne hbase hs9 hLA1 hnl d3 d2 d1 l1 T' X' B' FG' hret hnm hsz hlen hls hLA hu hd hk T N X F B; lia)) fun j hj => by
                have hjc : j < c := by rw [List.length_map, List.length_take] at hj; (clear hDP N41 F41 htv hTU N40 F40 hDC hoN hm3 hm2 hm1 hTDN hCAr hord2 hord hdc hP8 hwl2 hwl hrr hhalf hD8 hyl3 hsol hrl d2n d1n q73 q72 q71 q63 q62 q61 hI2 hD7 hzl hLA3 hrm hD6 hI hyl2 hs8 ht8 hr3 hr2 hr1 hSr hS3 hS2 hS1 hse hso hrowlen hrp' ep hSD hsd hD5 hyl hrp htr hrne hbase hs9 hLA1 hnl d3 d2 d1 l1 T' X' B' FG' hret hnm hsz hlen hls hLA hu hd hk T N X F B; lia)
                obtain ⟨v, hv, p, t, hp, rfl⟩ := htv j hjc
                refine ⟨_, hv, pathS p.2, t, ?_, rfl⟩
                rw [List.getElem?_map, List.getElem?_take, if_pos hjc, hse, List.getElem?_map, hp]; rfl
              clear htv
              have hdl : (dueF (so.drop c)).length ≤ 900 := by
                have h1 := dues_len (so.drop c) []
                have h2 : (so.drop c).length ≤ so.length := by rw [List.length_drop]; (clear h1 hSt hDP N41 F41 hTU N40 F40 hDC hoN hm3 hm2 hm1 hTDN hCAr hord2 hord hdc hP8 hwl2 hwl hrr hhalf hD8 hyl3 hsol hrl d2n d1n q73 q72 q71 q63 q62 q61 hI2 hD7 hzl hLA3 hrm hD6 hI hyl2 hs8 ht8 hr3 hr2 hr1 hSr hS3 hS2 hS1 hse hso hrowlen hrp' ep hSD hsd hD5 hyl hrp htr hrne hbase hs9 hLA1 hnl d3 d2 d1 l1 T' X' B' FG' hret hnm hsz hlen hls hLA hu hd hk T N X F B; lia)
                unfold dueF
                simp only [List.length_nil] at h1
                (clear hSt htl hDP N41 F41 htvl hTU N40 F40 hDC hoN hm3 hm2 hm1 hTDN hCAr hord2 hord hdc hP8 hwl2 hcd hcl hwl hrr hhalf hD8 hyl3 hrl d2n d1n q73 q72 q71 q63 q62 q61 hI2 hD7 hzl hLA3 hrm hD6 hI hyl2 hs8 ht8 hr3 hr2 hr1 hSr hS3 hS2 hS1 hse hso hrp' ep hSD hsd hD5 hyl hrp htr hrne hbase hs9 hLA1 hnl d3 d2 d1 l1 T' X' B' FG' hret hnm hsz hls hLA hu hd hk T N X F B; lia)
              (repeat' ((fail_if_success (with_reducible first | show wpAny _ _ (pyIter _) _ _ _ | show wpAny _ _ (exec (Stmt.While _ _ _ _) _) _ _ _ | show wpAny _ _ (exec (Stmt.For _ _ _ _ _) _) _ _ _ | show TurnEnd _ _ _ _ _ _ _ | show TurnPost _ _ _ _ _ _ _ _ _ | show WhileStep _ _ _ _ _ _ _ | show WhileStep2 _ _ _ _ _ _ _ _ | show wpAny _ _ (eval (Expr.ListComp _ _ _ _) _) _ _ _ | show wpAny _ _ (exec (Stmt.Assign _ (Expr.ListComp _ _ _ _) _) _) _ _ _ | show wpAny _ _ (call (Value.builtin "sorted") _) _ _ _ | show wpAny _ _ (call (Value.builtin "sum") _) _ _ _ | show wpAny _ _ (call (Value.type "enumerate") _) _ _ _ | show wpAny _ _ (call (Value.type "range") _) _ _ _ | show wpAny _ _ (binaryOp _ (Value.ref _) (Value.ref _)) _ _ _ | show wpAny _ _ (call (Value.ref _) (Value.ref _ :: _)) _ _ _ | show wpAny _ _ (call (Value.ref 178) _) _ _ _)); first | ((with_reducible refine' isq_back ?e9 ?_); (case e9 => with_reducible assumption); (try dsimp only)) | ((with_reducible show wpAny _ _ (exec _ _) _ _ _); (refine gen_exec ?_); intro P9 hP9; walk1) | (k_unfold; (try dsimp only)) | (with_reducible (k_here; (with_reducible show wpAny _ _ (subscriptTail _ (PySem.Expr.Slice none (some _) none _) (Value.ref _) (Value.ref _)) _ _ _); k_dflt (refine' vst_upto ?qF ?qN ?ql ?qz ?_ ?qs ?qt; (case qF => k_asm); (case qN => k_asm); (case ql => k_mem); (case qz => assumption); (case qs => with_unfolding_all rfl); (case qt => kmk_pure)); intro D' h' F' N' l1; (try k_lt l1); (try k_sweep))) | (with_reducible (k_here; (with_reducible show wpAny _ _ (subscriptTail _ (PySem.Expr.Slice (some _) none none _) (Value.ref _) (Value.ref _)) _ _ _); k_dflt (refine' vst_from ?qF ?qN ?ql ?qz ?_ ?qs ?qt; (case qF => k_asm); (case qN => k_asm); (case ql => k_mem); (case qz => assumption); (case qs => with_unfolding_all rfl); (case qt => kmk_pure)); intro D' h' F' N' l1; (try k_lt l1); (try k_sweep))) | (with_reducible (k_here; (with_reducible show wpAny _ _ (call (Value.builtin "len") [Value.ref _]) _ _ _); (k_dflt (refine' vst_len ?qk1 ?qk2 ?qk4 ?_; (case qk1 => k_asm); (case qk2 => k_mem); (case qk4 => assumption); k_whole)); intro _ _)) | (with_reducible ((with_reducible show wpAny _ _ (binaryOp Operator.FloorDiv (Value.int _ _) (Value.int _ _)) _ _ _); (k_here; (refine div_pow (by assumption) ?_); intro _ _))) | (with_reducible ((with_reducible show wpAny _ _ (setItem (Value.ref _) (Value.str _ _) _) _ _ _); (k_here; (k_dflt (refine' dct_set ?qF ?qN ?qk2 ?qk3 ?qk4 ?_; (case qF => k_asm); (case qN => k_asm); (case qk2 => assumption); (case qk3 => assumption); (case qk4 => assumption); k_whole)); intro h' o' k' F' N' hd'))) | (with_reducible ((with_reducible show wpAny _ _ (call (Value.builtin "dict.get") _) _ _ _); (k_here; (k_dflt (refine' dct_get ?qk1 ?qk2 ?qk3 ?qk4 ?_; (case qk1 => k_asm); (case qk2 => k_mem); (case qk3 => assumption); (case qk4 => assumption); k_whole)); intro _ _))) | (with_reducible ((with_reducible show wpAny _ _ (call (Value.builtin "dict.items") _) _ _ _); (k_here; (k_dflt (refine' dct_items ?qF ?qN ?qk2 ?qk3 ?qk4 ?_; (case qF => k_asm); (case qN => k_asm); (case qk2 => k_mem); (case qk3 => assumption); (case qk4 => assumption); k_whole)); intro V' h' hv' F' N'))) | (with_reducible ((with_reducible show wpAny _ _ (getMethod (Value.ref _) _ _) _ _ _); (k_here; (k_dflt (refine' dct_items_method ?qk1 ?qk2 ?qk3 ?_; (case qk1 => k_asm); (case qk2 => k_mem); (case qk3 => assumption); k_whole))))) | (with_reducible ((with_reducible show wpAny _ _ (getMethod (Value.ref _) _ _) _ _ _); (k_here; (k_dflt (refine' dct_method ?qk1 ?qk2 ?qk3 ?_; (case qk1 => k_asm); (case qk2 => k_mem); (case qk3 => assumption); k_whole))))) | (with_reducible (k_here; (with_reducible show wpAny _ _ (call (Value.ref 204) [Value.int _ _]) _ _ _); k_dflt (refine' way_tells ?qB ?qF ?qX ?qN ?qT ?qhk ?qhd ?qhu ?qhk1 ?qhk2 ?_; (  (case qB => k_asm); (case qF => k_asm); (case qX => k_asm); (case qN => k_asm); (case qT => k_asm); (case qhk => first | exact rfl | assumption); (case qhd => ktr_room); (case qhu => ktr_units)); (case qhk1 => (first | (with_reducible assumption) | omega | assumption)); (case qhk2 => (first | (with_reducible assumption) | omega | assumption)); k_whole); intro t' h' tk' F' N'; (try k_sweep))) | walk1 | (dsimp only; walk1)))
              (with_reducible rename Fr _ _ _ _ => F42)
              k_dflt (refine' comp_eval F42 ?c1 ?c2 ?c3 ?c4 ?_; (case c1 => with_unfolding_all rfl); (case c2 => decide); (case c3 => exact rfl); (case c4 => decide))
              (repeat' ((fail_if_success (with_reducible first | show wpAny _ _ (pyIter _) _ _ _ | show wpAny _ _ (exec (Stmt.While _ _ _ _) _) _ _ _ | show wpAny _ _ (exec (Stmt.For _ _ _ _ _) _) _ _ _ | show TurnEnd _ _ _ _ _ _ _ | show TurnPost _ _ _ _ _ _ _ _ _ | show WhileStep _ _ _ _ _ _ _ | show WhileStep2 _ _ _ _ _ _ _ _ | show wpAny _ _ (eval (Expr.ListComp _ _ _ _) _) _ _ _ | show wpAny _ _ (exec (Stmt.Assign _ (Expr.ListComp _ _ _ _) _) _) _ _ _ | show wpAny _ _ (call (Value.builtin "sorted") _) _ _ _ | show wpAny _ _ (call (Value.builtin "sum") _) _ _ _ | show wpAny _ _ (call (Value.type "enumerate") _) _ _ _ | show wpAny _ _ (call (Value.type "range") _) _ _ _ | show wpAny _ _ (binaryOp _ (Value.ref _) (Value.ref _)) _ _ _ | show wpAny _ _ (call (Value.ref _) (Value.ref _ :: _)) _ _ _ | show wpAny _ _ (call (Value.ref 178) _) _ _ _)); first | ((with_reducible refine' isq_back ?e9 ?_); (case e9 => with_reducible assumption); (try dsimp only)) | ((with_reducible show wpAny _ _ (exec _ _) _ _ _); (refine gen_exec ?_); intro P9 hP9; walk1) | (k_unfold; (try dsimp only)) | (with_reducible (k_here; (with_reducible show wpAny _ _ (subscriptTail _ (PySem.Expr.Slice none (some _) none _) (Value.ref _) (Value.ref _)) _ _ _); k_dflt (refine' vst_upto ?qF ?qN ?ql ?qz ?_ ?qs ?qt; (case qF => k_asm); (case qN => k_asm); (case ql => k_mem); (case qz => assumption); (case qs => with_unfolding_all rfl); (case qt => kmk_pure)); intro D' h' F' N' l1; (try k_lt l1); (try k_sweep))) | (with_reducible (k_here; (with_reducible show wpAny _ _ (subscriptTail _ (PySem.Expr.Slice (some _) none none _) (Value.ref _) (Value.ref _)) _ _ _); k_dflt (refine' vst_from ?qF ?qN ?ql ?qz ?_ ?qs ?qt; (case qF => k_asm); (case qN => k_asm); (case ql => k_mem); (case qz => assumption); (case qs => with_unfolding_all rfl); (case qt => kmk_pure)); intro D' h' F' N' l1; (try k_lt l1); (try k_sweep))) | (with_reducible (k_here; (with_reducible show wpAny _ _ (call (Value.builtin "len") [Value.ref _]) _ _ _); (k_dflt (refine' vst_len ?qk1 ?qk2 ?qk4 ?_; (case qk1 => k_asm); (case qk2 => k_mem); (case qk4 => assumption); k_whole)); intro _ _)) | (with_reducible ((with_reducible show wpAny _ _ (binaryOp Operator.FloorDiv (Value.int _ _) (Value.int _ _)) _ _ _); (k_here; (refine div_pow (by assumption) ?_); intro _ _))) | (with_reducible ((with_reducible show wpAny _ _ (setItem (Value.ref _) (Value.str _ _) _) _ _ _); (k_here; (k_dflt (refine' dct_set ?qF ?qN ?qk2 ?qk3 ?qk4 ?_; (case qF => k_asm); (case qN => k_asm); (case qk2 => assumption); (case qk3 => assumption); (case qk4 => assumption); k_whole)); intro h' o' k' F' N' hd'))) | (with_reducible ((with_reducible show wpAny _ _ (call (Value.builtin "dict.get") _) _ _ _); (k_here; (k_dflt (refine' dct_get ?qk1 ?qk2 ?qk3 ?qk4 ?_; (case qk1 => k_asm); (case qk2 => k_mem); (case qk3 => assumption); (case qk4 => assumption); k_whole)); intro _ _))) | (with_reducible ((with_reducible show wpAny _ _ (call (Value.builtin "dict.items") _) _ _ _); (k_here; (k_dflt (refine' dct_items ?qF ?qN ?qk2 ?qk3 ?qk4 ?_; (case qF => k_asm); (case qN => k_asm); (case qk2 => k_mem); (case qk3 => assumption); (case qk4 => assumption); k_whole)); intro V' h' hv' F' N'))) | (with_reducible ((with_reducible show wpAny _ _ (getMethod (Value.ref _) _ _) _ _ _); (k_here; (k_dflt (refine' dct_items_method ?qk1 ?qk2 ?qk3 ?_; (case qk1 => k_asm); (case qk2 => k_mem); (case qk3 => assumption); k_whole))))) | (with_reducible ((with_reducible show wpAny _ _ (getMethod (Value.ref _) _ _) _ _ _); (k_here; (k_dflt (refine' dct_method ?qk1 ?qk2 ?qk3 ?_; (case qk1 => k_asm); (case qk2 => k_mem); (case qk3 => assumption); k_whole))))) | (with_reducible (k_here; (with_reducible show wpAny _ _ (call (Value.ref 204) [Value.int _ _]) _ _ _); k_dflt (refine' way_tells ?qB ?qF ?qX ?qN ?qT ?qhk ?qhd ?qhu ?qhk1 ?qhk2 ?_; (  (case qB => k_asm); (case qF => k_asm); (case qX => k_asm); (case qN => k_asm); (case qT => k_asm); (case qhk => first | exact rfl | assumption); (case qhd => ktr_room); (case qhu => ktr_units)); (case qhk1 => (first | (with_reducible assumption) | omega | assumption)); (case qhk2 => (first | (with_reducible assumption) | omega | assumption)); k_whole); intro t' h' tk' F' N'; (try k_sweep))) | walk1 | (dsimp only; walk1)))
              clear F42
              (with_reducible rename Fr _ _ _ _ => F43)
              (with_reducible rename News _ _ _ _ => N43)
              have N44 : News g' L' _ ((DP, LCg.lst tv) :: (CA, oC) :: r) := fun p hp => N43 p (by
                rcases mem3 hp with rfl | rfl | hp
                · exact .head _
                · exact .tail _ (.tail _ (.tail _ (.head _)))
                · exact .tail _ (.tail _ (.tail _ (.tail _ (.tail _ hp)))))
              clear N43
              k_dflt (refine' comp_items (ch := dueF (so.drop c)) (fun i ys nw => (∀ p ∈ (DP, LCg.lst tv) :: (CA, oC) :: r, p ∈ nw) ∧ ys.length ≤ i ∧ PairsAt nw ys ((dueF (so.drop c)).take i)) ?hh ?hkind ?hxa ?hxb ?hab F43 N44 ?hv ?hmd ?hD ?hsz ?hlen ?h0 ?step ?fin4; (case hh => exact rfl); (case hkind => exact rfl); (case hxa => decide); (case hxb => decide); (case hab => decide); (case hv => assumption); (case hmd => exact .tail _ (.head _)); (case hD => exact hDC); (case hsz => (clear N44 F43 hSt htl hDP N41 htvl hTU N40 F40 hDC hoN hm3 hm2 hm1 hTDN hCAr hord2 hord hdc hP8 hwl2 hcd hcl hwl hrr hhalf hD8 hyl3 hsol hrl d2n d1n q73 q72 q71 q63 q62 q61 hI2 hD7 hzl hLA3 hrm hD6 hI hyl2 hs8 ht8 hr3 hr2 hr1 hSr hS3 hS2 hS1 hse hso hrowlen hrp' ep hSD hsd hD5 hyl hrp htr hrne hbase hs9 hLA1 hnl d3 d2 d1 l1 T' X' B' FG' hret hnm hsz hlen hls hLA hu hd hk T N X F B; lia)); (case hlen => exact fun i ys nw h => h.2.1); (case h0 => exact ⟨fun _ h => h, Nat.zero_le _, .nil⟩))
              case step =>
                rintro s9 I hIC hIl i ys nw own h₁ tk₁ C oC2 mC D E' hi ⟨hbase2, hyl, hpa⟩ ⟨k, nn, t8, t9, hch, hma, hmb⟩ hoff hown hwr hCD F₁ hoC N₁
                refine tst_nil ?_
                rw [if_pos rfl]
                (repeat' ((fail_if_success (with_reducible first | show wpAny _ _ (pyIter _) _ _ _ | show wpAny _ _ (exec (Stmt.While _ _ _ _) _) _ _ _ | show wpAny _ _ (exec (Stmt.For _ _ _ _ _) _) _ _ _ | show TurnEnd _ _ _ _ _ _ _ | show TurnPost _ _ _ _ _ _ _ _ _ | show WhileStep _ _ _ _ _ _ _ | show WhileStep2 _ _ _ _ _ _ _ _ | show wpAny _ _ (eval (Expr.ListComp _ _ _ _) _) _ _ _ | show wpAny _ _ (exec (Stmt.Assign _ (Expr.ListComp _ _ _ _) _) _) _ _ _ | show wpAny _ _ (call (Value.builtin "sorted") _) _ _ _ | show wpAny _ _ (call (Value.builtin "sum") _) _ _ _ | show wpAny _ _ (call (Value.type "enumerate") _) _ _ _ | show wpAny _ _ (call (Value.type "range") _) _ _ _ | show wpAny _ _ (binaryOp _ (Value.ref _) (Value.ref _)) _ _ _ | show wpAny _ _ (call (Value.ref _) (Value.ref _ :: _)) _ _ _ | show wpAny _ _ (call (Value.ref 178) _) _ _ _)); first | ((with_reducible refine' isq_back ?e9 ?_); (case e9 => with_reducible assumption); (try dsimp only)) | ((with_reducible show wpAny _ _ (exec _ _) _ _ _); (refine gen_exec ?_); intro P9 hP9; walk1) | (k_unfold; (try dsimp only)) | (with_reducible (k_here; (with_reducible show wpAny _ _ (subscriptTail _ (PySem.Expr.Slice none (some _) none _) (Value.ref _) (Value.ref _)) _ _ _); k_dflt (refine' vst_upto ?qF ?qN ?ql ?qz ?_ ?qs ?qt; (case qF => k_asm); (case qN => k_asm); (case ql => k_mem); (case qz => assumption); (case qs => with_unfolding_all rfl); (case qt => kmk_pure)); intro D' h' F' N' l1; (try k_lt l1); (try k_sweep))) | (with_reducible (k_here; (with_reducible show wpAny _ _ (subscriptTail _ (PySem.Expr.Slice (some _) none none _) (Value.ref _) (Value.ref _)) _ _ _); k_dflt (refine' vst_from ?qF ?qN ?ql ?qz ?_ ?qs ?qt; (case qF => k_asm); (case qN => k_asm); (case ql => k_mem); (case qz => assumption); (case qs => with_unfolding_all rfl); (case qt => kmk_pure)); intro D' h' F' N' l1; (try k_lt l1); (try k_sweep))) | (with_reducible (k_here; (with_reducible show wpAny _ _ (call (Value.builtin "len") [Value.ref _]) _ _ _); (k_dflt (refine' vst_len ?qk1 ?qk2 ?qk4 ?_; (case qk1 => k_asm); (case qk2 => k_mem); (case qk4 => assumption); k_whole)); intro _ _)) | (with_reducible ((with_reducible show wpAny _ _ (binaryOp Operator.FloorDiv (Value.int _ _) (Value.int _ _)) _ _ _); (k_here; (refine div_pow (by assumption) ?_); intro _ _))) | (with_reducible ((with_reducible show wpAny _ _ (setItem (Value.ref _) (Value.str _ _) _) _ _ _); (k_here; (k_dflt (refine' dct_set ?qF ?qN ?qk2 ?qk3 ?qk4 ?_; (case qF => k_asm); (case qN => k_asm); (case qk2 => assumption); (case qk3 => assumption); (case qk4 => assumption); k_whole)); intro h' o' k' F' N' hd'))) | (with_reducible ((with_reducible show wpAny _ _ (call (Value.builtin "dict.get") _) _ _ _); (k_here; (k_dflt (refine' dct_get ?qk1 ?qk2 ?qk3 ?qk4 ?_; (case qk1 => k_asm); (case qk2 => k_mem); (case qk3 => assumption); (case qk4 => assumption); k_whole)); intro _ _))) | (with_reducible ((with_reducible show wpAny _ _ (call (Value.builtin "dict.items") _) _ _ _); (k_here; (k_dflt (refine' dct_items ?qF ?qN ?qk2 ?qk3 ?qk4 ?_; (case qF => k_asm); (case qN => k_asm); (case qk2 => k_mem); (case qk3 => assumption); (case qk4 => assumption); k_whole)); intro V' h' hv' F' N'))) | (with_reducible ((with_reducible show wpAny _ _ (getMethod (Value.ref _) _ _) _ _ _); (k_here; (k_dflt (refine' dct_items_method ?qk1 ?qk2 ?qk3 ?_; (case qk1 => k_asm); (case qk2 => k_mem); (case qk3 => assumption); k_whole))))) | (with_reducible ((with_reducible show wpAny _ _ (getMethod (Value.ref _) _ _) _ _ _); (k_here; (k_dflt (refine' dct_method ?qk1 ?qk2 ?qk3 ?_; (case qk1 => k_asm); (case qk2 => k_mem); (case qk3 => assumption); k_whole))))) | (with_reducible (k_here; (with_reducible show wpAny _ _ (call (Value.ref 204) [Value.int _ _]) _ _ _); k_dflt (refine' way_tells ?qB ?qF ?qX ?qN ?qT ?qhk ?qhd ?qhu ?qhk1 ?qhk2 ?_; (  (case qB => k_asm); (case qF => k_asm); (case qX => k_asm); (case qN => k_asm); (case qT => k_asm); (case qhk => first | exact rfl | assumption); (case qhd => ktr_room); (case qhu => ktr_units)); (case qhk1 => (first | (with_reducible assumption) | omega | assumption)); (case qhk2 => (first | (with_reducible assumption) | omega | assumption)); k_whole); intro t' h' tk' F' N'; (try k_sweep))) | walk1 | (dsimp only; walk1)))
                (with_reducible rename Fr _ _ _ _ => F10)
                (with_reducible rename News _ _ _ _ => N10)
                refine news_name N10 fun B2 rest2 e1 e2 N11 => ?_
                subst e1
                have hB2 : C < B2 ∧ D < B2 ∧ AllLt B2 (nw ++ own) := by assumption
                have hB2ne := allLt_ne hB2.2.2
                refine cend (news₁ := (B2, listOf #[.str k t8, .int nn t9] 0) :: nw) F10 hoC (fun p hp => N11 p ?_) (fun p hp => ?_) ⟨fun p hp => .tail _ (hbase2 p hp), by rw [List.length_append]; exact Nat.succ_le_succ hyl, ?_⟩
                · rcases mem3 hp with rfl | rfl | hp
                  · exact .tail _ (e2 ▸ .head _)
                  · exact .tail _ (e2 ▸ .tail _ (.head _))
                  · rcases List.mem_cons.mp hp with rfl | hp
                    · exact .head _
                    · exact .tail _ (e2 ▸ .tail _ (.tail _ hp))
                · rcases List.mem_cons.mp hp with rfl | hp
                  · obtain ⟨oI, hoI⟩ := hwr I (List.mem_singleton.mpr rfl)
                    exact ⟨fun h => hB2ne _ (List.mem_append_right _ hoI) (List.mem_singleton.mp h).symm, Nat.ne_of_gt hB2.1, Nat.ne_of_gt hB2.2.1⟩
                  · exact hoff p hp
                · rw [List.take_add_one, hch]
                  exact (hpa.grow fun p hp => .tail _ hp).app (.cons (.head _) .nil)
              case fin4 =>
                rintro s9 hs9 ys nw ⟨hbase2, hyl, hpa⟩ D5 h5 tk5 F5 N5' hD5
                rw [hs9]
                rw [List.take_length] at hpa
                have hpn : PairsAt ((D5, LCg.lst ys) :: nw) ys _ := hpa.grow fun p hp => .tail _ hp
                (repeat' ((fail_if_success (with_reducible first | show wpAny _ _ (pyIter _) _ _ _ | show wpAny _ _ (exec (Stmt.While _ _ _ _) _) _ _ _ | show wpAny _ _ (exec (Stmt.For _ _ _ _ _) _) _ _ _ | show TurnEnd _ _ _ _ _ _ _ | show TurnPost _ _ _ _ _ _ _ _ _ | show WhileStep _ _ _ _ _ _ _ | show WhileStep2 _ _ _ _ _ _ _ _ | show wpAny _ _ (eval (Expr.ListComp _ _ _ _) _) _ _ _ | show wpAny _ _ (exec (Stmt.Assign _ (Expr.ListComp _ _ _ _) _) _) _ _ _ | show wpAny _ _ (call (Value.builtin "sorted") _) _ _ _ | show wpAny _ _ (call (Value.builtin "sum") _) _ _ _ | show wpAny _ _ (call (Value.type "enumerate") _) _ _ _ | show wpAny _ _ (call (Value.type "range") _) _ _ _ | show wpAny _ _ (binaryOp _ (Value.ref _) (Value.ref _)) _ _ _ | show wpAny _ _ (call (Value.ref _) (Value.ref _ :: _)) _ _ _ | show wpAny _ _ (call (Value.ref 178) _) _ _ _)); first | ((with_reducible refine' isq_back ?e9 ?_); (case e9 => with_reducible assumption); (try dsimp only)) | ((with_reducible show wpAny _ _ (exec _ _) _ _ _); (refine gen_exec ?_); intro P9 hP9; walk1) | (k_unfold; (try dsimp only)) | (with_reducible (k_here; (with_reducible show wpAny _ _ (subscriptTail _ (PySem.Expr.Slice none (some _) none _) (Value.ref _) (Value.ref _)) _ _ _); k_dflt (refine' vst_upto ?qF ?qN ?ql ?qz ?_ ?qs ?qt; (case qF => k_asm); (case qN => k_asm); (case ql => k_mem); (case qz => assumption); (case qs => with_unfolding_all rfl); (case qt => kmk_pure)); intro D' h' F' N' l1; (try k_lt l1); (try k_sweep))) | (with_reducible (k_here; (with_reducible show wpAny _ _ (subscriptTail _ (PySem.Expr.Slice (some _) none none _) (Value.ref _) (Value.ref _)) _ _ _); k_dflt (refine' vst_from ?qF ?qN ?ql ?qz ?_ ?qs ?qt; (case qF => k_asm); (case qN => k_asm); (case ql => k_mem); (case qz => assumption); (case qs => with_unfolding_all rfl); (case qt => kmk_pure)); intro D' h' F' N' l1; (try k_lt l1); (try k_sweep))) | (with_reducible (k_here; (with_reducible show wpAny _ _ (call (Value.builtin "len") [Value.ref _]) _ _ _); (k_dflt (refine' vst_len ?qk1 ?qk2 ?qk4 ?_; (case qk1 => k_asm); (case qk2 => k_mem); (case qk4 => assumption); k_whole)); intro _ _)) | (with_reducible ((with_reducible show wpAny _ _ (binaryOp Operator.FloorDiv (Value.int _ _) (Value.int _ _)) _ _ _); (k_here; (refine div_pow (by assumption) ?_); intro _ _))) | (with_reducible ((with_reducible show wpAny _ _ (setItem (Value.ref _) (Value.str _ _) _) _ _ _); (k_here; (k_dflt (refine' dct_set ?qF ?qN ?qk2 ?qk3 ?qk4 ?_; (case qF => k_asm); (case qN => k_asm); (case qk2 => assumption); (case qk3 => assumption); (case qk4 => assumption); k_whole)); intro h' o' k' F' N' hd'))) | (with_reducible ((with_reducible show wpAny _ _ (call (Value.builtin "dict.get") _) _ _ _); (k_here; (k_dflt (refine' dct_get ?qk1 ?qk2 ?qk3 ?qk4 ?_; (case qk1 => k_asm); (case qk2 => k_mem); (case qk3 => assumption); (case qk4 => assumption); k_whole)); intro _ _))) | (with_reducible ((with_reducible show wpAny _ _ (call (Value.builtin "dict.items") _) _ _ _); (k_here; (k_dflt (refine' dct_items ?qF ?qN ?qk2 ?qk3 ?qk4 ?_; (case qF => k_asm); (case qN => k_asm); (case qk2 => k_mem); (case qk3 => assumption); (case qk4 => assumption); k_whole)); intro V' h' hv' F' N'))) | (with_reducible ((with_reducible show wpAny _ _ (getMethod (Value.ref _) _ _) _ _ _); (k_here; (k_dflt (refine' dct_items_method ?qk1 ?qk2 ?qk3 ?_; (case qk1 => k_asm); (case qk2 => k_mem); (case qk3 => assumption); k_whole))))) | (with_reducible ((with_reducible show wpAny _ _ (getMethod (Value.ref _) _ _) _ _ _); (k_here; (k_dflt (refine' dct_method ?qk1 ?qk2 ?qk3 ?_; (case qk1 => k_asm); (case qk2 => k_mem); (case qk3 => assumption); k_whole))))) | (with_reducible (k_here; (with_reducible show wpAny _ _ (call (Value.ref 204) [Value.int _ _]) _ _ _); k_dflt (refine' way_tells ?qB ?qF ?qX ?qN ?qT ?qhk ?qhd ?qhu ?qhk1 ?qhk2 ?_; (  (case qB => k_asm); (case qF => k_asm); (case qX => k_asm); (case qN => k_asm); (case qT => k_asm); (case qhk => first | exact rfl | assumption); (case qhd => ktr_room); (case qhu => ktr_units)); (case qhk1 => (first | (with_reducible assumption) | omega | assumption)); (case qhk2 => (first | (with_reducible assumption) | omega | assumption)); k_whole); intro t' h' tk' F' N'; (try k_sweep))) | walk1 | (dsimp only; walk1)))
                k_dflt refine' sorted_lists (vs := ys) (news := (D5, LCg.lst ys) :: nw) ?F ?N ?hl ?hk (prs_fst hpn) (prs_alike hpn) ?hun ?hlen ?_
                case F => k_asm
                case N => k_asm
                case hl => exact ⟨_, (N5' _ (.head _)).1, rfl, _, rfl⟩
                case hk => exact prs_keyed hpn N5'
                case hun => ktr_units
                case hlen => exact Nat.le_trans hyl (Nat.le_trans hdl (by decide))
                intro SE se2 h6 prs2 hsd2 F6' N6' hSE
                obtain ⟨hp1, hp2, hp3⟩ := prs_sorted hpn hsd2
                (repeat' ((fail_if_success (with_reducible first | show wpAny _ _ (pyIter _) _ _ _ | show wpAny _ _ (exec (Stmt.While _ _ _ _) _) _ _ _ | show wpAny _ _ (exec (Stmt.For _ _ _ _ _) _) _ _ _ | show TurnEnd _ _ _ _ _ _ _ | show TurnPost _ _ _ _ _ _ _ _ _ | show WhileStep _ _ _ _ _ _ _ | show WhileStep2 _ _ _ _ _ _ _ _ | show wpAny _ _ (eval (Expr.ListComp _ _ _ _) _) _ _ _ | show wpAny _ _ (exec (Stmt.Assign _ (Expr.ListComp _ _ _ _) _) _) _ _ _ | show wpAny _ _ (call (Value.builtin "sorted") _) _ _ _ | show wpAny _ _ (call (Value.builtin "sum") _) _ _ _ | show wpAny _ _ (call (Value.type "enumerate") _) _ _ _ | show wpAny _ _ (call (Value.type "range") _) _ _ _ | show wpAny _ _ (binaryOp _ (Value.ref _) (Value.ref _)) _ _ _ | show wpAny _ _ (call (Value.ref _) (Value.ref _ :: _)) _ _ _ | show wpAny _ _ (call (Value.ref 178) _) _ _ _)); first | ((with_reducible refine' isq_back ?e9 ?_); (case e9 => with_reducible assumption); (try dsimp only)) | ((with_reducible show wpAny _ _ (exec _ _) _ _ _); (refine gen_exec ?_); intro P9 hP9; walk1) | (k_unfold; (try dsimp only)) | (with_reducible (k_here; (with_reducible show wpAny _ _ (subscriptTail _ (PySem.Expr.Slice none (some _) none _) (Value.ref _) (Value.ref _)) _ _ _); k_dflt (refine' vst_upto ?qF ?qN ?ql ?qz ?_ ?qs ?qt; (case qF => k_asm); (case qN => k_asm); (case ql => k_mem); (case qz => assumption); (case qs => with_unfolding_all rfl); (case qt => kmk_pure)); intro D' h' F' N' l1; (try k_lt l1); (try k_sweep))) | (with_reducible (k_here; (with_reducible show wpAny _ _ (subscriptTail _ (PySem.Expr.Slice (some _) none none _) (Value.ref _) (Value.ref _)) _ _ _); k_dflt (refine' vst_from ?qF ?qN ?ql ?qz ?_ ?qs ?qt; (case qF => k_asm); (case qN => k_asm); (case ql => k_mem); (case qz => assumption); (case qs => with_unfolding_all rfl); (case qt => kmk_pure)); intro D' h' F' N' l1; (try k_lt l1); (try k_sweep))) | (with_reducible (k_here; (with_reducible show wpAny _ _ (call (Value.builtin "len") [Value.ref _]) _ _ _); (k_dflt (refine' vst_len ?qk1 ?qk2 ?qk4 ?_; (case qk1 => k_asm); (case qk2 => k_mem); (case qk4 => assumption); k_whole)); intro _ _)) | (with_reducible ((with_reducible show wpAny _ _ (binaryOp Operator.FloorDiv (Value.int _ _) (Value.int _ _)) _ _ _); (k_here; (refine div_pow (by assumption) ?_); intro _ _))) | (with_reducible ((with_reducible show wpAny _ _ (setItem (Value.ref _) (Value.str _ _) _) _ _ _); (k_here; (k_dflt (refine' dct_set ?qF ?qN ?qk2 ?qk3 ?qk4 ?_; (case qF => k_asm); (case qN => k_asm); (case qk2 => assumption); (case qk3 => assumption); (case qk4 => assumption); k_whole)); intro h' o' k' F' N' hd'))) | (with_reducible ((with_reducible show wpAny _ _ (call (Value.builtin "dict.get") _) _ _ _); (k_here; (k_dflt (refine' dct_get ?qk1 ?qk2 ?qk3 ?qk4 ?_; (case qk1 => k_asm); (case qk2 => k_mem); (case qk3 => assumption); (case qk4 => assumption); k_whole)); intro _ _))) | (with_reducible ((with_reducible show wpAny _ _ (call (Value.builtin "dict.items") _) _ _ _); (k_here; (k_dflt (refine' dct_items ?qF ?qN ?qk2 ?qk3 ?qk4 ?_; (case qF => k_asm); (case qN => k_asm); (case qk2 => k_mem); (case qk3 => assumption); (case qk4 => assumption); k_whole)); intro V' h' hv' F' N'))) | (with_reducible ((with_reducible show wpAny _ _ (getMethod (Value.ref _) _ _) _ _ _); (k_here; (k_dflt (refine' dct_items_method ?qk1 ?qk2 ?qk3 ?_; (case qk1 => k_asm); (case qk2 => k_mem); (case qk3 => assumption); k_whole))))) | (with_reducible ((with_reducible show wpAny _ _ (getMethod (Value.ref _) _ _) _ _ _); (k_here; (k_dflt (refine' dct_method ?qk1 ?qk2 ?qk3 ?_; (case qk1 => k_asm); (case qk2 => k_mem); (case qk3 => assumption); k_whole))))) | (with_reducible (k_here; (with_reducible show wpAny _ _ (call (Value.ref 204) [Value.int _ _]) _ _ _); k_dflt (refine' way_tells ?qB ?qF ?qX ?qN ?qT ?qhk ?qhd ?qhu ?qhk1 ?qhk2 ?_; (  (case qB => k_asm); (case qF => k_asm); (case qX => k_asm); (case qN => k_asm); (case qT => k_asm); (case qhk => first | exact rfl | assumption); (case qhd => ktr_room); (case qhu => ktr_units)); (case qhk1 => (first | (with_reducible assumption) | omega | assumption)); (case qhk2 => (first | (with_reducible assumption) | omega | assumption)); k_whole); intro t' h' tk' F' N'; (try k_sweep))) | walk1 | (dsimp only; walk1)))
                (with_reducible rename Fr h₀ L _ m => kF)
                (with_reducible rename News h₀ L _ _ => kN)
                rw [hcd] at hSt hp2
                refine hret _ _ _ _ (prs2.map fun q => unkey q.2) so hso kF (news_both kN ?_) ⟨_, DP, SE, _, _, se2, tv, _, rfl, .head _, .tail _ (.tail _ (.tail _ (hbase2 _ (.head _)))), hSt, .tail _ (.head _), hp1.grow fun p hp => .tail _ (.tail _ hp)⟩ hp2 hp3
                exact fun p hp => .tail _ (.tail _ (.tail _ (hbase2 _ (.tail _ (.tail _ (hbase p hp))))))
end
end

/-! G1 -/
section
open PySem.SeqAt PyProof.Rows.LCg
section
variable {A : Around} {s : Shared}
theorem eq_lists_true {l b : Addr} {vs ws : List Value} (hl : s.heap.IsList l vs.toArray) (hb : s.heap.IsList b ws.toArray) (hlen : vs.length = ws.length) (hu : A.units < cLine)
    (he : ∀ (j : Nat) v w, vs[j]? = some v → ws[j]? = some w → EqAt A.in1 s v w true) : RcAt A s (.ref l) (.ref b) true := by
  have h := RcAt.lists (A := A) (e := fun _ => true) hl hb (by simpa using hlen) hu fun j h1 h2 => he j _ _ (by simp) (by simp)
  have e : (List.range vs.toArray.size).all (fun _ => true) = true := by simp
  rwa [e] at h
theorem eq_ref {l b : Addr} (h : RcAt A s (.ref l) (.ref b) true) : EqAt A s (.ref l) (.ref b) true := by
  by_cases e : l = b
  · subst e; exact EqAt.same _
  · exact EqAt.of_refs e h
theorem eq_str {x : Str} {t u : Tok} : EqAt A s (.str x t) (.str x u) true := by
  have := EqAt.str_str (A := A) (s := s) x t x u
  rwa [beq_self_eq_true] at this
theorem eq_int {x : Int} {t u : Tok} : EqAt A s (.int x t) (.int x u) true := by
  have := EqAt.int_int (A := A) (s := s) x t x u
  rwa [beq_self_eq_true] at this
theorem pairs_at {rest : List (Addr × Obj)} {vs : List Value} {ps : List (Str × Int)} (h : PairsAt rest vs ps) : ∀ {j : Nat} {v : Value}, vs[j]? = some v → ∃ a n t1 t2 p, ps[j]? = some p ∧ v = .ref a ∧ (a, listOf #[.str p.1 t1, .int p.2 t2] n) ∈ rest := by
  induction h with
  | nil => intro j v hv; simp at hv
  | @cons a n t1 t2 k x r q hm _ ih =>
    intro j v hv
    cases j with
    | zero =>
      have e : Value.ref a = v := by simpa using hv
      exact ⟨a, n, t1, t2, (k, x), rfl, e.symm, hm⟩
    | succ j => exact ih (by simpa using hv)
theorem in1_units (A : Around) (k : Nat) (h : A.units + (k + 1) < cLine) : A.in1.units + k < cLine := by
  rw [units_in1]; omega
theorem eq_res {prog : Program} {w : World} {E : Value → Shared → Prop} {h₀ : Heap} {L : Addr} {nw : List (Addr × Obj)} {v w' : Value} {th : List Str} {fs : List (Str × Int)} {Q : Value → Shared → Prop} (N : News h₀ L s.heap nw) (h1 : ResAt nw v th fs) (h2 : ResAt nw w' th fs) (hu : A.units + 10 < cLine)
    (h : Q (.bool true) s) : wpAny (model prog w) A (compareOp .Eq v w') Q E s := by
  obtain ⟨RA, TA, SA, n1, n2, n3, tv, sv, rfl, hR, hT, hS, hSS, hP⟩ := h1
  obtain ⟨RB, TB, SB, m1, m2, m3, tw, sw, rfl, gR, gT, gS, gSS, gP⟩ := h2
  have is : ∀ {a : Addr} {l : List Value} {n : Nat}, (a, listOf l.toArray n) ∈ nw → s.heap.IsList a l.toArray := fun {a l n} hm => ⟨_, (N _ hm).1, rfl, n, rfl⟩
  have u1 : A.in1.units + 9 < cLine := in1_units A 9 hu
  have u2 : A.in1.in1.units + 8 < cLine := in1_units A.in1 8 u1
  have top : RcAt A s (.ref RA) (.ref RB) true := by
    refine eq_lists_true (vs := [.ref TA, .ref SA]) (ws := [.ref TB, .ref SB]) (is hR) (is gR) rfl (by omega) fun j v w hv hw => ?_
    have e1 : EqAt A.in1 s (.ref TA) (.ref TB) true := eq_ref (eq_lists_true (is hT) (is gT) (by rw [strsAre_len hS, strsAre_len gS]) (by omega) fun j v w hv hw => by
      obtain ⟨x, t, rfl, hx⟩ := strsAre_get hS hv
      obtain ⟨y, u, rfl, hy⟩ := strsAre_get gS hw
      have : x = y := Option.some.inj (hx.symm.trans hy)
      subst this
      exact eq_str)
    have e2 : EqAt A.in1 s (.ref SA) (.ref SB) true := eq_ref (eq_lists_true (is hSS) (is gSS) (by rw [hP.len, gP.len]) (by omega) fun j v w hv hw => by
      obtain ⟨a, n, t1, t2, p, hp, rfl, hm⟩ := pairs_at hP hv
      obtain ⟨b, n', u1, u2, q, hq, rfl, gm⟩ := pairs_at gP hw
      have : p = q := Option.some.inj (hp.symm.trans hq)
      subst this
      refine eq_ref (eq_lists_true (vs := [.str p.1 t1, .int p.2 t2]) (ws := [.str p.1 u1, .int p.2 u2]) (is hm) (is gm) rfl (by omega) fun j v w hv hw => ?_)
      match j, hv, hw with
      | 0, hv, hw =>
        have e1 : Value.str p.1 t1 = v := by simpa using hv
        have e2 : Value.str p.1 u1 = w := by simpa using hw
        subst e1 e2; exact eq_str
      | 1, hv, hw =>
        have e1 : Value.int p.2 t2 = v := by simpa using hv
        have e2 : Value.int p.2 u2 = w := by simpa using hw
        subst e1 e2; exact eq_int
      | j + 2, hv, _ => simp at hv)
    match j, hv, hw with
    | 0, hv, hw =>
      have e3 : Value.ref TA = v := by simpa using hv
      have e4 : Value.ref TB = w := by simpa using hw
      subst e3 e4; exact e1
    | 1, hv, hw =>
      have e3 : Value.ref SA = v := by simpa using hv
      have e4 : Value.ref SB = w := by simpa using hw
      subst e3 e4; exact e2
    | j + 2, hv, _ => simp at hv
  exact cmp_ofEq (top prog w E Q h)
end
theorem ResAt.grow {rest rest' : List (Addr × Obj)} {v : Value} {th : List Str} {fs : List (Str × Int)} (h : ResAt rest v th fs) (hs : ∀ p ∈ rest, p ∈ rest') : ResAt rest' v th fs := by
  obtain ⟨RA, TA, SA, n1, n2, n3, tv, sv, rfl, hR, hT, hS, hSS, hP⟩ := h
  exact ⟨RA, TA, SA, n1, n2, n3, tv, sv, rfl, hs _ hR, hs _ hT, hS, hs _ hSS, hP.grow hs⟩
theorem LetsAt.app {rest : List (Addr × Obj)} {vs vs' : List Value} {ps ps' : List Lt} (h : LetsAt rest vs ps) (h' : LetsAt rest vs' ps') : LetsAt rest (vs ++ vs') (ps ++ ps') := by
  induction h with
  | nil => exact h'
  | cons hm _ ih => exact .cons hm ih
noncomputable def letOf (x : Int) : Lt := (x / 8 % 4, 1 + x % 8, numOf x)
theorem letOf_size (x : Int) : 1 ≤ (letOf x).2.1 ∧ (letOf x).2.1 ≤ 8 := by
  unfold letOf; dsimp only; omega
theorem letOf_num (x : Int) : (letOf x).2.2.natAbs < 16 ^ 12 := by
  unfold letOf numOf
  (try dsimp only)
  split <;> omega
end

/-! G2 -/
section
open PySem.Calls
open LCg
noncomputable def five : List Int := [5682, 356, 9, 91111, 2199023256080]
theorem add_script {prog : Program} {w : World} {A : Around} {E : Value → Shared → Prop} {s : Shared} {h₀ : Heap} {L : Addr} {m : Str → Option Value} {a b : Addr} {t1 t2 t3 t4 t5 : Tok} {ws : List Value} {ns : List Int} {Q : Value → Shared → Prop}
    (F : Fr h₀ L s.heap m) (N : News h₀ L s.heap [(b, listOf #[.int 5682 t1, .int 356 t2, .int 9 t3, .int 91111 t4, .int 2199023256080 t5] 0), (a, listOf ws.toArray 0)]) (hI : IntsAre ws ns) (hlen : ns.length ≤ 6)
    (h : ∀ D h' ys, IntsAre ys (ns ++ five) → Fr h₀ L h' m → News h₀ L h' [(D, listOf (List.toArray ys) 0)] → Q (.ref D) { s with heap := h' }) :
    wpAny (model prog w) A (binaryOp .Add (.ref a) (.ref b)) Q E s := by
  refine add_list_N (vs := ws) (ws := [.int 5682 t1, .int 356 t2, .int 9 t3, .int 91111 t4, .int 2199023256080 t5]) F N (.tail _ (.head _)) (.head _) ?_ fun D h' F' N' _ => ?_
  · rw [hI.length]
    show ns.length + 5 ≤ 1000
    omega
  · exact h D h' _ (IntsAre.app hI (.cons _ _ (.cons _ _ (.cons _ _ (.cons _ _ (.cons _ _ .nil)))))) F' fun p hp => N' p (by rw [List.mem_singleton.mp hp]; exact .head _)
theorem row_holds : PySem.Challenge.rw_il0059_01.row.Holds := hd (by
  k_fill
  intro w s₀ s₁ mg mb G Y fa o pm cd doc dV kV ho hd hcd hD hmg hg args vals as hpre hlay hrd hwl hlo
  have KX := kIn_of Y
  have X := (Ground.X G).1
  have V := (Ground.X G).2
  refine Ground.open G ?_
  intro T B D TE TW
  try (refine guard_noD D (by decide +kernel) ?_; clear D)
  obtain ⟨_, _, M⟩ := bmod_of_top T
  have TA := at_of_top T
  try (obtain ⟨_, _, he, B0⟩ := based_of_top T rfl hmg ho hd; have he' : cd = _ := he; subst he'; clear he)
  clear hmg
  wrow_args hpre hlay hrd hwl hlo
  first | refine callC_kw (enter_call ?_) | refine enter_call ?_
  w_top on
  try refine codeAny_mono ?_ (fun _ _ g => GoodW.toG g)
  have K0 := below_caller (Top.heap T)
  w_call any ho hd hcd hD T F
  clear hd TA
  k_drop
  (all_goals try k_fold)
  (repeat' ((fail_if_success (with_reducible first | show wpAny _ _ (compareOp _ _ _) _ _ _ | show wpAny _ _ (pyIter _) _ _ _ | show wpAny _ _ (exec (Stmt.While _ _ _ _) _) _ _ _ | show wpAny _ _ (exec (Stmt.For _ _ _ _ _) _) _ _ _ | show TurnEnd _ _ _ _ _ _ _ | show TurnPost _ _ _ _ _ _ _ _ _ | show WhileStep _ _ _ _ _ _ _ | show WhileStep2 _ _ _ _ _ _ _ _ | show wpAny _ _ (eval (Expr.ListComp _ _ _ _) _) _ _ _ | show wpAny _ _ (exec (Stmt.Assign _ (Expr.ListComp _ _ _ _) _) _) _ _ _ | show wpAny _ _ (call (Value.builtin "sorted") _) _ _ _ | show wpAny _ _ (call (Value.builtin "sum") _) _ _ _ | show wpAny _ _ (call (Value.type "enumerate") _) _ _ _ | show wpAny _ _ (call (Value.type "range") _) _ _ _ | show wpAny _ _ (binaryOp _ (Value.ref _) (Value.ref _)) _ _ _ | show wpAny _ _ (call (Value.ref _) (Value.ref _ :: _)) _ _ _ | show wpAny _ _ (call (Value.ref 178) _) _ _ _)); first | ((with_reducible refine' isq_back ?e9 ?_); (case e9 => with_reducible assumption); (try dsimp only)) | ((with_reducible show wpAny _ _ (exec _ _) _ _ _); (refine gen_exec ?_); intro P9 hP9; walk1) | (k_unfold; (try dsimp only)) | walk1 | (dsimp only; walk1)))
  (with_reducible rename Fr _ _ _ _ => F0)
  (with_reducible rename IntsAre _ _ => hI)
  (with_reducible rename Heap.IsList _ _ _ => hL)
  have F1 := fr_map F0 (fun y => lookup1 y)
  clear F0
  k_dflt (refine' comp_assign F1 ?hLe ?hsw ?c1 ?c2 ?c3 ?c4 ?hy ?hp ?_; (case hLe => exact rfl); (case hsw => with_unfolding_all rfl); (case c1 => with_unfolding_all rfl); (case c2 => decide); (case c3 => exact rfl); (case c4 => decide); (case hy => exact rfl); (case hp => exact rfl))
  (repeat' ((fail_if_success (with_reducible first | show wpAny _ _ (compareOp _ _ _) _ _ _ | show wpAny _ _ (pyIter _) _ _ _ | show wpAny _ _ (exec (Stmt.While _ _ _ _) _) _ _ _ | show wpAny _ _ (exec (Stmt.For _ _ _ _ _) _) _ _ _ | show TurnEnd _ _ _ _ _ _ _ | show TurnPost _ _ _ _ _ _ _ _ _ | show WhileStep _ _ _ _ _ _ _ | show WhileStep2 _ _ _ _ _ _ _ _ | show wpAny _ _ (eval (Expr.ListComp _ _ _ _) _) _ _ _ | show wpAny _ _ (exec (Stmt.Assign _ (Expr.ListComp _ _ _ _) _) _) _ _ _ | show wpAny _ _ (call (Value.builtin "sorted") _) _ _ _ | show wpAny _ _ (call (Value.builtin "sum") _) _ _ _ | show wpAny _ _ (call (Value.type "enumerate") _) _ _ _ | show wpAny _ _ (call (Value.type "range") _) _ _ _ | show wpAny _ _ (binaryOp _ (Value.ref _) (Value.ref _)) _ _ _ | show wpAny _ _ (call (Value.ref _) (Value.ref _ :: _)) _ _ _ | show wpAny _ _ (call (Value.ref 178) _) _ _ _)); first | ((with_reducible refine' isq_back ?e9 ?_); (case e9 => with_reducible assumption); (try dsimp only)) | ((with_reducible show wpAny _ _ (exec _ _) _ _ _); (refine gen_exec ?_); intro P9 hP9; walk1) | (k_unfold; (try dsimp only)) | walk1 | (dsimp only; walk1)))
  (with_reducible rename Fr _ _ _ _ => F2)
  (with_reducible rename News _ _ _ _ => N2)
  (with_reducible rename IntsAre _ _ => hI6)
  k_dflt refine' add_script F2 N2 hI6 ?hlen ?_
  case hlen => rw [List.length_take]; omega
  intro D3 h3 ys hIy F3 N3
  clear F2 N2
  (repeat' ((fail_if_success (with_reducible first | show wpAny _ _ (compareOp _ _ _) _ _ _ | show wpAny _ _ (pyIter _) _ _ _ | show wpAny _ _ (exec (Stmt.While _ _ _ _) _) _ _ _ | show wpAny _ _ (exec (Stmt.For _ _ _ _ _) _) _ _ _ | show TurnEnd _ _ _ _ _ _ _ | show TurnPost _ _ _ _ _ _ _ _ _ | show WhileStep _ _ _ _ _ _ _ | show WhileStep2 _ _ _ _ _ _ _ _ | show wpAny _ _ (eval (Expr.ListComp _ _ _ _) _) _ _ _ | show wpAny _ _ (exec (Stmt.Assign _ (Expr.ListComp _ _ _ _) _) _) _ _ _ | show wpAny _ _ (call (Value.builtin "sorted") _) _ _ _ | show wpAny _ _ (call (Value.builtin "sum") _) _ _ _ | show wpAny _ _ (call (Value.type "enumerate") _) _ _ _ | show wpAny _ _ (call (Value.type "range") _) _ _ _ | show wpAny _ _ (binaryOp _ (Value.ref _) (Value.ref _)) _ _ _ | show wpAny _ _ (call (Value.ref _) (Value.ref _ :: _)) _ _ _ | show wpAny _ _ (call (Value.ref 178) _) _ _ _)); first | ((with_reducible refine' isq_back ?e9 ?_); (case e9 => with_reducible assumption); (try dsimp only)) | ((with_reducible show wpAny _ _ (exec _ _) _ _ _); (refine gen_exec ?_); intro P9 hP9; walk1) | (k_unfold; (try dsimp only)) | walk1 | (dsimp only; walk1)))
  have hxs : ys.length ≤ 11 := by
    rw [hIy.length, List.length_append, List.length_take]
    show min 6 _ + 5 ≤ 11
    omega
  k_dflt refine' comp_list (vs := ys) (news := []) (fun i zs nw => zs.length = i ∧ ∃ xs, IntsAre (ys.take i) xs ∧ LetsAt nw zs (xs.map letOf)) _ ?hh ?hl ?hlL F3 ?N ?hsz ?hlen ?h0 (casg_name ?hkind ?hx) ?step ?fin
  case hh => exact rfl
  case hl => exact ⟨_, (N3 _ (.head _)).1, rfl, 0, rfl⟩
  case hlL => exact (N3 _ (.head _)).2.1
  case N => exact fun p hp => by cases hp
  case hsz => rw [sizeLine_eq]; omega
  case hlen => exact fun i zs nw h => Nat.le_of_eq h.1
  case h0 => exact ⟨rfl, [], .nil, .nil⟩
  case hkind => exact rfl
  case hx => decide
  case step =>
    rintro s' I hIl hlt i zs nw own h₁ tk₁ C oC mC D E' hi ⟨hzl, xs, hxi, hLt⟩ ⟨v, hv, hm⟩ hoff hown hwr hCD F₁ hoC N₁
    obtain ⟨n, t, hn, rfl⟩ := ints_at hIy hv
    refine tst_nil ?_
    rw [if_pos rfl]
    (repeat' ((fail_if_success (with_reducible first | show wpAny _ _ (compareOp _ _ _) _ _ _ | show wpAny _ _ (pyIter _) _ _ _ | show wpAny _ _ (exec (Stmt.While _ _ _ _) _) _ _ _ | show wpAny _ _ (exec (Stmt.For _ _ _ _ _) _) _ _ _ | show TurnEnd _ _ _ _ _ _ _ | show TurnPost _ _ _ _ _ _ _ _ _ | show WhileStep _ _ _ _ _ _ _ | show WhileStep2 _ _ _ _ _ _ _ _ | show wpAny _ _ (eval (Expr.ListComp _ _ _ _) _) _ _ _ | show wpAny _ _ (exec (Stmt.Assign _ (Expr.ListComp _ _ _ _) _) _) _ _ _ | show wpAny _ _ (call (Value.builtin "sorted") _) _ _ _ | show wpAny _ _ (call (Value.builtin "sum") _) _ _ _ | show wpAny _ _ (call (Value.type "enumerate") _) _ _ _ | show wpAny _ _ (call (Value.type "range") _) _ _ _ | show wpAny _ _ (binaryOp _ (Value.ref _) (Value.ref _)) _ _ _ | show wpAny _ _ (call (Value.ref _) (Value.ref _ :: _)) _ _ _ | show wpAny _ _ (call (Value.ref 178) _) _ _ _)); first | ((with_reducible refine' isq_back ?e9 ?_); (case e9 => with_reducible assumption); (try dsimp only)) | ((with_reducible show wpAny _ _ (exec _ _) _ _ _); (refine gen_exec ?_); intro P9 hP9; walk1) | (k_unfold; (try dsimp only)) | walk1 | (dsimp only; walk1)))
    k_dflt (refine' letter_tells ?B ?F ?X ?N ?T ?hk ?hd ?hu ?_; (  (case B => k_asm); (case F => k_asm); (case X => k_asm); (case N => k_asm); (case T => k_asm); (case hk => first | exact rfl | assumption); (case hd => first | exact rm2 hd | exact rm3 hd | exact rm4 hd | exact rm6 hd | ktr_room); (case hu => first | exact ru hu | ktr_units)); k_whole)
    intro a5 u1 u2 u3 n5 h5 tk5 F5 N5 hlt5
    refine cend (news₁ := (a5, listOf #[.int (n / 8 % 4) u1, .int (1 + n % 8) u2, .int (numOf n) u3] n5) :: nw) F5 hoC (fun p hp => N5 p ?_) (fun p hp => ?_) ⟨by rw [List.length_append, hzl]; rfl, xs ++ [n], ?_, ?_⟩
    · rcases mem3 hp with rfl | rfl | hp
      · exact .tail _ (.head _)
      · exact .tail _ (.tail _ (.head _))
      · rcases List.mem_cons.mp hp with rfl | hp
        · exact .head _
        · exact .tail _ (.tail _ (.tail _ hp))
    · rcases List.mem_cons.mp hp with rfl | hp
      · obtain ⟨oI, hoI⟩ := hwr I (List.mem_singleton.mpr rfl)
        exact ⟨fun h => Nat.ne_of_lt (hlt5 _ (.tail _ (.tail _ (List.mem_append_right _ hoI)))) (List.mem_singleton.mp h).symm, Nat.ne_of_gt (hlt5 _ (.head _)), Nat.ne_of_gt (hlt5 (D, LCg.lst zs) (.tail _ (.head _)))⟩
      · exact hoff p hp
    · rw [List.take_add_one, hv]
      exact IntsAre.app hxi (.cons _ _ .nil)
    · rw [List.map_append]
      exact (hLt.grow fun p hp => .tail _ hp).app (.cons (.head _) .nil)
  case fin =>
    rintro s6 hs6 he6 zs nw ⟨hzl, xs, hxi, hLt⟩ D6 h6 tk6 F6 N6 hD6
    rw [he6]
    rw [List.take_length] at hxi
    have hxl : xs.length ≤ 11 := by rw [← hxi.length]; exact hxs
    obtain ⟨ls, hls⟩ : ∃ ls, ls = xs.map letOf := ⟨_, rfl⟩
    rw [← hls] at hLt
    have hlen : ls.length ≤ 11 := by rw [hls, List.length_map]; exact hxl
    have hsz : ∀ x ∈ ls, 1 ≤ x.2.1 ∧ x.2.1 ≤ 8 := fun x hx => by
      rw [hls] at hx
      obtain ⟨n, _, rfl⟩ := List.mem_map.mp hx
      exact letOf_size n
    have hnm : ∀ x ∈ ls, x.2.2.natAbs < 16 ^ 12 := fun x hx => by
      rw [hls] at hx
      obtain ⟨n, _, rfl⟩ := List.mem_map.mp hx
      exact letOf_num n
    clear he6 hs6
    have F7 := fr_map F6 (m' := fun y => if y = Str.ofString "letters" then some (.ref D6) else if y = Str.ofString "script" then some (.ref _) else none) (fun y => rfl)
    clear F6
    (try dsimp only)
    (repeat' ((fail_if_success (with_reducible first | show wpAny _ _ (compareOp _ _ _) _ _ _ | show wpAny _ _ (pyIter _) _ _ _ | show wpAny _ _ (exec (Stmt.While _ _ _ _) _) _ _ _ | show wpAny _ _ (exec (Stmt.For _ _ _ _ _) _) _ _ _ | show TurnEnd _ _ _ _ _ _ _ | show TurnPost _ _ _ _ _ _ _ _ _ | show WhileStep _ _ _ _ _ _ _ | show WhileStep2 _ _ _ _ _ _ _ _ | show wpAny _ _ (eval (Expr.ListComp _ _ _ _) _) _ _ _ | show wpAny _ _ (exec (Stmt.Assign _ (Expr.ListComp _ _ _ _) _) _) _ _ _ | show wpAny _ _ (call (Value.builtin "sorted") _) _ _ _ | show wpAny _ _ (call (Value.builtin "sum") _) _ _ _ | show wpAny _ _ (call (Value.type "enumerate") _) _ _ _ | show wpAny _ _ (call (Value.type "range") _) _ _ _ | show wpAny _ _ (binaryOp _ (Value.ref _) (Value.ref _)) _ _ _ | show wpAny _ _ (call (Value.ref _) (Value.ref _ :: _)) _ _ _ | show wpAny _ _ (call (Value.ref 178) _) _ _ _)); first | ((with_reducible refine' isq_back ?e9 ?_); (case e9 => with_reducible assumption); (try dsimp only)) | ((with_reducible show wpAny _ _ (exec _ _) _ _ _); (refine gen_exec ?_); intro P9 hP9; walk1) | (k_unfold; (try dsimp only)) | walk1 | (dsimp only; walk1)))
    k_dflt (refine' run_tells (n := zs.length) (lv := zs) (ls := ls) (so := soOf ls) ?B ?F ?X ?N ?T ?hk ?hd ?hu ?hLA ?hls ?hlen ?hsz ?hnm (soOf_ok ls) ?_; (  (case B => k_asm); (case F => k_asm); (case X => k_asm); (case N => k_asm); (case T => k_asm); (case hk => first | exact rfl | assumption); (case hd => first | exact rm2 hd | exact rm3 hd | exact rm4 hd | exact rm6 hd | ktr_room); (case hu => first | exact ru hu | ktr_units)); (case hLA => exact .head _); (case hls => exact hLt.grow fun p hp => .tail _ hp); (case hlen => exact hlen); (case hsz => exact hsz); (case hnm => exact hnm); k_whole)
    intro v1 h8 tk8 nw1 fs1 F8 N8 R8 hp8 hs8
    (repeat' ((fail_if_success (with_reducible first | show wpAny _ _ (compareOp _ _ _) _ _ _ | show wpAny _ _ (pyIter _) _ _ _ | show wpAny _ _ (exec (Stmt.While _ _ _ _) _) _ _ _ | show wpAny _ _ (exec (Stmt.For _ _ _ _ _) _) _ _ _ | show TurnEnd _ _ _ _ _ _ _ | show TurnPost _ _ _ _ _ _ _ _ _ | show WhileStep _ _ _ _ _ _ _ | show WhileStep2 _ _ _ _ _ _ _ _ | show wpAny _ _ (eval (Expr.ListComp _ _ _ _) _) _ _ _ | show wpAny _ _ (exec (Stmt.Assign _ (Expr.ListComp _ _ _ _) _) _) _ _ _ | show wpAny _ _ (call (Value.builtin "sorted") _) _ _ _ | show wpAny _ _ (call (Value.builtin "sum") _) _ _ _ | show wpAny _ _ (call (Value.type "enumerate") _) _ _ _ | show wpAny _ _ (call (Value.type "range") _) _ _ _ | show wpAny _ _ (binaryOp _ (Value.ref _) (Value.ref _)) _ _ _ | show wpAny _ _ (call (Value.ref _) (Value.ref _ :: _)) _ _ _ | show wpAny _ _ (call (Value.ref 178) _) _ _ _)); first | ((with_reducible refine' isq_back ?e9 ?_); (case e9 => with_reducible assumption); (try dsimp only)) | ((with_reducible show wpAny _ _ (exec _ _) _ _ _); (refine gen_exec ?_); intro P9 hP9; walk1) | (k_unfold; (try dsimp only)) | walk1 | (dsimp only; walk1)))
    k_dflt (refine' due_tells (n := zs.length) (lv := zs) (ls := ls) ?B ?F ?X ?N ?T ?hk ?hd ?hu ?hLA ?hls ?hlen ?hsz ?hnm ?_; (  (case B => k_asm); (case F => k_asm); (case X => k_asm); (case N => k_asm); (case T => k_asm); (case hk => first | exact rfl | assumption); (case hd => first | exact rm2 hd | exact rm3 hd | exact rm4 hd | exact rm6 hd | ktr_room); (case hu => first | exact ru hu | ktr_units)); (case hLA => exact List.mem_append_right _ (.head _)); (case hls => exact hLt.grow fun p hp => List.mem_append_right _ (.tail _ hp)); (case hlen => exact hlen); (case hsz => exact hsz); (case hnm => exact hnm); k_whole)
    intro v2 h9 tk9 nw2 fs2 so2 hso2 F9 N9 R9 hp9 hs9
    have e1 := so_one hlen hso2 (soOf_ok ls)
    subst e1
    have e2 := fs_same (soOf_ok ls) (fun x hx => (hsz x hx).1) hnm hp8 hs8 hp9 hs9
    subst e2
    k_dflt (refine' eq_res N9 (R8.grow fun p hp => List.mem_append_right _ (List.mem_append_left _ hp)) (R9.grow fun p hp => List.mem_append_left _ hp) ?hu ?_; (case hu => first | exact ru hu | ktr_units); k_whole)
    (with_reducible refine' isq_back ?e9 ?_); (case e9 => with_reducible assumption); (try dsimp only)
    refine goodW_bool F9 (by assumption) (raisesW_false ?_) ?_
    · wrow_none_raised
    · wrow_post)
-- the look at the row is proved already (row_holds.1): only the law's own words are looked at here
theorem law_said : PySem.Challenge.rw_il0059_01.wellSaid = true := by
  unfold PySem.W.OpenLaw.wellSaid
  rw [row_holds.1]
  decide +kernel
theorem law_holds : PySem.Challenge.rw_il0059_01.Holds := ⟨law_said, row_holds⟩
end

end Mine
theorem PySem.Challenge.cw_il0059_01_holds : PySem.Challenge.rw_il0059_01.Holds :=
  Mine.law_holds
