import PyProof.Rows.All
import Wide.All
import OpenK.AllK
import Wide.FinOn
import PySem.Challenge.RW_rl0157_01
open PySem PySem.W PyProof.Rows
set_option Elab.async false
set_option linter.unusedVariables false
namespace Mine
set_option maxRecDepth 100000 in
set_option maxHeartbeats 8000000 in
open_top hd for PySem.Challenge.rw_rl0157_01
end Mine

open PySem.Spec PySem.Calls
namespace Mine
set_option maxRecDepth 100000
set_option maxHeartbeats 100000000

inductive Tree where
  | leaf (s : Str)
  | node (a b : Tree)
def Tree.dat : Tree → Dat
  | .leaf s => .str s
  | .node a b => .tuple [a.dat, b.dat]
def Spec (w : World) (f : Addr) (vs : List Value) (Rel : List (Addr × Obj) → Prop) (Out : List (Addr × Obj) → Value → Prop) (D : Nat) : Prop :=
  ∀ (p : Program) (loose : List Str) (mean : ExcName → Option Value) (mg mb : Str → Option Value) (dp un : Nat) (gd : Option (List Code)) (cn : Str) (cs : Scope) (a : Addr) (ccd : Value) (cl : List (Str × Addr)) (outer : List Env) (A₀ : Around) (base h₀ : Heap) (L : Addr) (m : Str → Option Value) (news : List (Addr × Obj)) (s : Shared)
    (Q E : Value → Shared → Prop),
    Below A₀ base outer h₀ → Fr h₀ L s.heap m → (Mine.hd.heap_39 w.params).In h₀ → News h₀ L s.heap news → Top p loose mean mg mb h₀ → cs.kind = .function → Rel news → dp + D < recursionLimit → un + 8 * D < cLine →
    (∀ r news' h' tk', Fr h₀ L h' m → News h₀ L h' news' → (∀ q ∈ news, q ∈ news') → Out news' r → Q r { s with heap := h', toks := tk' }) →
    wpAny (model PySem.Challenge.pw_rl0157_01 w) (ktrTop dp un gd cn cs L a ccd cl outer) (call (.ref f) vs) Q E s

theorem Spec.use {w : World} {f : Addr} {vs : List Value} {Rel : List (Addr × Obj) → Prop} {Out : List (Addr × Obj) → Value → Prop} {D : Nat} (C : Spec w f vs Rel Out D)
    {p : Program} {loose : List Str} {mean : ExcName → Option Value} {mg mb : Str → Option Value} {dp un : Nat} {gd : Option (List Code)} {cn : Str} {cs : Scope} {a : Addr} {ccd : Value} {cl : List (Str × Addr)} {outer : List Env} {A₀ : Around} {base h₀ : Heap} {L : Addr} {m : Str → Option Value} {news : List (Addr × Obj)} {s : Shared}
    {Q E : Value → Shared → Prop} (B : Below A₀ base outer h₀) (F : Fr h₀ L s.heap m) (X : (Mine.hd.heap_39 w.params).In h₀) (N : News h₀ L s.heap news) (T : Top p loose mean mg mb h₀) (hk : cs.kind = .function) (R : Rel news) (hd : dp + D < recursionLimit) (hu : un + 8 * D < cLine)
    (ret : ∀ r news' h' tk', Fr h₀ L h' m → News h₀ L h' news' → (∀ q ∈ news, q ∈ news') → Out news' r → Q r { s with heap := h', toks := tk' }) :
    wpAny (model PySem.Challenge.pw_rl0157_01 w) (ktrTop dp un gd cn cs L a ccd cl outer) (call (.ref f) vs) Q E s := C p loose mean mg mb dp un gd cn cs a ccd cl outer A₀ base h₀ L m news s Q E B F X N T hk R hd hu ret

theorem isList_of {h₀ h : Heap} {L a : Addr} {news : List (Addr × Obj)} {vs : List Value} {n : Nat} (N : News h₀ L h news) (hm : (a, listOf vs.toArray n) ∈ news) : h.IsList a vs.toArray :=
  ⟨_, (N _ hm).1, rfl, n, rfl⟩

theorem add_dat {prog : Program} {w : World} {A : Around} {E : Value → Shared → Prop} {s : Shared} {h₀ : Heap} {L a b : Addr} {m : Str → Option Value} {news : List (Addr × Obj)} {vs ws : List Value} {n k : Nat} {Q : Value → Shared → Prop}
    (F : Fr h₀ L s.heap m) (N : News h₀ L s.heap news) (ha : (a, listOf vs.toArray n) ∈ news) (hb : (b, listOf ws.toArray k) ∈ news) (hz : vs.length + ws.length ≤ sizeLine)
    (h : ∀ D h', Fr h₀ L h' m → News h₀ L h' ((D, listOf (vs ++ ws).toArray 0) :: news) → (∀ p ∈ news, p.1 < D) → Q (.ref D) { s with heap := h' }) :
    wpAny (model prog w) A (binaryOp .Add (.ref a) (.ref b)) Q E s :=
  kmk_add_lit F N (isList_of N ha) (isList_of N hb) rfl h hz

theorem truthy_led {prog : Program} {w : World} {A : Around} {E : Value → Shared → Prop} {s : Shared} {h₀ : Heap} {L a : Addr} {news : List (Addr × Obj)} {vs : List Value} {n : Nat} {Q : Bool → Shared → Prop}
    (N : News h₀ L s.heap news) (hm : (a, listOf vs.toArray n) ∈ news) (hz : vs.length ≤ 100000) (h : Q (!vs.isEmpty) { s with toks := s.toks + 1 + 1 }) : wpAny (model prog w) A (truthy (.ref a)) Q E s := by
  refine wpAny_truthy_list (isList_of N hm) (by simp only [List.size_toArray]; omega) ?_
  rw [show vs.toArray.isEmpty = vs.isEmpty from by simp]
  exact h

theorem drop_led {prog : Program} {w : World} {A : Around} {E : Value → Shared → Prop} {s : Shared} {h₀ : Heap} {L l : Addr} {m : Str → Option Value} {news : List (Addr × Obj)} {value slice : PySem.Expr} {vs : List Value} {n : Nat} {x : Int} {tk : Tok} {Q : Value → Shared → Prop}
    (F : Fr h₀ L s.heap m) (N : News h₀ L s.heap news) (hm : (l, listOf vs.toArray n) ∈ news) (hz : vs.length ≤ 100000) (hx : 0 ≤ x)
    (h : ∀ D h', Fr h₀ L h' m → News h₀ L h' ((D, listOf (vs.drop x.toNat).toArray 0) :: news) → (∀ p ∈ news, p.1 < D) → Q (.ref D) { s with heap := h' })
    (hs : subscripted slice false (.ref l) (.ref s.heap.objs.size) = operate [.ref s.heap.objs.size, .ref l] (getItem (.ref l) (.ref s.heap.objs.size))) (ht : ∀ r, letTemporaryGo value (.ref l) r = pure ()) :
    wpAny (model prog w) A (subscriptTail value slice (.ref l) (.ref s.heap.objs.size)) Q E { s with heap := s.heap.push { cls := .type "slice", data := .fields #[.int x tk, .none, .none] } } := by
  have e : sliceBounds (some x) none none vs.toArray.size = (((min x.toNat vs.toArray.size : Nat) : Int), ((vs.toArray.size : Nat) : Int), 1) := by
    simp only [sliceBounds, Option.getD_none, show (1 : Int) > 0 by decide, if_true, if_neg (show ¬ (x < 0) by omega)]
    congr 1
    omega
  refine kmk_slice_lit F N (isList_of N hm) (IsPart.int _ _) IsPart.none ?_ h hs ht (by rw [sizeLine_eq, List.size_toArray]; omega)
  rw [kmk_pick_nat _ e]
  show ((vs.drop (min x.toNat vs.toArray.size)).take (vs.toArray.size - min x.toNat vs.toArray.size)) = _
  rw [List.size_toArray, kmk_drop_min, List.take_of_length_le (by rw [List.length_drop]; omega)]

theorem item_led {prog : Program} {w : World} {A : Around} {E : Value → Shared → Prop} {s : Shared} {h₀ : Heap} {L l : Addr} {news : List (Addr × Obj)} {value slice : PySem.Expr} {vs : List Value} {n : Nat} {k : Int} {u : Tok} {v : Value} {Q : Value → Shared → Prop}
    (N : News h₀ L s.heap news) (hm : (l, listOf vs.toArray n) ∈ news) (h0 : 0 ≤ k) (hhi : k < 2 ^ 63) (hx : vs[k.toNat]? = some v) (h : Q v s)
    (hs : subscripted slice false (.ref l) (.int k u) = operate [.ref l, .int k u] (getItem (.ref l) (.int k u))) :
    wpAny (model prog w) A (subscriptTail value slice (.ref l) (.int k u)) Q E s :=
  item_litK (isList_of N hm) h0 hhi hx h hs

theorem fr_names {h₀ h : Heap} {L : Addr} {x : Str} {v : Value} {m₁ : Str → Option Value} (ps : List (Str × Value)) (h1 : ∀ p ∈ ps, m₁ p.1 = some p.2) (F : Fr h₀ L h (fun y => if y = x then some v else m₁ y)) :
    Fr h₀ L h (fun y => if y = x then some v else kstB m₁ ps y) := by
  have em : (fun y => if y = x then some v else kstB m₁ ps y) = fun y => if y = x then some v else m₁ y := by
    funext y
    by_cases hy : y = x
    · rw [if_pos hy, if_pos hy]
    · rw [if_neg hy, if_neg hy]
      exact kstB_eq h1 fun _ => rfl
  rw [em]; exact F
theorem fr_namesOut {h₀ h : Heap} {L : Addr} {m₁ : Str → Option Value} (ps : List (Str × Value)) (h1 : ∀ p ∈ ps, m₁ p.1 = some p.2) (F : Fr h₀ L h m₁) : Fr h₀ L h (kstB m₁ ps) := by
  have em : kstB m₁ ps = m₁ := by
    funext y
    exact kstB_eq h1 fun _ => rfl
  rw [em]; exact F

theorem codeHd_of {P : Params} {h : Heap} (X : (Mine.hd.heap_39 P).In h) : CodeHd h 34 30 := by
  refine ⟨_, _, _, _, _, _, _, _, _, X 34 _ rfl, rfl, rfl, rfl, rfl, rfl, rfl, rfl, rfl, by decide⟩

theorem append_own {prog : Program} {w : World} {A : Around} {E : Value → Shared → Prop} {s : Shared} {h₀ : Heap} {L D : Addr} {m : Str → Option Value} {news rest : List (Addr × Obj)} {its : List Value} {n : Nat} {x : Value} {Q : Value → Shared → Prop}
    (F : Fr h₀ L s.heap m) (N : News h₀ L s.heap news) (hm : (D, listOf its.toArray n) ∈ news) (hr : ∀ p ∈ rest, p ∈ news) (ho : ∀ p ∈ rest, p.1 ≠ D)
    (h : ∀ h', Fr h₀ L h' m → News h₀ L h' ((D, listOf (its ++ [x]).toArray (n + 1)) :: rest) → Q .none { s with heap := h' }) (hsz : its.length ≤ sizeLine) :
    wpAny (model prog w) A (call (.builtin "list.append") [.ref D, x]) Q E s := by
  refine append_K (its := its.toArray) (n := n) (news := (D, listOf its.toArray n) :: rest) (news' := (D, listOf (its.toArray.push x) (n + 1)) :: rest) F (fun p hp => ?_) (Upd.head ho) (fun h' F' N' => h h' F' ?_) (by simpa using hsz)
  · rcases List.mem_cons.mp hp with rfl | hp
    · exact N _ hm
    · exact N _ (hr _ hp)
  · have e : its.toArray.push x = (its ++ [x]).toArray := by simp
    rw [e] at N'; exact N'

theorem off_all {news : List (Addr × Obj)} {b D : Addr} (h : ∀ p ∈ news, p.1 < b) (hb : @LE.le Nat _ b D) : ∀ p ∈ news, p.1 ≠ D := fun p hp e => by
  exact Nat.lt_irrefl _ (Nat.lt_of_lt_of_le (e ▸ h p hp : D < b) hb)

theorem itemInt_led {prog : Program} {w : World} {A : Around} {E : Value → Shared → Prop} {s : Shared} {h₀ : Heap} {L l : Addr} {news : List (Addr × Obj)} {value slice : PySem.Expr} {vs : List Value} {ns : List Int} {n : Nat} {k : Int} {u : Tok} {Q : Value → Shared → Prop}
    (N : News h₀ L s.heap news) (hm : (l, listOf vs.toArray n) ∈ news) (hi : IntsAre vs ns) (h0 : 0 ≤ k) (hk : k < ns.length) (hz : ns.length ≤ 100000) (h : ∀ t, Q (.int (ns.getD k.toNat 0) t) s)
    (hs : subscripted slice false (.ref l) (.int k u) = operate [.ref l, .int k u] (getItem (.ref l) (.int k u))) :
    wpAny (model prog w) A (subscriptTail value slice (.ref l) (.int k u)) Q E s := by
  have hlt : k.toNat < ns.length := by omega
  obtain ⟨t, hx⟩ := hi.get k.toNat (ns.getD k.toNat 0) (by rw [List.getD_eq_getElem?_getD, List.getElem?_eq_getElem hlt]; simp)
  exact item_litK (isList_of N hm) h0 (by omega) hx (h t) hs

theorem sum_led {prog : Program} {w : World} {A : Around} {E : Value → Shared → Prop} {s : Shared} {h₀ : Heap} {L l : Addr} {m : Str → Option Value} {news : List (Addr × Obj)} {vs : List Value} {ns : List Int} {Q : Value → Shared → Prop}
    (hh : A.handled = none) (F : Fr h₀ L s.heap m) (N : News h₀ L s.heap news) (hl : s.heap.IsList l vs.toArray) (hi : IntsAre vs ns)
    (h : ∀ h' tk t', Fr h₀ L h' m → News h₀ L h' news → Q (.int ns.sum t') { s with heap := h', toks := tk }) :
    wpAny (model prog w) A (call (.builtin "sum") [.ref l]) Q E s := by
  obtain ⟨xs, hx⟩ := hi.allInts.items
  have hn : numsOf vs.toArray.toList = ns := by rw [show vs.toArray.toList = vs from rfl, hi.numsOf]
  rw [hx] at hl hn
  rw [nums_intItems] at hn
  refine sum_intListG hh hl fun h' tk t' hk => ?_
  have := h h' tk t' (F.keeps hk) (N.grown hk)
  rw [preSum_eq, List.take_of_length_le (by simp), hn]
  exact this

def Stop (P : Prop) : Prop := P
theorem stop_of {P : Prop} (h : Stop P) : P := h
end Mine

namespace Mine
set_option maxRecDepth 100000
set_option maxHeartbeats 100000000

def ForEnd (h₀ : Heap) (L : Addr) (s : Shared) (J : Nat → (Str → Option Value) → List (Addr × Obj) → Prop) (Q : Flow → Shared → Prop) (fix own : List (Addr × Obj)) (wr : List Addr) (i : Nat) (f : Flow) (s₃ : Shared) : Prop :=
  match f with
  | .brk => Q .next s₃
  | .ret v => Q (.ret v) s₃
  | _ => ∃ h' tk' m₂ nx₂, s₃ = { s with heap := h', toks := tk' } ∧ Fr h₀ L h' m₂ ∧ News h₀ L h' (own ++ nx₂) ∧ (∀ p ∈ nx₂, p.1 ∉ wr) ∧ (∀ q ∈ fix, q ∈ nx₂) ∧ J (i + 1) m₂ nx₂

theorem ForEnd.intro {h₀ : Heap} {L : Addr} {s : Shared} {J : Nat → (Str → Option Value) → List (Addr × Obj) → Prop} {Q : Flow → Shared → Prop} {fix own news' : List (Addr × Obj)} {wr : List Addr} {i : Nat} {h' : Heap} {tk : Nat} {m₂ : Str → Option Value} (nx₂ : List (Addr × Obj))
    (F : Fr h₀ L h' m₂) (N : News h₀ L h' news') (hs : ∀ q ∈ own ++ nx₂, q ∈ news') (hw : ∀ p ∈ nx₂, p.1 ∉ wr) (hf : ∀ q ∈ fix, q ∈ nx₂) (hJ : J (i + 1) m₂ nx₂) :
    ForEnd h₀ L s J Q fix own wr i .next { s with heap := h', toks := tk } := ⟨h', tk, m₂, nx₂, rfl, F, fun q hq => N q (hs q hq), hw, hf, hJ⟩

section
variable {prog : Program} {w : World} {A : Around} {s : Shared} {env : Env} {h₀ : Heap} {E : Value → Shared → Prop} {Q : Flow → Shared → Prop}
theorem for_any {target : PySem.Expr} {body : List Stmt} {I : Addr} {fp wr : List Addr} {n : Nat} {P : Nat → Value → Prop} {St : Nat → Heap → Prop} {m : Str → Option Value} {news : List (Addr × Obj)}
    (W : Walks prog w A I fp wr n P St) (J : Nat → (Str → Option Value) → List (Addr × Obj) → Prop) (fix : List (Addr × Obj)) (hfp : ∀ b ∈ fp, b ∈ wr ∨ ∃ o, (b, o) ∈ fix)
    (hLw : env.locals ∉ wr) (hwr : ∀ b ∈ wr, h₀.get? b = none) (hnw : ∀ p ∈ news, p.1 ∉ wr) (hfix : ∀ q ∈ fix, q ∈ news) (hst : St 0 s.heap) (F : Fr h₀ env.locals s.heap m) (N : News h₀ env.locals s.heap news) (h0 : J 0 m news)
    (turn : ∀ i v m₁ nx h tk own, i < n → P i v → J i m₁ nx → (∀ q ∈ fix, q ∈ nx) → (∀ p ∈ own, p.1 ∈ wr) → (∀ p ∈ nx, p.1 ∉ wr) → St (i + 1) h → (∀ b ∈ wr, ∀ o, h.get? b = some o → (b, o) ∈ own) → Fr h₀ env.locals h m₁ → News h₀ env.locals h (own ++ nx) →
      wpAny (model prog w) A (assign target env v) (fun _ s₂ => wpAny (model prog w) A (execs body env) (ForEnd h₀ env.locals s J Q fix own wr i) E s₂) E { s with heap := h, toks := tk })
    (done : ∀ h' tk m' nx, Fr h₀ env.locals h' m' → News h₀ env.locals h' nx → J n m' nx → Q .next { s with heap := h', toks := tk })
    (hgo : ∀ i v (s : Shared) (Q : Unit → Shared → Prop) (E : Value → Shared → Prop), St i s.heap → Q () s → wpAny (model prog w) A (letOwnedTupleGo target (.ref I) v) Q E s)
    (hE : PassesOwn (model prog w) A env E) :
    codeAny (model prog w) A (.forLoop target (.ref I) body [] env) (fun r s' => match r with | .ok f => Q f s' | .error e => cameBackBy (model prog w) A env E e s') s := by
  have old : ∀ b o, h₀.get? b = some o → b ∉ wr := fun b o e hb => by rw [hwr b hb] at e; cases e
  refine codeAny_forLoop_any
    (fun k s' => ∃ h' tk m' nx i, s' = { s with heap := h', toks := tk } ∧ St i h' ∧ Fr h₀ env.locals h' m' ∧ News h₀ env.locals h' nx ∧ (∀ p ∈ nx, p.1 ∉ wr) ∧ (∀ q ∈ fix, q ∈ nx) ∧ J i m' nx ∧ i ≤ n ∧ k = n + 1 - i) ?_ (n + 1)
    ⟨s.heap, s.toks, m, news, 0, rfl, hst, F, N, hnw, hfix, h0, Nat.zero_le _, rfl⟩
  rintro k s' ⟨h', tk, m', nx, i, rfl, hst', F', N', hnw', hfx, hJ, hi, rfl⟩
  have next : ∀ h₁ : Heap, (∀ b o, b ∉ wr → h'.get? b = some o → h₁.get? b = some o) → Fr h₀ env.locals h₁ m' ∧ News h₀ env.locals h₁ nx := fun h₁ hk₁ =>
    ⟨⟨F'.ns.at' fun o e => hk₁ _ o hLw e, fun b o e => hk₁ b o (old b o e) (F'.keep b o e), F'.above⟩, fun p hp => ⟨hk₁ _ _ (hnw' p hp) (N' p hp).1, (N' p hp).2⟩⟩
  by_cases hlt : i < n
  · refine W.item i _ _ _ hlt hst' fun v h₁ tk₁ hP hst₁ hk₁ => ?_
    obtain ⟨F₁, N₁⟩ := next h₁ hk₁
    have Nown : News h₀ env.locals h₁ (ownOf h₀ wr h₁) := news_ownOf hLw
    refine hgo _ _ _ _ _ hst₁ ?_
    refine wpAny_passesOwn hE (wpAny_mono (turn i v m' nx h₁ tk₁ (ownOf h₀ wr h₁) hlt hP hJ hfx ownOf_sub hnw' hst₁ (fun b hb o e => mem_ownOf hb (hwr b hb) e) F₁ (Nown.append N₁)) (fun _ s₂ h₂ => wpAny_passesOwn hE (wpAny_mono h₂ (fun f s₃ h₃ => ?_) fun _ _ e => e)) fun _ _ e => e)
    have fin : (∃ h' tk' m₂ nx₂, s₃ = { s with heap := h', toks := tk' } ∧ Fr h₀ env.locals h' m₂ ∧ News h₀ env.locals h' (ownOf h₀ wr h₁ ++ nx₂) ∧ (∀ p ∈ nx₂, p.1 ∉ wr) ∧ (∀ q ∈ fix, q ∈ nx₂) ∧ J (i + 1) m₂ nx₂) →
        ∃ m, m < n + 1 - i ∧ ∃ h' tk m' nx i, s₃ = { s with heap := h', toks := tk } ∧ St i h' ∧ Fr h₀ env.locals h' m' ∧ News h₀ env.locals h' nx ∧ (∀ p ∈ nx, p.1 ∉ wr) ∧ (∀ q ∈ fix, q ∈ nx) ∧ J i m' nx ∧ i ≤ n ∧ m = n + 1 - i := by
      rintro ⟨hh, tk₃, m₂, nx₂, rfl, F₃, N₃, ha₃, hf₃, hJ₃⟩
      refine ⟨n + 1 - (i + 1), by omega, hh, tk₃, m₂, nx₂, i + 1, rfl, ?_, F₃, fun p hp => N₃ p (List.mem_append_right _ hp), ha₃, hf₃, hJ₃, hlt, rfl⟩
      refine W.frame _ _ _ hst₁ fun b hb o e => ?_
      rcases hfp b hb with hb | ⟨o', hb⟩
      · exact (N₃ _ (List.mem_append_left _ (mem_ownOf hb (hwr b hb) e))).1
      · have e1 := (N₁ _ (hfx _ hb)).1
        have e2 := (N₃ _ (List.mem_append_right _ (hf₃ _ hb))).1
        have e1 : h₁.get? b = some o' := e1
        rw [e] at e1
        cases e1
        exact e2
    cases f with
    | ret v => exact h₃
    | brk => exact h₃
    | cont => exact fin h₃
    | next => exact fin h₃
  · have hin : i = n := by omega
    subst hin
    refine W.done _ _ _ hst' fun h₁ tk₁ hk₁ => wpAny_execs_nil ?_
    obtain ⟨F₁, N₁⟩ := next h₁ hk₁
    exact done h₁ tk₁ m' nx F₁ N₁ hJ

/-- a for over a range by ones, whatever its target -/
theorem for_range {target : PySem.Expr} {body : List Stmt} {r : Addr} {a₀ b₀ : Int} {t₀ u₀ v₀ : Tok} {n : Nat} {m : Str → Option Value} {news : List (Addr × Obj)}
    (hh : A.handled = none) (hr : IsRange s.heap r a₀ b₀ 1 t₀ u₀ v₀) (hsmall : Builtin.Range.small a₀ b₀ 1 = true) (hn : Builtin.Range.rangeSize a₀ b₀ 1 = (n : Int))
    (J : Nat → (Str → Option Value) → List (Addr × Obj) → Prop) (F : Fr h₀ env.locals s.heap m) (N : News h₀ env.locals s.heap news) (h0 : J 0 m news)
    (turn : ∀ i t m₁ nx h tk own I, i < n → J i m₁ nx → (∀ p ∈ own, p.1 = I) → (∀ p ∈ nx, p.1 ≠ I) → Fr h₀ env.locals h m₁ → News h₀ env.locals h (own ++ nx) →
      wpAny (model prog w) A (assign target env (.int (a₀ + (i : Int)) t)) (fun _ s₂ => wpAny (model prog w) A (execs body env) (ForEnd h₀ env.locals s J Q [] own [I] i) E s₂) E { s with heap := h, toks := tk })
    (done : ∀ h' tk m' nx, Fr h₀ env.locals h' m' → News h₀ env.locals h' nx → J n m' nx → Q .next { s with heap := h', toks := tk })
    (ht : ∀ I v, letOwnedTupleGo target (.ref I) v = pure ())
    (hE : PassesOwn (model prog w) A env E) :
    wpAny (model prog w) A (pyIter (.ref r)) (fun it s₂ => codeAny (model prog w) A (.forLoop target it body [] env) (fun r s' => match r with | .ok f => Q f s' | .error e => cameBackBy (model prog w) A env E e s') s₂) E s := by
  refine wpAny_pyIter_range hr hsmall ?_
  refine for_any (s := { s with heap := _, toks := _ }) (n := n) (Walks.range hh s.heap.objs.size a₀ 1 n) J [] (fun b hb => .inl hb) ?_ ?_ ?_ (fun _ h => nomatch h) (by show IsRangeIter _ _ _ _ _; rw [hn]; simpa using Heap.get?_push_size _ rfl) (F.push _) (fun p hp => ⟨Heap.get?_push_of_some _ (N p hp).1, (N p hp).2⟩) h0 ?_ ?_ (fun _ _ _ _ _ _ hQ => by rw [ht]; exact wpAny_pure hQ) hE
  · intro hm
    exact absurd F.ns.lt ((List.mem_singleton.mp hm) ▸ Nat.lt_irrefl _)
  · intro b hb
    rw [List.mem_singleton.mp hb]
    exact next_is_new F
  · intro p hp hI
    exact absurd (Heap.lt_size (N p hp).1) ((List.mem_singleton.mp hI) ▸ Nat.lt_irrefl _)
  · rintro i v m₁ nx h tk own hi ⟨t, rfl⟩ hJ _ ho hx _ _ F₁ N₁
    rw [show a₀ + (i : Int) * 1 = a₀ + (i : Int) from by omega]
    exact turn i t m₁ nx h tk own _ hi hJ (fun p hp => List.mem_singleton.mp (ho p hp)) (fun p hp e => hx p hp (List.mem_singleton.mpr e)) F₁ N₁
  · intro h' tk m' nx F' N' hJ
    exact done h' tk m' nx F' N' hJ

/-- a for over a list of the ledger, whatever its target -/
theorem for_list {target : PySem.Expr} {body : List Stmt} {l : Addr} {vs : List Value} {k : Nat} {m : Str → Option Value} {news : List (Addr × Obj)}
    (hh : A.handled = none) (hl : (l, listOf vs.toArray k) ∈ news)
    (J : Nat → (Str → Option Value) → List (Addr × Obj) → Prop) (F : Fr h₀ env.locals s.heap m) (N : News h₀ env.locals s.heap news) (h0 : J 0 m news)
    (turn : ∀ i v m₁ nx h tk own I, vs[i]? = some v → J i m₁ nx → (l, listOf vs.toArray k) ∈ nx → (∀ p ∈ own, p.1 = I) → (∀ p ∈ nx, p.1 ≠ I) → Fr h₀ env.locals h m₁ → News h₀ env.locals h (own ++ nx) →
      wpAny (model prog w) A (assign target env v) (fun _ s₂ => wpAny (model prog w) A (execs body env) (ForEnd h₀ env.locals s J Q [(l, listOf vs.toArray k)] own [I] i) E s₂) E { s with heap := h, toks := tk })
    (done : ∀ h' tk m' nx, Fr h₀ env.locals h' m' → News h₀ env.locals h' nx → J vs.length m' nx → Q .next { s with heap := h', toks := tk })
    (ht : ∀ I v, letOwnedTupleGo target (.ref I) v = pure ())
    (hE : PassesOwn (model prog w) A env E) :
    wpAny (model prog w) A (pyIter (.ref l)) (fun it s₂ => codeAny (model prog w) A (.forLoop target it body [] env) (fun r s' => match r with | .ok f => Q f s' | .error e => cameBackBy (model prog w) A env E e s') s₂) E s := by
  have hls : s.heap.IsList l vs.toArray := isList_of N hl
  have hne : l ≠ s.heap.objs.size := Nat.ne_of_lt (Heap.lt_size (N _ hl).1)
  refine wpAny_pyIter_list hls ?_
  have W := Walks.list (prog := prog) (w := w) hh s.heap.objs.size l hne vs.toArray
  have hlen : vs.toArray.size = vs.length := by simp
  rw [hlen] at W
  refine for_any (s := { s with heap := _, toks := _ }) (n := vs.length) W J [(l, listOf vs.toArray k)] ?_ ?_ ?_ ?_ (fun q h => (List.mem_singleton.mp h) ▸ hl) ⟨⟨_, Heap.get?_push_size _ rfl, rfl, rfl⟩, hls.at fun o e => Heap.get?_push_of_some _ e⟩ (F.push _) (fun p hp => ⟨Heap.get?_push_of_some _ (N p hp).1, (N p hp).2⟩) h0 ?_ ?_ (fun _ _ _ _ _ _ hQ => by rw [ht]; exact wpAny_pure hQ) hE
  · intro b hb
    rcases List.mem_cons.mp hb with rfl | hb
    · exact .inl (.head _)
    · exact .inr ⟨_, by rw [List.mem_singleton.mp hb]; exact .head _⟩
  · intro hm
    exact absurd F.ns.lt ((List.mem_singleton.mp hm) ▸ Nat.lt_irrefl _)
  · intro b hb
    rw [List.mem_singleton.mp hb]
    exact next_is_new F
  · intro p hp hI
    exact absurd (Heap.lt_size (N p hp).1) ((List.mem_singleton.mp hI) ▸ Nat.lt_irrefl _)
  · rintro i v m₁ nx h tk own hi hP hJ hfx ho hx hst hown F₁ N₁
    exact turn i v m₁ nx h tk own _ (by simpa using hP) hJ (hfx _ (.head _)) (fun p hp => List.mem_singleton.mp (ho p hp)) (fun p hp e => hx p hp (List.mem_singleton.mpr e)) F₁ N₁
  · intro h' tk m' nx F' N' hJ
    exact done h' tk m' nx F' N' hJ
/-- a for over a list of the ledger, its target a tuple -/
theorem for_listT {elts : List PySem.Expr} {ex : Nat} {ep : Pos} {body : List Stmt} {l : Addr} {vs : List Value} {k : Nat} {m : Str → Option Value} {news : List (Addr × Obj)}
    (hh : A.handled = none) (hl : (l, listOf vs.toArray k) ∈ news)
    (J : Nat → (Str → Option Value) → List (Addr × Obj) → Prop) (F : Fr h₀ env.locals s.heap m) (N : News h₀ env.locals s.heap news) (h0 : J 0 m news)
    (turn : ∀ i v m₁ nx h tk own I, vs[i]? = some v → J i m₁ nx → (l, listOf vs.toArray k) ∈ nx → (∀ p ∈ own, p.1 = I) → (∃ o, (I, o) ∈ own) → (∀ p ∈ nx, p.1 ≠ I) → Fr h₀ env.locals h m₁ → News h₀ env.locals h (own ++ nx) →
      wpAny (model prog w) A (assign (.Tuple elts ex ep) env v) (fun _ s₂ => wpAny (model prog w) A (execs body env) (ForEnd h₀ env.locals s J Q [(l, listOf vs.toArray k)] own [I] i) E s₂) E { s with heap := h, toks := tk })
    (done : ∀ h' tk m' nx, Fr h₀ env.locals h' m' → News h₀ env.locals h' nx → J vs.length m' nx → Q .next { s with heap := h', toks := tk })
    (hE : PassesOwn (model prog w) A env E) :
    wpAny (model prog w) A (pyIter (.ref l)) (fun it s₂ => codeAny (model prog w) A (.forLoop (.Tuple elts ex ep) it body [] env) (fun r s' => match r with | .ok f => Q f s' | .error e => cameBackBy (model prog w) A env E e s') s₂) E s := by
  have hls : s.heap.IsList l vs.toArray := isList_of N hl
  have hne : l ≠ s.heap.objs.size := Nat.ne_of_lt (Heap.lt_size (N _ hl).1)
  refine wpAny_pyIter_list hls ?_
  have W := Walks.list (prog := prog) (w := w) hh s.heap.objs.size l hne vs.toArray
  have hlen : vs.toArray.size = vs.length := by simp
  rw [hlen] at W
  refine for_any (s := { s with heap := _, toks := _ }) (n := vs.length) W J [(l, listOf vs.toArray k)] ?_ ?_ ?_ ?_ (fun q h => (List.mem_singleton.mp h) ▸ hl) ⟨⟨_, Heap.get?_push_size _ rfl, rfl, rfl⟩, hls.at fun o e => Heap.get?_push_of_some _ e⟩ (F.push _) (fun p hp => ⟨Heap.get?_push_of_some _ (N p hp).1, (N p hp).2⟩) h0 ?_ ?_ (fun _ v _ _ _ hst hQ => by
    cases v with
    | ref T => exact wpAny_letOwnedTupleGo_listiter hst.1 hQ
    | _ => exact wpAny_of_eq rfl hQ) hE
  · intro b hb
    rcases List.mem_cons.mp hb with rfl | hb
    · exact .inl (.head _)
    · exact .inr ⟨_, by rw [List.mem_singleton.mp hb]; exact .head _⟩
  · intro hm
    exact absurd F.ns.lt ((List.mem_singleton.mp hm) ▸ Nat.lt_irrefl _)
  · intro b hb
    rw [List.mem_singleton.mp hb]
    exact next_is_new F
  · intro p hp hI
    exact absurd (Heap.lt_size (N p hp).1) ((List.mem_singleton.mp hI) ▸ Nat.lt_irrefl _)
  · rintro i v m₁ nx h tk own hi hP hJ hfx ho hx hst hown F₁ N₁
    exact turn i v m₁ nx h tk own _ (by simpa using hP) hJ (hfx _ (.head _)) (fun p hp => List.mem_singleton.mp (ho p hp)) (let ⟨o, e, _⟩ := hst.1; ⟨o, hown _ (.head _) _ e⟩) (fun p hp e => hx p hp (List.mem_singleton.mpr e)) F₁ N₁
  · intro h' tk m' nx F' N' hJ
    exact done h' tk m' nx F' N' hJ
end
end Mine

namespace Mine
set_option maxRecDepth 100000
set_option maxHeartbeats 100000000

theorem small_step {a b c : Int} (ha : 0 ≤ a) (ha' : a < 1000) (hb : 0 ≤ b) (hb' : b < 1000) (hc : 5 ≤ c) (hc' : c ≤ 8) : Builtin.Range.small a b c = true := by
  have : c = 5 ∨ c = 6 ∨ c = 7 ∨ c = 8 := by omega
  unfold Builtin.Range.small Builtin.Range.rangeSize
  rcases this with rfl | rfl | rfl | rfl <;> simp only [Builtin.Range.rangeFitsLong, Bool.and_eq_true, Bool.or_eq_true, decide_eq_true_eq, beq_iff_eq, show (5 : Int) > 0 by decide, show (6 : Int) > 0 by decide, show (7 : Int) > 0 by decide, show (8 : Int) > 0 by decide, if_true] <;> split <;> omega
theorem step_in {a b c : Int} {n i : Nat} (hc : 5 ≤ c) (hc' : c ≤ 8) (hn : Builtin.Range.rangeSize a b c = (n : Int)) (hi : i < n) : a + (i : Int) * c < b := by
  have : c = 5 ∨ c = 6 ∨ c = 7 ∨ c = 8 := by omega
  unfold Builtin.Range.rangeSize at hn
  rcases this with rfl | rfl | rfl | rfl <;> simp only [show (5 : Int) > 0 by decide, show (6 : Int) > 0 by decide, show (7 : Int) > 0 by decide, show (8 : Int) > 0 by decide, if_true] at hn <;> split at hn <;> omega
theorem itemInt_base {prog : Program} {w : World} {A : Around} {E : Value → Shared → Prop} {s : Shared} {h₀ : Heap} {L l : Addr} {m : Str → Option Value} {value slice : PySem.Expr} {vs : List Value} {ns : List Int} {k : Int} {u : Tok} {Q : Value → Shared → Prop}
    (F : Fr h₀ L s.heap m) (hl : h₀.IsList l vs.toArray) (hi : IntsAre vs ns) (h0 : 0 ≤ k) (hk : k < ns.length) (hz : ns.length ≤ 100000) (h : ∀ t, Q (.int (ns.getD k.toNat 0) t) s)
    (hs : subscripted slice false (.ref l) (.int k u) = operate [.ref l, .int k u] (getItem (.ref l) (.int k u))) :
    wpAny (model prog w) A (subscriptTail value slice (.ref l) (.int k u)) Q E s := by
  have hlt : k.toNat < ns.length := by omega
  obtain ⟨t, hx⟩ := hi.get k.toNat (ns.getD k.toNat 0) (by rw [List.getD_eq_getElem?_getD, List.getElem?_eq_getElem hlt]; simp)
  exact item_litK (hl.at fun o e => F.keep l o e) h0 (by omega) hx (h t) hs

section
variable {prog : Program} {w : World} {A : Around} {E : Value → Shared → Prop} {s : Shared} {h₀ : Heap} {L : Addr} {m : Str → Option Value} {env : Env}

/-- the source of a comprehension: a range with any step -/
def SrcS (prog : Program) (w : World) (A : Around) (h₀ : Heap) (L : Addr) (m : Str → Option Value) (env : Env) (elt : PySem.Expr) (x : Str) (scope : Scope) (cl : List (Str × Addr)) (Fin : Shared → List Value → List (Addr × Obj) → Prop) (xv : Value) (s₁ : Shared) : Prop :=
  ∃ r a b c t u v n news, xv = .ref r ∧ A.handled = none ∧ Fr h₀ L s₁.heap m ∧ News h₀ L s₁.heap news ∧ IsRange s₁.heap r a b c t u v ∧ Builtin.Range.small a b c = true ∧ Builtin.Range.rangeSize a b c = ((n : Nat) : Int) ∧ n ≤ sizeLine ∧
    ∀ s₂ : Shared, (∃ h, s₂ = { s₁ with heap := h }) → LCg.CompRest prog w A h₀ L m env elt x scope cl s₂ (fun _ => True) (fun i v => ∃ t, v = .int (a + (i : Int) * c) t) (Fin s₂) n 0 [] news

theorem listComp_step {elt iter : PySem.Expr} {x : Str} {px : Pos} {scope : Scope} {cl : List (Str × Addr)} {pos : Pos} {Q : Value → Shared → Prop} (F₀ : Fr h₀ L s.heap m)
    (hclos : closureFor scope env = pure cl) (hcell : ∀ y ∈ scope.names, y.2 ≠ .cell) (hkind : scope.kind = .function)
    (hnames : ∀ y ∈ scope.names, y.2 = .local → scope.names.lookup y.1 = some .local) (hx : scope.names.lookup x = some .local)
    (h : wpAny (model prog w) A (eval iter env) (SrcS prog w A h₀ L m env elt x scope cl (fun s₂ => LCg.FinE h₀ L m s₂ Q)) E s)
    (hs : ∀ x, foldedSetIterable iter env x = pure x) :
    wpAny (model prog w) A (eval (.ListComp elt [⟨.Name x px, iter, [], 0⟩] scope pos) env) Q E s := by
  rw [eval_ListComp]
  refine wpAny_comprehension_free (use := none) rfl hs hclos hkind hnames (wpAny_mono h (fun xv s₁ h₁ => ?_) fun _ _ e => e)
  obtain ⟨r, a, b, c, t, u, v, n, news, rfl, hh, F, N, hr, hsm, hn, hsz, R⟩ := h₁
  refine wpAny_pyIter_range hr hsm ?_
  refine LCg.block_U (Walks.range hh s₁.heap.objs.size a c n) hsz (fun i h st => ⟨_, st⟩) (fun i h h' o nw st e e' _ _ _ => ?_) hcell hkind hx (by show IsRangeIter _ _ _ _ _; rw [hn]; simpa using Heap.get?_push_size _ rfl) (fun b hb => ?_)
    (F.keeps fun _ _ e => Heap.get?_push_of_some _ e) (N.grown fun _ _ e => Heap.get?_push_of_some _ e) (Nat.ne_of_lt F.ns.lt) (next_is_new F) (fun p hp => Nat.ne_of_lt (Heap.lt_size (N p hp).1)) trivial (R _ ⟨_, rfl⟩) ?_
  · have st' : h.get? s₁.heap.objs.size = some _ := st
    show h'.get? s₁.heap.objs.size = some _
    rw [e', ← e]; exact st'
  · rw [List.mem_singleton.mp hb]
    exact Heap.lt_size (Heap.get?_push_size _ rfl)
  · intro D C h tk m' ys news' F' N' o1 hn' hC₀ hD₀ hCL hDL hCD offC fin
    refine ⟨m', hn', fun h'' hs'' => fin D h'' tk (F'.change hs'' hCL hC₀) (fun p hp => ⟨hs''.extBut _ _ ?_ (N' p hp).1, (N' p hp).2⟩) o1⟩
    rcases List.mem_cons.mp hp with rfl | hp
    · exact Ne.symm hCD
    · exact offC p hp

/-- the source of a comprehension: a text of plain signs -/
def SrcX (prog : Program) (w : World) (A : Around) (h₀ : Heap) (L : Addr) (m : Str → Option Value) (env : Env) (elt : PySem.Expr) (x : Str) (scope : Scope) (cl : List (Str × Addr)) (Fin : Shared → List Value → List (Addr × Obj) → Prop) (xv : Value) (s₁ : Shared) : Prop :=
  ∃ tx t news, xv = .str tx t ∧ tx.cps.all (· < 128) = true ∧ A.handled = none ∧ Fr h₀ L s₁.heap m ∧ News h₀ L s₁.heap news ∧ tx.cps.size ≤ sizeLine ∧
    ∀ s₂ : Shared, (∃ h, s₂ = { s₁ with heap := h }) → LCg.CompRest prog w A h₀ L m env elt x scope cl s₂ (fun _ => True) (SignAt tx) (Fin s₂) tx.cps.size 0 [] news

theorem assignComp_str {elt iter : PySem.Expr} {x y : Str} {px py : Pos} {scope : Scope} {cl : List (Str × Addr)} {pos spos : Pos} {Q : Flow → Shared → Prop} (F₀ : Fr h₀ L s.heap m) (hLe : env.locals = L)
    (hsw : swapsWith (.ListComp elt [⟨.Name x px, iter, [], 0⟩] scope pos) (some (.Name y py)) spos.line env = pure true)
    (hclos : closureFor scope env = pure cl) (hcell : ∀ z ∈ scope.names, z.2 ≠ .cell) (hkind : scope.kind = .function)
    (hnames : ∀ z ∈ scope.names, z.2 = .local → scope.names.lookup z.1 = some .local) (hx : scope.names.lookup x = some .local)
    (hy : env.kindOf y = some .local) (hp : (env.scope.kind == .class || (env.scope.kind == .module && env.locals != env.globals)) = false)
    (h : wpAny (model prog w) A (eval iter env) (SrcX prog w A h₀ L m env elt x scope cl (fun s₂ => LCg.FinA h₀ L m s₂ y Q)) E s)
    (hs : ∀ x, foldedSetIterable iter env x = pure x) :
    wpAny (model prog w) A (exec (.Assign [.Name y py] (.ListComp elt [⟨.Name x px, iter, [], 0⟩] scope pos) spos) env) Q E s := by
  subst hLe
  rw [exec_Assign_Name_used _ _ _ _ hsw]
  refine wpAny_bind (wpAny_standAt (wpAny_bind ?_))
  show wpAny _ A (do let _ ← comprehension (.ListComp elt [⟨.Name x px, iter, [], 0⟩] scope pos) scope env _ (newList []) false (eval iter env) (some (assign (.Name y py) env))) _ _ s
  refine wpAny_bind (wpAny_mono (wpAny_comprehension_free (use := some (assign (.Name y py) env)) (Q := fun _ s' => Q .next s') rfl hs hclos hkind hnames
    (wpAny_mono h (fun xv s₁ h₁ => ?_) fun _ _ e => e)) (fun _ s' hq => wpAny_pure (wpAny_pure hq)) fun _ _ e => e)
  obtain ⟨tx, t, news, rfl, hasc, hh, F, N, hsz, R⟩ := h₁
  refine wpAny_pyIter_ascii hasc ?_
  refine LCg.block_U (Walks.strAscii hh s₁.heap.objs.size tx t) hsz (fun i h st => let ⟨o, e, _⟩ := st; ⟨o, e⟩) (fun i h h' o nw st e e' _ _ _ => ?_) hcell hkind hx ⟨_, Heap.get?_push_size _ rfl, rfl, rfl⟩ (fun b hb => ?_)
    (F.keeps fun _ _ e => Heap.get?_push_of_some _ e) (N.grown fun _ _ e => Heap.get?_push_of_some _ e) (Nat.ne_of_lt F.ns.lt) (next_is_new F) (fun p hp => Nat.ne_of_lt (Heap.lt_size (N p hp).1)) trivial (R _ ⟨_, rfl⟩) ?_
  · obtain ⟨o', q, r⟩ := st
    rw [e] at q; cases q
    exact ⟨o, e', r⟩
  · rw [List.mem_singleton.mp hb]
    exact Heap.lt_size (Heap.get?_push_size _ rfl)
  · intro D C h' tk m' ys news' F' N' o1 hn hC₀ hD₀ hCL hDL hCD offC fin
    show wpAny _ A (assign (.Name y py) env (.ref D)) _ _ _
    refine wpAny_assign_Name (wpAny_storeName_local hy F'.ns (fun h₂ hn₂ hs₂ => ?_) hp)
    have hL₀ : h₀.get? env.locals = none := Heap.get?_none_of_le F'.above
    have F₂ : Fr h₀ env.locals h₂ (fun z => if z = y then some (.ref D) else m z) := ⟨hn₂, fun b o e => hs₂.extBut b o (fun q => by rw [q, hL₀] at e; cases e) (F'.keep b o e), F'.above⟩
    refine ⟨m', hn.sameBut hs₂ hCL, fun h'' hs'' => fin D h'' _ (F₂.change hs'' hCL hC₀) (fun p hp => ⟨hs''.extBut _ _ ?_ (hs₂.extBut _ _ (N' p hp).2.1 (N' p hp).1), (N' p hp).2⟩) o1⟩
    rcases List.mem_cons.mp hp with rfl | hp
    · exact Ne.symm hCD
    · exact offC p hp

/-- a comprehension by what holds after each turn -/
theorem compRest_inv {elt : PySem.Expr} {x : Str} {scope : Scope} {cl : List (Str × Addr)} {S : List (Addr × Obj) → Prop} {P : Nat → Value → Prop} {Fin : List Value → List (Addr × Obj) → Prop} {n : Nat} {news : List (Addr × Obj)}
    (Inv : Nat → List Value → List (Addr × Obj) → Prop) (h0 : Inv 0 [] news)
    (turn : ∀ i v ys nx I oI C oC D m₂ h tk (E' : Value → Shared → Prop), i < n → P i v → Inv i ys nx → LCg.NsObj oC m₂ → m₂ x = some v → Fr h₀ L h m → News h₀ L h ((I, oI) :: (C, oC) :: (D, LCg.lst ys) :: nx) → LCg.Off3 I C D nx → ((@Ne Nat I C) ∧ (@Ne Nat I D) ∧ (@Ne Nat C D)) →
      wpAny (model prog w) A (eval elt (compEnvC scope cl C env)) (LCg.CompEnd h₀ L m { s with heap := h, toks := tk } I oI C oC D (LCg.lst ys) S (fun y nx' => Inv (i + 1) (ys ++ [y]) nx')) E' { s with heap := h, toks := tk })
    (fin : ∀ ys nx, Inv n ys nx → Fin ys nx) : LCg.CompRest prog w A h₀ L m env elt x scope cl s S P Fin n 0 [] news := by
  have key : ∀ (j i : Nat) (ys : List Value) (nx : List (Addr × Obj)), i + j = n → Inv i ys nx → LCg.CompRest prog w A h₀ L m env elt x scope cl s S P Fin j i ys nx := by
    intro j
    induction j with
    | zero =>
      intro i ys nx hi hy
      have e : i = n := by omega
      subst e
      exact LCg.CompRest.zero (fin ys nx hy)
    | succ j ih =>
      intro i ys nx hi hy
      refine LCg.CompRest.succ ?_
      intro v I oI C oC D m₂ h tk E' hv hC hx F N off ne
      refine wpAny_mono (turn i v ys nx I oI C oC D m₂ h tk E' (by omega) hv hy hC hx F N off ne) (fun y s₂ hq => ?_) fun _ _ e => e
      obtain ⟨h', tk', nw, e, F', N', off', hS, hi'⟩ := hq
      exact ⟨h', tk', nw, e, F', N', off', hS, ih (i + 1) _ _ (by omega) hi'⟩
  exact key n 0 [] news (by omega) h0
end
end Mine

namespace Mine
set_option maxRecDepth 100000
set_option maxHeartbeats 100000000

/-- every sign is one of v, w, x, y, z -/
abbrev VZ (x : Str) : Prop := ∀ c ∈ x.cps.toList, 118 ≤ c ∧ c ≤ 122

def piece (c : Int) : Str := Txt.mul (Txt.item (Str.ofString "vwxyz") (c.fmod 5)) (1 + (c.fdiv 5).fmod 2)
theorem piece_ok (c : Int) : MulOk (Txt.item (Str.ofString "vwxyz") (c.fmod 5)) (1 + (c.fdiv 5).fmod 2) ∧ (piece c).length ≤ 2 ∧ VZ (piece c) := by
  have h1 : c.fmod 5 = 0 ∨ c.fmod 5 = 1 ∨ c.fmod 5 = 2 ∨ c.fmod 5 = 3 ∨ c.fmod 5 = 4 := by
    have := Int.fmod_nonneg_of_pos c (show (0 : Int) < 5 by decide)
    have := Int.fmod_lt_of_pos c (show (0 : Int) < 5 by decide)
    omega
  have h2 : (c.fdiv 5).fmod 2 = 0 ∨ (c.fdiv 5).fmod 2 = 1 := by
    have := Int.fmod_nonneg_of_pos (c.fdiv 5) (show (0 : Int) < 2 by decide)
    have := Int.fmod_lt_of_pos (c.fdiv 5) (show (0 : Int) < 2 by decide)
    omega
  unfold piece
  generalize c.fmod 5 = a at h1
  generalize (c.fdiv 5).fmod 2 = b at h2
  have key : ∀ a ∈ [(0 : Int), 1, 2, 3, 4], ∀ b ∈ [(0 : Int), 1], (Txt.item (Str.ofString "vwxyz") a).length = 1 ∧ (Txt.mul (Txt.item (Str.ofString "vwxyz") a) (1 + b)).length ≤ 2 ∧ VZ (Txt.mul (Txt.item (Str.ofString "vwxyz") a) (1 + b)) := by decide +kernel
  have ha : a ∈ [(0 : Int), 1, 2, 3, 4] := by simp; omega
  have hb : b ∈ [(0 : Int), 1] := by simp; omega
  obtain ⟨k1, k2, k3⟩ := key a ha b hb
  refine ⟨?_, k2, k3⟩
  unfold MulOk
  rw [k1]
  rcases h2 with rfl | rfl <;> decide
theorem VZ.append {x y : Str} (h : VZ x) (k : VZ y) : VZ (x ++ y) := by
  intro c hc
  rw [Str.cps_append, Array.toList_append] at hc
  exact (List.mem_append.mp hc).elim (h c) (k c)
theorem join_vz : ∀ (ts : List Str), (∀ x ∈ ts, x.length ≤ 2 ∧ VZ x) → VZ (Str.join (Str.ofString "") ts) ∧ (Str.join (Str.ofString "") ts).length ≤ 2 * ts.length
  | [], _ => ⟨fun _ h => (nomatch h), Nat.le_refl _⟩
  | [x], h => ⟨(h x (.head _)).2, (h x (.head _)).1⟩
  | x :: y :: r, h => by
    obtain ⟨k1, k2⟩ := join_vz (y :: r) fun z hz => h z (.tail _ hz)
    have hx := h x (.head _)
    have e0 : (Str.ofString "").length = 0 := by decide +kernel
    refine ⟨(hx.2.append (show VZ (Str.ofString "") by decide +kernel)).append k1, ?_⟩
    show (x ++ Str.ofString "" ++ Str.join (Str.ofString "") (y :: r)).length ≤ _
    rw [Str.length_append, Str.length_append, e0]
    simp only [List.length_cons] at k2 ⊢
    omega
theorem tjoin_vz (ts : List Str) (h : ∀ x ∈ ts, x.length ≤ 2 ∧ VZ x) : VZ (Txt.join (Str.ofString "") ts) ∧ (Txt.join (Str.ofString "") ts).length ≤ 2 * ts.length := by
  rw [show Txt.join (Str.ofString "") ts = Str.join (Str.ofString "") ts from StrLaws.glued_eq_join _ _]
  exact join_vz ts h
end Mine

namespace Mine
set_option maxRecDepth 100000
set_option maxHeartbeats 100000000


def Tree.words : Tree → Str → List (Str × Str)
  | .leaf s, w => [(s, w)]
  | .node a b, w => a.words (w ++ Str.ofString "0") ++ b.words (w ++ Str.ofString "1")
def Tree.size : Tree → Nat
  | .leaf _ => 1
  | .node a b => a.size + b.size + 1
def pairsDat (ps : List (Str × Str)) : Dat := .list (ps.map fun p => .tuple [.str p.1, .str p.2])

theorem words_len : ∀ (t : Tree) (x : Str), (t.words x).length ≤ t.size
  | .leaf _, _ => Nat.le_refl _
  | .node a b, x => by
    have h1 := words_len a (x ++ Str.ofString "0")
    have h2 := words_len b (x ++ Str.ofString "1")
    simp only [Tree.words, List.length_append, Tree.size]
    omega

theorem words_spec (w : World) (t : Tree) : ∀ (word : Str) (v : Value) (tk : Tok), word.length + t.size ≤ 1000 → Spec w 42 [v, .str word tk] (fun news => DatIn news v t.dat) (fun news r => DatIn news r (pairsDat (t.words word))) t.size := by
  w_top off
  induction t with
  | leaf x =>
    intro word v tk hw p loose mean mg mb dp un gd cn cs a ccd cl outer A₀ base h₀ L m news s Q E B F X N T hk hv hd hu hret
    cases hv
    refine wpAny_call ?_
    k_dflt ktr_enter
    k_steps
    refine hret _ _ _ _ (by k_asm) (by k_asm) (fun q hq => .tail _ (.tail _ hq)) ?_
    exact .list (.head _) (.cons (.tuple (n := 0) (.tail _ (.head _)) (.cons (.str _ _) (.cons (.str _ _) .nil))) .nil)
  | node x y ihx ihy =>
    intro word v tk hw p loose mean mg mb dp un gd cn cs a ccd cl outer A₀ base h₀ L m news s Q E B F X N T hk hv hd hu hret
    cases hv with
    | tuple hm hr =>
    cases hr with
    | cons h1 hr =>
    cases hr with
    | cons h2 hr =>
    cases hr
    refine wpAny_call ?_
    k_dflt ktr_enter
    k_steps
    refine' (ihx _ _ _ ?hw).use ?B ?F ?X ?N ?T ?k ?R ?hd ?hu ?_
    case hw => simp only [Str.length_append] at *; rw [show (Str.ofString "0").length = 1 from by decide +kernel]; simp only [Tree.size] at *; omega
    case B => k_asm
    case F => k_asm
    case X => k_asm
    case N => k_asm
    case T => k_asm
    case k => exact rfl
    case R => exact h1
    case hd => show dp + 1 + _ < _; simp only [Tree.size] at hd; omega
    case hu => show un + 3 + _ < _; simp only [Tree.size] at hu; omega
    intro r1 n1 hp1 tk1 F1 N1 S1 O1
    unfold pairsDat at O1
    cases O1 with
    | list m1 l1 =>
    replace hm := S1 _ hm
    replace h2 := DatIn.mono S1 h2
    (try dsimp only)
    k_steps
    refine' (ihy _ _ _ ?hw).use ?B ?F ?X ?N ?T ?k ?R ?hd ?hu ?_
    case hw => simp only [Str.length_append] at *; rw [show (Str.ofString "1").length = 1 from by decide +kernel]; simp only [Tree.size] at *; omega
    case B => k_asm
    case F => k_asm
    case X => k_asm
    case N => k_asm
    case T => k_asm
    case k => exact rfl
    case R => exact h2
    case hd => show dp + 1 + _ < _; simp only [Tree.size] at hd; omega
    case hu => show un + 3 + _ < _; simp only [Tree.size] at hu; omega
    intro r2 n2 hp2 tk2 F2 N2 S2 O2
    unfold pairsDat at O2
    cases O2 with
    | list m2 l2 =>
    replace m1 := S2 _ m1
    replace l1 := DatAll.mono S2 l1
    (try dsimp only)
    refine' add_dat ?F ?N m1 m2 ?z ?_
    case F => k_asm
    case N => k_asm
    case z =>
      have e1 := l1.length
      have e2 := l2.length
      have e3 := words_len x (word ++ Str.ofString "0")
      have e4 := words_len y (word ++ Str.ofString "1")
      simp only [List.length_map, Tree.size] at *
      rw [sizeLine_eq]; omega
    intro D3 h3 F3 N3 lt3
    k_steps
    refine hret _ _ _ _ (by k_asm) (by k_asm) (fun q hq => .tail _ (S2 _ (S1 _ hq))) ?_
    refine .list (n := 0) (.head _) ?_
    show DatAll _ _ (List.map _ (x.words _ ++ y.words _))
    rw [List.map_append]
    exact DatAll.mono (fun p hp => .tail _ hp) (DatAll.append l1 l2)
end Mine

namespace Mine
set_option maxRecDepth 100000
set_option maxHeartbeats 100000000


theorem filter_take {vs : List Value} {i : Nat} {v : Value} (hv : vs[i]? = some v) (β : Value → Bool) : (vs.take (i + 1)).filter β = (vs.take i).filter β ++ (if β v then [v] else []) := by
  rw [List.take_add_one, hv, List.filter_append]
  congr 1
  cases h : β v <;> simp [h]

/-- what _split_list hands back -/
def SplitOut (vs : List Value) (β : Value → Bool) (news : List (Addr × Obj)) (r : Value) : Prop :=
  ∃ a b c n k l, r = .ref a ∧ (a, ({ cls := .type "tuple", data := .seq #[.ref b, .ref c] n } : Obj)) ∈ news ∧ (b, listOf (vs.filter β).toArray k) ∈ news ∧ (c, listOf (vs.filter fun v => !β v).toArray l) ∈ news

theorem split_spec (w : World) (f sl : Addr) (fd : FuncData) (oc : Value) (od : Option Addr) (osl : Array (Option Value)) (vs : List Value) (n : Nat) (β : Value → Bool) (Rel : List (Addr × Obj) → Prop)
    (hmono : ∀ l l' : List (Addr × Obj), (∀ p ∈ l, p ∈ l') → Rel l → Rel l') (hsz : vs.length ≤ 1000)
    (hcall : ∀ v ∈ vs, Spec w f [v] Rel (fun _ r => r = .bool (β v)) 1) :
    Spec w 28 [.ref sl, .ref f] (fun news => (sl, listOf vs.toArray n) ∈ news ∧ (f, (⟨oc, od, .func fd, osl⟩ : Obj)) ∈ news ∧ Rel news) (SplitOut vs β) 2 := by
  w_top off
  intro p loose mean mg mb dp un gd cn cs a ccd cl outer A₀ base h₀ L m news s Q E B F X N T hk hv hd hu hret
  obtain ⟨hsl, hf, hrel⟩ := hv
  refine wpAny_call ?_
  k_dflt ktr_enter
  have hC := codeHd_of X
  k_steps
  (rename Fr _ _ _ _ => F'); (with_unfolding_all refine' For_invVF F' ?k1 ?k2 ?_; (case k1 => exact rfl); (case k2 => exact rfl))
  k_steps
  rename_i ny _ lt1 _ nn _ lt2 _ N'
  refine' kdl_iter (vs := vs) (nn := n) (news := (nn, listOf #[] 0) :: (ny, listOf #[] 0) :: news) (fun i m nx => ∃ ky kn, nx = (nn, listOf ((vs.take i).filter fun v => !β v).toArray kn) :: (ny, listOf ((vs.take i).filter β).toArray ky) :: news ∧ m (Str.ofString "no") = some (.ref nn) ∧ m (Str.ofString "yes") = some (.ref ny) ∧ m (Str.ofString "predicate") = some (.ref f)) ?hh ?hl F' N' ?hj ?turn ?done
  case hh => exact rfl
  case hl => exact .tail _ (.tail _ hsl)
  case hj => exact ⟨0, 0, rfl, by with_unfolding_all rfl, by with_unfolding_all rfl, by with_unfolding_all rfl⟩
  case turn =>
    rintro i v m₁ nx h tk own hv hoff hl ⟨ky, kn, rfl, e1, e2, e3⟩ F₁ N₁
    have F₂ := fr_names [(Str.ofString "no", .ref nn), (Str.ofString "yes", .ref ny), (Str.ofString "predicate", .ref f)] (by simp [e1, e2, e3]) F₁
    clear F₁
    (try dsimp only [kstB] at F₂)
    have hf' : (f, (⟨oc, od, .func fd, osl⟩ : Obj)) ∈ ((nn, listOf ((vs.take i).filter fun v => !β v).toArray kn) :: (ny, listOf ((vs.take i).filter β).toArray ky) :: news) ++ own := List.mem_append.mpr (.inl (.tail _ (.tail _ hf)))
    k_steps
    refine' (hcall v (List.mem_of_getElem? hv)).use ?B ?F ?X ?N ?T ?k ?R ?hd ?hu ?_
    case B => k_asm
    case F => k_asm
    case X => k_asm
    case N => k_asm
    case T => k_asm
    case k => exact rfl
    case R => exact hmono _ _ (fun p hp => List.mem_append.mpr (.inl (.tail _ (.tail _ hp)))) hrel
    case hd => show dp + 1 + _ < _; omega
    case hu => show un + 3 + _ < _; omega
    intro r1 n1 hp1 tk1 F1 N1 S1 O1
    subst O1
    have hy : (ny, listOf ((vs.take i).filter β).toArray ky) ∈ n1 := S1 _ (.tail _ (.head _))
    have hn : (nn, listOf ((vs.take i).filter fun v => !β v).toArray kn) ∈ n1 := S1 _ (.head _)
    clear N₁ F₂ hf' F' N'
    (try dsimp only)
    have hlt : ∀ p ∈ news, p.1 < nn := ktn_ltOf lt2.2
    have hle := fun b : Value → Bool => Nat.le_trans (List.length_filter_le b (vs.take i)) (Nat.le_trans (List.length_take_le' i vs) (Nat.le_trans hsz (show 1000 ≤ sizeLine from by rw [sizeLine_eq]; omega)))
    k_steps
    · (rename β v = true => hb)
      refine append_own (rest := (nn, listOf ((vs.take i).filter fun v => !β v).toArray kn) :: (news ++ own)) F1 N1 hy ?_ ?_ ?_ (hle _)
      · intro p hp
        rcases List.mem_cons.mp hp with rfl | hp
        · exact hn
        · exact S1 _ (List.mem_append.mpr ((List.mem_append.mp hp).imp (fun h => .tail _ (.tail _ h)) id))
      · intro p hp
        rcases List.mem_cons.mp hp with rfl | hp
        · exact Nat.ne_of_gt lt2.1
        · rcases List.mem_append.mp hp with hp | hp
          · exact Nat.ne_of_lt (lt1 p hp)
          · exact hoff p hp _ (List.mem_map.mpr ⟨_, .tail _ (.head _), rfl⟩)
      · intro h2 F3 N3
        k_steps
        refine InvEndG.intro (nx := (nn, listOf ((vs.take (i + 1)).filter fun v => !β v).toArray kn) :: (ny, listOf ((vs.take (i + 1)).filter β).toArray (ky + 1)) :: news) F3 N3 ⟨.tail _ (.tail _ hsl), ky + 1, kn, rfl, by with_unfolding_all rfl, by with_unfolding_all rfl, by with_unfolding_all rfl⟩ ?_ ?_ ?_
        · exact hoff
        · rw [filter_take hv, filter_take hv, hb]
          simp only [if_true, Bool.not_true, Bool.false_eq_true, if_false, List.append_nil]
          intro p hp
          rcases List.mem_cons.mp hp with rfl | hp
          · exact .tail _ (.head _)
          · rcases List.mem_cons.mp hp with rfl | hp
            · exact .head _
            · exact .tail _ (.tail _ (List.mem_append.mpr (.inl hp)))
        · exact fun p hp => .tail _ (.tail _ (List.mem_append.mpr (.inr hp)))
    · (rename β v = false => hb)
      refine append_own (rest := (ny, listOf ((vs.take i).filter β).toArray ky) :: (news ++ own)) F1 N1 hn ?_ ?_ ?_ (hle _)
      · intro p hp
        rcases List.mem_cons.mp hp with rfl | hp
        · exact hy
        · exact S1 _ (List.mem_append.mpr ((List.mem_append.mp hp).imp (fun h => .tail _ (.tail _ h)) id))
      · intro p hp
        rcases List.mem_cons.mp hp with rfl | hp
        · exact Nat.ne_of_lt lt2.1
        · rcases List.mem_append.mp hp with hp | hp
          · exact Nat.ne_of_lt (hlt p hp)
          · exact hoff p hp _ (List.mem_map.mpr ⟨_, .head _, rfl⟩)
      · intro h2 F3 N3
        k_steps
        refine InvEndG.intro (nx := (nn, listOf ((vs.take (i + 1)).filter fun v => !β v).toArray (kn + 1)) :: (ny, listOf ((vs.take (i + 1)).filter β).toArray ky) :: news) F3 N3 ⟨.tail _ (.tail _ hsl), ky, kn + 1, rfl, by with_unfolding_all rfl, by with_unfolding_all rfl, by with_unfolding_all rfl⟩ ?_ ?_ ?_
        · exact hoff
        · rw [filter_take hv, filter_take hv, hb]
          simp only [if_true, Bool.not_false, Bool.false_eq_true, if_false, List.append_nil]
          exact fun p hp => (List.mem_cons.mp hp).elim (fun e => e ▸ .head _) fun hp => (List.mem_cons.mp hp).elim (fun e => e ▸ .tail _ (.head _)) fun hp => .tail _ (.tail _ (List.mem_append.mpr (.inl hp)))
        · exact fun p hp => .tail _ (.tail _ (List.mem_append.mpr (.inr hp)))
  case done =>
    rintro m₁ nx h tk ⟨ky, kn, rfl, e1, e2, e3⟩ F₁ N₁
    have F₂ := fr_namesOut [(Str.ofString "no", .ref nn), (Str.ofString "yes", .ref ny)] (by simp [e1, e2]) F₁
    rw [List.take_length] at N₁
    clear F₁ F' N'
    (try dsimp only [kstB] at F₂)
    (try dsimp only)
    k_steps
    exact hret _ _ _ _ (by k_asm) (by k_asm) (fun q hq => .tail _ (.tail _ (.tail _ hq))) ⟨_, ny, nn, 0, ky, kn, rfl, .head _, .tail _ (.tail _ (.head _)), .tail _ (.head _)⟩
end Mine

namespace Mine
set_option maxRecDepth 100000
set_option maxHeartbeats 100000000


def nodeDat (x : Int × Tree) : Dat := .tuple [.int x.1, x.2.dat]
def nodesDat (ns : List (Int × Tree)) : Dat := .list (ns.map nodeDat)

/-- the quicksort, by fuel -/
def risenF : Nat → List (Int × Tree) → List (Int × Tree)
  | 0, _ => []
  | _ + 1, [] => []
  | k + 1, x :: xs => risenF k (xs.filter fun y => decide (y.1 < x.1)) ++ [x] ++ risenF k (xs.filter fun y => !decide (y.1 < x.1))
theorem risenF_nil (k : Nat) : risenF k [] = [] := by cases k <;> rfl
theorem risenF_length : ∀ (k : Nat) (ns : List (Int × Tree)), ns.length ≤ k → (risenF k ns).length = ns.length
  | 0, [], _ => rfl
  | _ + 1, [], _ => rfl
  | k + 1, x :: xs, h => by
    have hx : xs.length ≤ k := Nat.le_of_succ_le_succ h
    have h1 := risenF_length k (xs.filter fun y => decide (y.1 < x.1)) (Nat.le_trans (List.length_filter_le _ _) hx)
    have h2 := risenF_length k (xs.filter fun y => !decide (y.1 < x.1)) (Nat.le_trans (List.length_filter_le _ _) hx)
    have h3 : ∀ (l : List (Int × Tree)) (f : Int × Tree → Bool), (l.filter f).length + (l.filter fun y => !f y).length = l.length := by
      intro l f
      induction l with
      | nil => rfl
      | cons a r ih => cases e : f a <;> simp [e, ← ih] <;> omega
    have h4 := h3 xs fun y => decide (y.1 < x.1)
    simp only [risenF, List.length_append, List.length_cons, List.length_nil, h1, h2]
    omega

def lamQual : Str := (Str.ofString "_law_risen" ++ ".<locals>.") ++ "<lambda>"
def TabOk (ps : Array Value) (news : List (Addr × Obj)) : Prop :=
  ps = #[] ∨ ∃ c' oc vs t, ps = #[rawInt 20, rawInt 38, .ref c'] ∧ (c', oc) ∈ news ∧ oc.data = .fields vs ∧ vs[1]? = some (.str lamQual t)

theorem TabOk.mono {ps : Array Value} {l l' : List (Addr × Obj)} (h : TabOk ps l) (hs : ∀ p ∈ l, p ∈ l') : TabOk ps l' :=
  h.imp id fun ⟨c', oc, vs, t, e, hm, r⟩ => ⟨c', oc, vs, t, e, hs _ hm, r⟩

theorem lam_make {M : Model} {A : Around} {E : Value → Shared → Prop} {s : Shared} {h₀ : Heap} {L a : Addr} {m mg mb : Str → Option Value} {cn : Str} {cs : Scope} {ccd : Value} {cl : List (Str × Addr)} {news rest : List (Addr × Obj)} {ps : Array Value}
    {p : Program} {loose : List Str} {mean : ExcName → Option Value} {name : Str} {params : Arguments} {body : PySem.Expr} {scope : Scope} {pos : Pos} {firstLine : Nat} {clos : List (Str × Addr)} {Q : Value → Shared → Prop}
    (F : Fr h₀ L s.heap m) (N : News h₀ L s.heap news) (hsub : ∀ q ∈ (30, tabObj ps) :: rest, q ∈ news) (hO : ∀ q ∈ rest, q.1 ≠ 30) (hT : TabOk ps rest) (T : Top p loose mean mg mb h₀) (C : CodeHd h₀ 34 30) (hcd : ccd = .ref 34)
    (hcl : closureFor scope (envX cn cs L a ccd cl) = pure clos) (h1 : pos.line = 20) (h2 : pos.col = 38)
    (h : ∀ f c' oc vs t ctv ps' rest' h' tk, Fr h₀ L h' m → News h₀ L h' ((f, kla_obj name lamQual params body scope clos ((mg "__name__").getD .none) c' ctv) :: (30, tabObj ps') :: rest') → TabOk ps' rest' → (∀ q ∈ rest', q.1 ≠ 30) → (∀ q ∈ rest, q ∈ rest') →
      (c', oc) ∈ rest' → oc.data = .fields vs → vs[1]? = some (.str lamQual t) → (∀ q ∈ rest', q.1 < f) → 30 < f → Q (.ref f) { s with heap := h', toks := tk }) :
    wpAny M A (makeFunction name lamQual params (.expr body) scope (envX cn cs L a ccd cl) [] [] [] pos firstLine) Q E s := by
  have N2 : News h₀ L s.heap ((30, tabObj ps) :: rest) := fun q hq => N q (hsub q hq)
  rcases hT with rfl | ⟨c', oc, vs, t, rfl, hm, hd, hv⟩
  · refine kla_nest F N2 T C hcd (UpdF.head hO) trivial rfl hcl fun f c' oc vs t ctv h' tk F' N' hd hv hlt hf => ?_
    rw [h1, h2] at N'
    refine h f c' oc vs t ctv (#[] ++ #[rawInt 20, rawInt 38, .ref c']) ((c', oc) :: rest) h' tk F' (fun q hq => N' q ?_) ?_ ?_ (fun q hq => .tail _ hq) (.head _) hd hv ?_ ?_
    · rcases List.mem_cons.mp hq with rfl | hq
      · exact .head _
      · rcases List.mem_cons.mp hq with rfl | hq
        · exact .tail _ (.tail _ (.head _))
        · rcases List.mem_cons.mp hq with rfl | hq
          · exact .tail _ (.head _)
          · exact .tail _ (.tail _ (.tail _ hq))
    · exact .inr ⟨c', oc, vs, t, rfl, .head _, hd, hv⟩
    · intro q hq
      rcases List.mem_cons.mp hq with rfl | hq
      · exact Nat.ne_of_gt (hlt _ (.head _))
      · exact hO q hq
    · intro q hq
      rcases List.mem_cons.mp hq with rfl | hq
      · exact hf
      · exact Nat.lt_trans (hlt _ (.tail _ hq)) hf
    · exact Nat.lt_trans (hlt _ (.head _)) hf
  · refine kla_hit (c' := c') F N2 T C hcd (.head _) ?_ ?_ hcl fun f ctv h' tk F' N' hlt => ?_
    · simp [TriplesOk, rawInt]
    · simp [codeAmong, rawInt, h1, h2]
    · exact h f c' oc vs t ctv _ rest h' tk F' N' (.inr ⟨c', oc, vs, t, rfl, hm, hd, hv⟩) hO (fun _ hq => hq) hm hd hv (fun q hq => hlt q (.tail _ hq)) (hlt _ (.head _))

def SpecT (w : World) (f : Addr) (vs : List Value) (Rel : List (Addr × Obj) → Prop) (Out : List (Addr × Obj) → Value → Prop) (D : Nat) : Prop :=
  ∀ (p : Program) (loose : List Str) (mean : ExcName → Option Value) (mg mb : Str → Option Value) (dp un : Nat) (gd : Option (List Code)) (cn : Str) (cs : Scope) (a : Addr) (ccd : Value) (cl : List (Str × Addr)) (outer : List Env) (A₀ : Around) (base h₀ : Heap) (L : Addr) (m : Str → Option Value) (ps : Array Value) (news : List (Addr × Obj)) (s : Shared)
    (Q E : Value → Shared → Prop),
    Below A₀ base outer h₀ → Fr h₀ L s.heap m → (Mine.hd.heap_39 w.params).In h₀ → News h₀ L s.heap ((30, tabObj ps) :: news) → Top p loose mean mg mb h₀ → cs.kind = .function → TabOk ps news → (∀ q ∈ news, q.1 ≠ 30) → Rel news → dp + D < recursionLimit → un + 8 * D < cLine →
    (∀ r ps' news' h' tk', Fr h₀ L h' m → News h₀ L h' ((30, tabObj ps') :: news') → TabOk ps' news' → (∀ q ∈ news', q.1 ≠ 30) → (∀ q ∈ news, q ∈ news') → Out news' r → Q r { s with heap := h', toks := tk' }) →
    wpAny (model PySem.Challenge.pw_rl0157_01 w) (ktrTop dp un gd cn cs L a ccd cl outer) (call (.ref f) vs) Q E s

local macro_rules | `(tactic| walk_at "enter cells") => `(tactic| (refine' code_defC ?k1 ?k2 ?k3 ?k4 ?k5 ?kA ?kF ?kK ?k6 ?k7 ?k8 ?k9 ?kB ?kD ?_ ?c2 ?c3 ?c4; (case kA => exact rfl); (case kF => exact rfl); (case kK => assumption); (case k1 => k_asm); (case k2 => k_asm); (case k3 => k_asm); (case k4 => k_asm); (case k5 => k_asm); (case k6 => k_is); (case k7 => k_is); (case k8 => ktr_room); (case k9 => exact BindsTo.of_eq rfl); (case kB => exact rfl); (case kD => decide +kernel); (case c2 => exact rfl); (case c3 => exact rfl); (case c4 => exact rfl); k_whole; intro g' L' h' tk' cells' FG' F' N' Y' B' X' T' l1; (try k_lt l1); k_cells Y'; (try simp only [List.cons_append, List.nil_append] at N'); (try dsimp only); (try k_fold)))

local macro_rules | `(tactic| walk_at "mem") => `(tactic| first | exact List.mem_cons_self | ktr_member | (refine List.mem_cons_of_mem _ ?_; walk_at "mem") | (ktn_app; first | (refine List.mem_append.mpr (Or.inl ?_); walk_at "mem") | (refine List.mem_append.mpr (Or.inr ?_); walk_at "mem")))
local macro_rules | `(tactic| k_mem) => `(tactic| walk_at "mem")
local macro_rules | `(tactic| walk_at "led z") => `(tactic| first | omega | exact Nat.zero_le _ | (simp only [List.length_cons, List.length_nil, List.length_map] at *; omega) | fail "led z")
local macro_rules | `(tactic| walk_at "subscriptTail") => `(tactic| (k_here; (with_reducible show wpAny _ _ (subscriptTail _ _ (Value.ref _) (Value.int _ _)) _ _ _); k_dflt (refine' item_led ?N ?m ?a ?b ?x ?_ ?s; (case N => k_asm); (case m => k_mem); (case a => decide); (case b => decide); (case x => rfl); (case s => with_unfolding_all rfl); k_whole)))
local macro_rules | `(tactic| walk_at "truthy ref") => `(tactic| (k_here; k_dflt (refine' truthy_led ?N ?m ?z ?_; (case N => k_asm); (case m => k_mem); (case z => walk_at "led z"); k_whole); (try dsimp only [List.isEmpty_cons, List.isEmpty_nil, Bool.not_false, Bool.not_true])))
local macro_rules | `(tactic| walk_at "subscriptTail Name Slice ref ref") => `(tactic| (k_here; k_dflt (refine' drop_led ?F ?N ?m ?z ?x ?_ ?s ?t; (case F => k_asm); (case N => k_asm); (case m => k_mem); (case z => walk_at "led z"); (case x => decide); (case s => with_unfolding_all rfl); (case t => kmk_pure); k_whole); intro D' h' F' N' l1; (try k_lt l1); (try simp only [Int.reduceToNat, List.drop_succ_cons, List.drop_zero] at N'); (try k_sweep)))
local macro_rules | `(tactic| walk_at "call ref") => `(tactic| refine stop_of ?_)
local macro_rules | `(tactic| walk_at "binaryOp Add ref ref") => `(tactic| refine stop_of ?_)
local macro_rules | `(tactic| walk_at "eval Lambda") => `(tactic| refine stop_of ?_)

theorem nodeDat_key {h₀ h : Heap} {L : Addr} {led : List (Addr × Obj)} (N : News h₀ L h led) {v : Value} {y z : Int × Tree} (hy : DatIn led v (nodeDat y)) (hz : DatIn led v (nodeDat z)) : y.1 = z.1 := by
  unfold nodeDat at hy hz
  cases hy with
  | tuple hm hr =>
  cases hz with
  | tuple km kr =>
  have e1 := (N _ hm).1
  have e2 := (N _ km).1
  cases hr with
  | cons ha hr =>
  cases kr with
  | cons ka kr =>
  cases ha
  cases ka
  rw [e1] at e2
  simp at e2
  exact e2.1.1.1
theorem datAll_mem {news : List (Addr × Obj)} {α : Type} {g : α → Dat} : ∀ {vs : List Value} {ys : List α}, DatAll news vs (ys.map g) → ∀ v ∈ vs, ∃ y ∈ ys, DatIn news v (g y)
  | _, [], h, v, hv => by cases h; exact nomatch hv
  | _, y :: ys, h, v, hv => by
    cases h with
    | cons h r =>
      rcases List.mem_cons.mp hv with rfl | hv
      · exact ⟨y, .head _, h⟩
      · obtain ⟨z, hz, e⟩ := datAll_mem r v hv
        exact ⟨z, .tail _ hz, e⟩
theorem datAll_filter {news : List (Addr × Obj)} {α : Type} {g : α → Dat} {β : Value → Bool} {γ : α → Bool} : ∀ {vs : List Value} {ys : List α}, DatAll news vs (ys.map g) → (∀ v y, v ∈ vs → y ∈ ys → DatIn news v (g y) → β v = γ y) → DatAll news (vs.filter β) ((ys.filter γ).map g)
  | _, [], h, _ => by cases h; exact .nil
  | _, y :: ys, h, hb => by
    cases h with
    | @cons v vs _ _ h r =>
      have r' := datAll_filter (β := β) (γ := γ) r fun v y h1 h2 => hb v y (.tail _ h1) (.tail _ h2)
      have e := hb v y (.head _) (.head _) h
      rw [List.filter_cons, List.filter_cons, e]
      split
      · exact .cons h r'
      · exact r'
mutual
theorem datIn_off {news news' : List (Addr × Obj)} (hs : ∀ p ∈ news, p.2.cls ≠ .none → p ∈ news') : ∀ {v : Value} {d : Dat}, DatIn news v d → DatIn news' v d
  | _, _, .none => .none
  | _, _, .bool b => .bool b
  | _, _, .int i t => .int i t
  | _, _, .str x t => .str x t
  | _, _, .bytes b t => .bytes b t
  | _, _, .tuple h r => .tuple (hs _ h (fun e => by cases e)) (datAll_off hs r)
  | _, _, .list h r => .list (hs _ h (fun e => by cases e)) (datAll_off hs r)
theorem datAll_off {news news' : List (Addr × Obj)} (hs : ∀ p ∈ news, p.2.cls ≠ .none → p ∈ news') : ∀ {vs : List Value} {ds : List Dat}, DatAll news vs ds → DatAll news' vs ds
  | _, _, .nil => .nil
  | _, _, .cons h r => .cons (datIn_off hs h) (datAll_off hs r)
end
/-- a ledger without the table's row -/
def off30 (l : List (Addr × Obj)) : List (Addr × Obj) := l.filter fun q => q.1 != 30
theorem off30_mem {l : List (Addr × Obj)} {q : Addr × Obj} (h : q ∈ l) (h2 : q.1 ≠ 30) : q ∈ off30 l := List.mem_filter.mpr ⟨h, by simpa using h2⟩
theorem off30_sub {l : List (Addr × Obj)} {q : Addr × Obj} (h : q ∈ off30 l) : q ∈ l := (List.mem_filter.mp h).1
theorem off30_ne {l : List (Addr × Obj)} : ∀ q ∈ off30 l, q.1 ≠ 30 := fun q h => by simpa using (List.mem_filter.mp h).2
theorem off30_cls {h₀ h : Heap} {L : Addr} {l : List (Addr × Obj)} {ps : Array Value} (N : News h₀ L h l) (h30 : (30, tabObj ps) ∈ l) : ∀ p ∈ l, p.2.cls ≠ .none → p ∈ off30 l := fun p hp hc => by
  refine off30_mem hp fun e => hc ?_
  have e1 := (N _ h30).1
  have e2 := (N p hp).1
  rw [e, e1] at e2
  rw [← Option.some.inj e2]
theorem off30_news {h₀ h : Heap} {L : Addr} {l : List (Addr × Obj)} {ps : Array Value} (N : News h₀ L h l) (h30 : (30, tabObj ps) ∈ l) : News h₀ L h ((30, tabObj ps) :: off30 l) := fun p hp => by
  rcases List.mem_cons.mp hp with rfl | hp
  · exact N _ h30
  · exact N p (off30_sub hp)

open Classical in
noncomputable def keyOf (led : List (Addr × Obj)) (v : Value) : Int := if h : ∃ y : Int × Tree, DatIn led v (nodeDat y) then h.choose.1 else 0
theorem keyOf_eq {h₀ h : Heap} {L : Addr} {led : List (Addr × Obj)} (N : News h₀ L h led) {v : Value} {y : Int × Tree} (hy : DatIn led v (nodeDat y)) : keyOf led v = y.1 := by
  have hx : ∃ y : Int × Tree, DatIn led v (nodeDat y) := ⟨y, hy⟩
  unfold keyOf
  rw [dif_pos hx]
  exact nodeDat_key N hx.choose_spec hy

local macro_rules | `(tactic| walk_at "enter lam") => `(tactic| (refine' kla_code ?k1 ?k2 ?k3 ?k4 ?k5 ?kA ?kF ?kK ?k6 ?k7 ?k8 ?k9 ?kB ?_ ?c2 ?c3 ?c4 ?c5; (case kA => exact rfl); (case kF => exact rfl); (case kK => assumption); (case k1 => k_asm); (case k2 => k_asm); (case k3 => k_asm); (case k4 => k_asm); (case k5 => k_asm); (case k6 => k_mem); (case k7 => exact codeRec_news (by k_asm) (by k_mem) (by assumption) (by assumption)); (case k8 => ktr_room); (case k9 => exact rfl); (case c5 => decide); (case kB => exact locs rfl); (case c2 => exact rfl); (case c3 => exact rfl); (case c4 => exact rfl); k_whole; intro g' L' h' FG' F' N' B' X' T'; (try dsimp only); (try k_fold)))

theorem risen_spec (w : World) : ∀ (k : Nat) (ns : List (Int × Tree)), ns.length ≤ k → k ≤ 100 → ∀ v : Value, SpecT w 35 [v] (fun news => DatIn news v (nodesDat ns)) (fun news r => DatIn news r (nodesDat (risenF k ns))) (k + 3) := by
  w_top off
  have nil : ∀ k v, SpecT w 35 [v] (fun news => DatIn news v (nodesDat [])) (fun news r => DatIn news r (nodesDat (risenF k []))) (k + 3) := by
    intro k v p loose mean mg mb dp un gd cn cs a ccd cl outer A₀ base h₀ L m ps news s Q E B F X N T hkk hT hO hv hd hu hret
    unfold nodesDat at hv
    cases hv with
    | list hm hr =>
    cases hr
    refine wpAny_call ?_
    k_dflt (walk_at "enter cells")
    have hC := codeHd_of X
    k_steps
    rename_i l' _ _ _ l1 kF kN _ _
    refine hret _ ps ((l', listOf #[] 0) :: news) _ _ kF (fun q hq => ?_) (hT.mono fun q hq => .tail _ hq) ?_ (fun q hq => .tail _ hq) ?_
    · rcases List.mem_cons.mp hq with rfl | hq
      · exact kN _ (.tail _ (.tail _ (.head _)))
      · rcases List.mem_cons.mp hq with rfl | hq
        · exact kN _ (.head _)
        · exact kN _ (.tail _ (.tail _ (.tail _ hq)))
    · intro q hq
      rcases List.mem_cons.mp hq with rfl | hq
      · exact Nat.ne_of_gt l1.2.1
      · exact hO q hq
    · rw [risenF_nil]
      exact .list (.head _) .nil
  intro k
  induction k with
  | zero =>
    intro ns hn hk v
    have e : ns = [] := List.eq_nil_of_length_eq_zero (Nat.le_zero.mp hn)
    subst e
    exact nil 0 v
  | succ k ih => 
    intro ns hn hk v
    cases ns with
    | nil => exact nil _ v
    | cons x xs =>
    intro p loose mean mg mb dp un gd cn cs a ccd cl outer A₀ base h₀ L m ps news s Q E B F X N T hkk hT hO hv hd hu hret
    unfold nodesDat at hv
    cases hv with
    | list hm hr =>
    cases hr with
    | cons h0 hr =>
    cases h0 with
    | tuple h0m h0r =>
    cases h0r with
    | cons h0a h0r =>
    cases h0r with
    | cons h0b h0r =>
    cases h0r
    cases h0a
    have hlen := hr.length
    rename_i hl nl vs a0 n0 tv tk0
    refine wpAny_call ?_
    k_dflt (walk_at "enter cells")
    have hC := codeHd_of X
    k_steps
    unfold Stop
    rename_i g1 L1 _ _ FG1 B1 X1 T1 l0 o' d1 D' _ F' l1 N'
    replace d1 : o'.data = .cell (some (.ref hl)) := d1
    have hD30 : ∀ q ∈ (D', listOf vs.toArray 0) :: (L1 + 1, o') :: news, q.1 ≠ 30 := by
      intro q hq
      rcases List.mem_cons.mp hq with rfl | hq
      · exact Nat.ne_of_gt l1.2.1
      · rcases List.mem_cons.mp hq with rfl | hq
        · exact Nat.ne_of_gt (Nat.lt_succ_of_lt l0.1)
        · exact hO q hq
    refine' kla_eval ?d0 ?_
    case d0 => exact rfl
    refine' lam_make (rest := (D', listOf vs.toArray 0) :: (L1 + 1, o') :: news) F' N' ?sub hD30 ?TT ?T ?C ?cd ?cl ?h1 ?h2 ?_
    case sub =>
      intro q hq
      rcases List.mem_cons.mp hq with rfl | hq
      · exact .tail _ (.tail _ (.head _))
      · rcases List.mem_cons.mp hq with rfl | hq
        · exact .head _
        · rcases List.mem_cons.mp hq with rfl | hq
          · exact .tail _ (.head _)
          · exact .tail _ (.tail _ (.tail _ hq))
    case TT => exact hT.mono fun q hq => .tail _ (.tail _ hq)
    case T => exact T1
    case C => exact codeHd_of X1
    case cd => exact rfl
    case cl => exact rfl
    case h1 => exact rfl
    case h2 => exact rfl
    clear F' N'
    intro f c' oc cvs ct ctv ps' rest' h2 tk2 F2 N2 hT2 hO2 S2 hc' hcd hcv hlt hf30
    obtain ⟨ob, hob, N3⟩ : ∃ ob, ob = _ ∧ News _ _ _ ((f, ob) :: (30, tabObj ps') :: rest') := ⟨_, rfl, N2⟩
    clear N2
    (try dsimp only)
    k_steps
    unfold Stop
    have hlm : (hl, listOf (Value.ref a0 :: vs).toArray nl) ∈ (f, ob) :: rest' := .tail _ (S2 _ (.tail _ (.tail _ hm)))
    have h0m' : (a0, ({ cls := .type "tuple", data := .seq #[Value.int x.1 tk0, tv] n0 } : Obj)) ∈ (f, ob) :: rest' := .tail _ (S2 _ (.tail _ (.tail _ h0m)))
    have hcm : (L1 + 1, o') ∈ (f, ob) :: rest' := .tail _ (S2 _ (.tail _ (.head _)))
    have hr' : DatAll ((f, ob) :: rest') vs (xs.map nodeDat) := DatAll.mono (fun q hq => .tail _ (S2 _ (.tail _ (.tail _ hq)))) hr
    have NL : News g1 L1 h2 ((f, ob) :: rest') := fun q hq => N3 q ((List.mem_cons.mp hq).elim (fun e => e ▸ .head _) fun h => .tail _ (.tail _ h))
    have lam : ∀ v ∈ vs, Spec w f [v] (fun nw => ∀ q ∈ (f, ob) :: rest', q ∈ nw) (fun _ r => r = .bool (decide (keyOf ((f, ob) :: rest') v < x.1))) 1 := by
      intro v hv
      obtain ⟨y, hy, hyd⟩ := datAll_mem hr' v hv
      rw [keyOf_eq NL hyd]
      clear hret hd hu B F X N T hkk hT hO B1 X1 T1 FG1 F2 N3 NL hT2 hO2 S2 hlt
      intro p loose mean mg mb dp un gd cn cs a ccd cl outer A₀ base h₀ L m news s Q E B F X N T hkk hR hd hu hret
      replace hyd := DatIn.mono hR hyd
      replace hlm := hR _ hlm
      replace h0m' := hR _ h0m'
      replace hcm := hR _ hcm
      have hfm := hR _ (List.mem_cons_self (a := (f, ob)) (l := rest'))
      replace hc' := hR _ (.tail _ hc')
      clear hR
      subst hob
      unfold nodeDat at hyd
      cases hyd with
      | tuple hym hyr =>
      cases hyr with
      | cons hya hyr =>
      cases hyr with
      | cons hyb hyr =>
      cases hyr
      cases hya
      refine wpAny_call ?_
      k_dflt (walk_at "enter lam")
      k_steps
      exact hret _ _ _ _ (by k_asm) (by k_asm) (fun _ h => h) rfl
    have hbd : ob.cls = .type "function" ∧ ∃ fd, ob.data = .func fd := by subst hob; exact ⟨rfl, _, rfl⟩
    obtain ⟨obc, obd, obda, obs⟩ := ob
    obtain ⟨hb1, fd, hb2⟩ := hbd
    dsimp only at hb1 hb2
    subst hb1 hb2
    clear hob
    have hvl : vs.length = xs.length := by rw [hlen, List.length_map]
    have hxl : xs.length ≤ k := Nat.le_of_succ_le_succ hn
    have dlo := datAll_filter (β := fun v => decide (keyOf ((f, ⟨.type "function", obd, .func fd, obs⟩) :: rest') v < x.1)) (γ := fun y => decide (y.1 < x.1)) hr' fun v y _ _ hy => by simp only [keyOf_eq NL hy]
    have dhi := datAll_filter (β := fun v => !decide (keyOf ((f, ⟨.type "function", obd, .func fd, obs⟩) :: rest') v < x.1)) (γ := fun y => !decide (y.1 < x.1)) hr' fun v y _ _ hy => by simp only [keyOf_eq NL hy]
    refine' (split_spec w f D' fd (.type "function") obd obs vs 0 _ _ ?mono ?sz lam).use ?B F2 X1 N3 T1 ?kk ?R ?hd ?hu ?_
    case mono => exact fun l l' hs hR q hq => hs q (hR q hq)
    case sz => omega
    case B => exact B1
    case kk => exact rfl
    case R => exact ⟨.tail _ (.tail _ (S2 _ (.head _))), .head _, fun q hq => (List.mem_cons.mp hq).elim (fun e => e ▸ .head _) fun h => .tail _ (.tail _ h)⟩
    case hd => show dp + 1 + _ < _; omega
    case hu => show un + 3 + _ < _; omega
    rintro r1 n1 hp1 tk1 F4 N4 S4 ⟨sa, sb, sc, sn, sk, sl, rfl, m1, m2, m3⟩
    clear F2 N3 NL
    (try dsimp only)
    k_steps
    unfold Stop
    (rename Fr _ _ _ _ => F5); (rename News _ _ _ _ => N5)
    have h30 : (30, tabObj ps') ∈ n1 := S4 _ (.tail _ (.head _))
    have hc1 := off30_cls N5 h30
    have hT5 : TabOk ps' (off30 n1) := hT2.mono fun q hq => off30_mem (S4 _ (.tail _ (.tail _ hq))) (hO2 q hq)
    have hsub1 : ∀ q ∈ (f, (⟨.type "function", obd, .func fd, obs⟩ : Obj)) :: rest', q ∈ n1 := fun q hq => S4 q ((List.mem_cons.mp hq).elim (fun e => e ▸ .head _) fun h => .tail _ (.tail _ h))
    have q1 : DatIn (off30 n1) (.ref sb) (nodesDat (xs.filter fun y => decide (y.1 < x.1))) := datIn_off hc1 (.list m2 (DatAll.mono hsub1 dlo))
    have q2 : DatIn (off30 n1) (.ref sc) (nodesDat (xs.filter fun y => !decide (y.1 < x.1))) := datIn_off hc1 (.list m3 (DatAll.mono hsub1 dhi))
    have hcm1 : (L1 + 1, o') ∈ off30 n1 := off30_mem (hsub1 _ hcm) (Nat.ne_of_gt (Nat.lt_succ_of_lt l0.1))
    have hlm1 : (hl, listOf (Value.ref a0 :: vs).toArray nl) ∈ off30 n1 := hc1 _ (hsub1 _ hlm) (fun e => by cases e)
    have hx1 : DatIn (off30 n1) (.ref a0) (nodeDat x) := datIn_off hc1 (DatIn.mono hsub1 (.tuple h0m' (.cons (.int _ _) (.cons (DatIn.mono (fun q hq => .tail _ (S2 _ (.tail _ (.tail _ hq)))) h0b) .nil))))
    have hold : ∀ q ∈ news, q ∈ off30 n1 := fun q hq => off30_mem (hsub1 _ (.tail _ (S2 _ (.tail _ (.tail _ hq))))) (hO q hq)
    have N6 := off30_news N5 h30
    clear N5 lam dlo dhi m2 m3 hr' h0m' hcm hlm hsub1 S4 S2 hT2 hO2 hlt hc' h0b h0m hm hr hT N
    refine (ih _ (Nat.le_trans (List.length_filter_le _ _) hxl) (by omega) _) _ _ _ _ _ _ _ _ _ _ _ _ _ _ _ _ _ _ _ _ _ _ _ _ B1 F5 X1 N6 T1 rfl hT5 off30_ne q1 ?hd ?hu ?_
    case hd => show dp + 1 + _ < _; omega
    case hu => show un + 3 + _ < _; omega
    intro r7 ps7 n7 h7 tk7 F7 N7 hT7 hO7 S7 O7
    unfold nodesDat at O7
    cases O7 with
    | list m7 d7 =>
    rename_i a7 v7 i7
    clear F5 N6
    replace q2 := DatIn.mono S7 q2
    replace hcm1 := S7 _ hcm1
    replace hlm1 := S7 _ hlm1
    replace hx1 := DatIn.mono S7 hx1
    have hold7 : ∀ q ∈ news, q ∈ n7 := fun q hq => S7 _ (hold q hq)
    clear hold S7
    (try dsimp only)
    k_steps
    unfold Stop
    rename_i l' _ F' N' l1'
    have e7 : v7.length ≤ 100 := by
      have q := d7.length
      rw [List.length_map, risenF_length _ _ (Nat.le_trans (List.length_filter_le _ _) hxl)] at q
      have q2 := List.length_filter_le (fun y : Int × Tree => decide (y.1 < x.1)) xs
      omega
    refine add_dat (vs := v7) (ws := [Value.ref a0]) F' N' (.tail _ (.tail _ m7)) (.head _) (by rw [sizeLine_eq, List.length_singleton]; omega) ?_
    intro D8 h8 F8 N8 lt8
    have hD8 : 30 < D8 := lt8 _ (.tail _ (.head _))
    clear F' N'
    (try dsimp only)
    k_steps
    unfold Stop
    have N9 : News g1 L1 h8 ((30, tabObj ps7) :: (D8, listOf (v7 ++ [Value.ref a0]).toArray 0) :: n7) := fun q hq => N8 q ((List.mem_cons.mp hq).elim (fun e => e ▸ .tail _ (.tail _ (.head _))) fun h => (List.mem_cons.mp h).elim (fun e => e ▸ .head _) fun h => .tail _ (.tail _ (.tail _ h)))
    refine (ih _ (Nat.le_trans (List.length_filter_le _ _) hxl) (by omega) _) _ _ _ _ _ _ _ _ _ _ _ _ _ _ _ _ _ _ _ _ _ _ _ _ B1 F8 X1 N9 T1 rfl (hT7.mono fun q hq => .tail _ hq) ?hO (DatIn.mono (fun q hq => .tail _ hq) q2) ?hd ?hu ?_
    case hO => exact fun q hq => (List.mem_cons.mp hq).elim (fun e => e ▸ Nat.ne_of_gt hD8) (hO7 q)
    case hd => show dp + 1 + _ < _; omega
    case hu => show un + 3 + _ < _; omega
    intro r10 ps10 n10 h10 tk10 F10 N10 hT10 hO10 S10 O10
    unfold nodesDat at O10
    cases O10 with
    | list m10 d10 =>
    rename_i a10 v10 i10
    clear F8 N8 N9
    have m8 : (D8, listOf (v7 ++ [Value.ref a0]).toArray 0) ∈ n10 := S10 _ (.head _)
    have S7' : ∀ q ∈ n7, q ∈ n10 := fun q hq => S10 _ (.tail _ hq)
    have e10 : v10.length ≤ 100 := by
      have q := d10.length
      rw [List.length_map, risenF_length _ _ (Nat.le_trans (List.length_filter_le _ _) hxl)] at q
      have q2 := List.length_filter_le (fun y : Int × Tree => !decide (y.1 < x.1)) xs
      omega
    (try dsimp only)
    k_steps
    unfold Stop
    refine add_dat (vs := v7 ++ [Value.ref a0]) (ws := v10) F10 N10 (.tail _ m8) (.tail _ m10) (by rw [sizeLine_eq, List.length_append, List.length_singleton]; omega) ?_
    intro D11 h11 F11 N11 lt11
    have hD11 : 30 < D11 := lt11 _ (.head _)
    clear F10 N10
    (try dsimp only)
    k_steps
    (rename Fr h₀ _ _ _ => kF); (rename News h₀ _ _ _ => kN)
    refine hret _ ps10 ((D11, listOf (v7 ++ [Value.ref a0] ++ v10).toArray 0) :: n10) _ _ kF ?_ (hT10.mono fun q hq => .tail _ hq) ?_ (fun q hq => .tail _ (S7' _ (hold7 q hq))) ?_
    · exact fun q hq => kN q ((List.mem_cons.mp hq).elim (fun e => e ▸ .tail _ (.head _)) fun h => (List.mem_cons.mp h).elim (fun e => e ▸ .head _) fun h => .tail _ (.tail _ h))
    · exact fun q hq => (List.mem_cons.mp hq).elim (fun e => e ▸ Nat.ne_of_gt hD11) (hO10 q)
    · refine .list (.head _) ?_
      simp only [risenF, List.map_append, List.map_cons, List.map_nil]
      exact DatAll.mono (fun q hq => .tail _ hq) ((DatAll.append (DatAll.append (DatAll.mono S7' d7) (.one (DatIn.mono S7' hx1))) d10))
end Mine

namespace Mine
set_option maxRecDepth 100000
set_option maxHeartbeats 100000000


def replF : Str → List Str → Str
  | t, a :: b :: r => replF (Txt.join b (Txt.split t a)) r
  | t, _ => t
def okF : Str → List Str → Prop
  | t, a :: b :: r => t.length ≤ 100000 ∧ b.length ≤ 100 ∧ a.length ≠ 0 ∧ okF (Txt.join b (Txt.split t a)) r
  | _, [] => True
  | _, [_] => False

abbrev tupOf (vs : List Value) : Obj := { cls := .type "tuple", data := .seq vs.toArray }

theorem isTup_of {h₀ h : Heap} {L a : Addr} {news : List (Addr × Obj)} {vs : List Value} (N : News h₀ L h news) (hm : (a, tupOf vs) ∈ news) : IsTup h a vs.toArray :=
  ⟨_, (N _ hm).1, rfl, _, rfl⟩

theorem dropTup_led {prog : Program} {w : World} {A : Around} {E : Value → Shared → Prop} {s : Shared} {h₀ : Heap} {L l : Addr} {m : Str → Option Value} {news : List (Addr × Obj)} {value slice : PySem.Expr} {v1 v2 : Value} {vs : List Value} {tk : Tok} {Q : Value → Shared → Prop}
    (F : Fr h₀ L s.heap m) (N : News h₀ L s.heap news) (hm : (l, tupOf (v1 :: v2 :: vs)) ∈ news) (hz : vs.length ≤ 900)
    (h : ∀ D h', Fr h₀ L h' m → News h₀ L h' ((D, tupOf vs) :: news) → (∀ p ∈ news, p.1 < D) → Q (.ref D) { s with heap := h' })
    (hs : subscripted slice false (.ref l) (.ref s.heap.objs.size) = operate [.ref s.heap.objs.size, .ref l] (getItem (.ref l) (.ref s.heap.objs.size))) (ht : ∀ r, letTemporaryGo value (.ref l) r = pure ()) :
    wpAny (model prog w) A (subscriptTail value slice (.ref l) (.ref s.heap.objs.size)) Q E { s with heap := s.heap.push { cls := .type "slice", data := .fields #[.int 2 tk, .none, .none] } } := by
  refine slice_tuple_from (a := 2) F N (isTup_of N hm) (by omega) (by simp) (fun h' F' N' => h _ h' F' ?_ fun p hp => Nat.lt_succ_of_lt (Heap.lt_size (N p hp).1)) hs ht (by rw [sizeLine_eq]; simp; omega)
  simpa using N'

theorem bind_rest {M : Model} {A : Around} {E : Value → Shared → Prop} {s : Shared} {name qual : Str} {a1 va : PySem.Arg} {body : List Stmt} {scope : Scope} {doc pm cdv ct : Value} {an : Option Addr} {v : Value} {vs : List Value} {Q : List (Str × Value) → Shared → Prop}
    (hz : vs.length ≤ 1000) (hq : Q [(a1.arg, v), (va.arg, .ref s.heap.objs.size)] { s with heap := s.heap.push (tupOf vs) }) :
    wpAny M A (bindArgs (fnOf name qual { posonlyargs := [], args := [a1], vararg := some va, kwonlyargs := [], kw_defaults := [], kwarg := none, defaults := [] } body scope .none .none doc pm an cdv ct) ⟨v :: vs, []⟩) Q E s := by
  unfold bindArgs
  simp only [fnOf, fnX, List.map_nil, List.map_cons, List.nil_append, List.zip_cons_cons, List.zip_nil_left, List.forIn_nil, pure_bind, Option.isNone_some, Bool.and_false, Bool.false_eq_true, if_false]
  rw [show seqItems? Value.none = pure none from rfl]
  simp only [pure_bind, Option.getD_none, List.length_cons, List.length_nil, Nat.zero_add, List.drop_nil, Nat.sub_zero, List.take_succ_cons, List.take_zero, List.take_nil, List.filter_cons, List.filter_nil, List.lookup_cons, beq_self_eq_true, Option.isNone_some, Bool.false_eq_true, if_false, List.isEmpty_nil, Bool.not_true, List.drop_succ_cons, List.drop_zero, List.zip_nil_right, List.forIn_nil, List.append_nil, List.filterMap_cons, List.filterMap_nil, Option.map_some, List.cons_append, List.nil_append]
  refine wpAny_bind (m := newTuple vs) (wpAny_newObj_type (wpAny_pure hq) ?_)
  show vs.toArray.size ≤ sizeLine
  rw [sizeLine_eq, List.size_toArray]; omega

theorem enter_rest {prog : Program} {w : World} {A A₀ : Around} {s : Shared} {K : Frag} {L : Addr} {h₀ base : Heap} {m mg mb : Str → Option Value} {news : List (Addr × Obj)} {p : Program} {loose : List Str} {mean : ExcName → Option Value}
    {env : Env} {outer : List Env} {R : Result → Shared → Prop} {name qual : Str} {a1 va : PySem.Arg} {body : List Stmt} {scope : Scope} {doc pm cdv ct oc : Value} {an od : Option Addr} {osl : Array (Option Value)} {f : Addr} {v : Value} {vs : List Value}
    (B : Below A₀ base outer h₀) (F : Fr h₀ L s.heap m) (X₀ : K.In h₀) (N : News h₀ L s.heap news) (T : Top p loose mean mg mb h₀) (hA : A.frames = some (env :: outer)) (hf : env.frame = some L) (hke : env.scope.kind = .function)
    (ho : K.lookup f = some ⟨oc, od, .func (fnOf name qual { posonlyargs := [], args := [a1], vararg := some va, kwonlyargs := [], kw_defaults := [], kwarg := none, defaults := [] } body scope .none .none doc pm an cdv ct), osl⟩) (hcd : codeIn K cdv qual = true) (hroom : A.depth < recursionLimit) (hz : vs.length ≤ 1000)
    (hloc : ∀ D : Addr, ∀ y ∈ [(a1.arg, v), (va.arg, Value.ref D)], scope.names.lookup y.1 = some .local)
    (h : ∀ D g L' h₁, (∀ p ∈ news, p.1 < D) → Fr h₀ L g m → Fr g L' h₁ (fun y => [(a1.arg, v), (va.arg, Value.ref D)].reverse.lookup y) → News g L' h₁ ((D, tupOf vs) :: news) → Below A base (env :: outer) g → K.In g → Top p loose mean mg mb g →
      wpAny (model prog w) (A.deeper (envOf qual scope L' f cdv)) (execs body (envOf qual scope L' f cdv))
        (fun fl s' => LeaveK h₀ L m g R (match fl with | .ret v => v | _ => .none) s')
        (fun e s' => wpAny (model prog w) (A.deeper (envOf qual scope L' f cdv)) (leaving (envOf qual scope L' f cdv) e) (fun _ s'' => R (.error e) s'') (fun e' s'' => R (.error e') s'') s')
        { s with heap := h₁, toks := s.toks + 2 })
    (hco : scope.isCoroutine = false) (hgen : scope.isGenerator = false) (hk : scope.kind = .function)
    (hcell : ∀ x ∈ scope.names, x.2 ≠ .cell) : codeAny (model prog w) A (.call (.ref f) ⟨v :: vs, []⟩) R s := by
  refine codeAny_call_function (fd := fnOf name qual { posonlyargs := [], args := [a1], vararg := some va, kwonlyargs := [], kw_defaults := [], kwarg := none, defaults := [] } body scope .none .none doc pm an cdv ct) (body := body) hroom ((X₀.keeps F.keep) _ _ ho) rfl hco hgen rfl (codeRec_of (X₀.keeps F.keep) hcd) ?_
  refine bind_rest hz ?_
  exact kp_frame (cl := []) (s := { s with heap := s.heap.push (tupOf vs) }) B (F.push (tupOf vs)) (N.push F (tupOf vs)) T.nolimit hA hf hke (hloc s.heap.objs.size) (fun g L' h₁ FG FL NG BG st => h s.heap.objs.size g L' h₁ (fun p hp => Heap.lt_size (N p hp).1) FG FL NG BG (X₀.keeps st) (T.keeps st)) hcell hk

local macro_rules | `(tactic| walk_at "mem") => `(tactic| first | exact List.mem_cons_self | ktr_member | (refine List.mem_cons_of_mem _ ?_; walk_at "mem") | (ktn_app; first | (refine List.mem_append.mpr (Or.inl ?_); walk_at "mem") | (refine List.mem_append.mpr (Or.inr ?_); walk_at "mem")))
local macro_rules | `(tactic| k_mem) => `(tactic| walk_at "mem")
local macro_rules | `(tactic| walk_at "call builtin:str.split") => `(tactic| refine stop_of ?_)
local macro_rules | `(tactic| walk_at "call builtin:str.join") => `(tactic| refine stop_of ?_)
local macro_rules | `(tactic| walk_at "exec While Name cons nil") => `(tactic| refine stop_of ?_)
local macro_rules | `(tactic| walk_at "subscriptTail Name Slice ref ref") => `(tactic| refine stop_of ?_)
local macro_rules | `(tactic| walk_at "truthy ref") => `(tactic| refine stop_of ?_)
theorem itemTup_led {prog : Program} {w : World} {A : Around} {E : Value → Shared → Prop} {s : Shared} {h₀ : Heap} {L l : Addr} {news : List (Addr × Obj)} {value slice : PySem.Expr} {vs : List Value} {k : Int} {u : Tok} {v : Value} {Q : Value → Shared → Prop}
    (N : News h₀ L s.heap news) (hm : (l, tupOf vs) ∈ news) (h0 : 0 ≤ k) (hhi : k < 2 ^ 63) (hx : vs[k.toNat]? = some v) (h : Q v s)
    (hs : subscripted slice false (.ref l) (.int k u) = operate [.ref l, .int k u] (getItem (.ref l) (.int k u))) :
    wpAny (model prog w) A (subscriptTail value slice (.ref l) (.int k u)) Q E s := by
  have hlt := (List.getElem?_eq_some_iff.mp hx).1
  exact item_tupleT (isTup_of N hm) (by omega) hhi (StrLaws.seqIndex_nonneg h0 (by omega)) hx h hs

theorem split_sizes {x y : Str} (hy : y.length ≠ 0) : ((Txt.split x y).map (·.length)).sum ≤ x.length ∧ (Txt.split x y).length ≤ x.length + 1 := by
  have e := congrArg Str.length (StrLaws.join_split x y)
  rw [← StrLaws.glued_eq_join] at e
  have e2 := PySem.size_glued y (Txt.split x y)
  rw [e] at e2
  have h : (Txt.split x y).length - 1 ≤ ((Txt.split x y).length - 1) * y.length := Nat.le_mul_of_pos_right _ (Nat.pos_of_ne_zero hy)
  omega

local macro_rules | `(tactic| walk_at "subscriptTail") => `(tactic| (k_here; (with_reducible show wpAny _ _ (subscriptTail _ _ (Value.ref _) (Value.int _ _)) _ _ _); k_dflt (refine' itemTup_led ?N ?m ?a ?b ?x ?_ ?s; (case N => k_asm); (case m => k_mem); (case a => decide); (case b => decide); (case x => rfl); (case s => with_unfolding_all rfl); k_whole)))

theorem repl_spec (w : World) (text : Str) (tk : Tok) (vs : List Value) (xs : List Str) (ha : StrsAre vs xs) (hok : okF text xs) (hlen : xs.length ≤ 900) :
    Spec w 21 (.str text tk :: vs) (fun _ => True) (fun _ r => ∃ tk', r = .str (replF text xs) tk') 3 := by
  w_top off
  intro p loose mean mg mb dp un gd cn cs a ccd cl outer A₀ base h₀ L m news s Q E B F X N T hk _ hd hu hret
  refine wpAny_call ?_
  have hvl : vs.length ≤ 900 := by rw [ha.length]; exact hlen
  k_dflt (refine' enter_rest ?k1 ?k2 ?k3 ?k4 ?k5 ?kA ?kF ?kK ?k6 ?k7 ?k8 ?kz ?kB ?_ ?c2 ?c3 ?c4 ?c5; (case kA => exact rfl); (case kF => exact rfl); (case kK => assumption); (case k1 => k_asm); (case k2 => k_asm); (case k3 => k_asm); (case k4 => k_asm); (case k5 => k_asm); (case k6 => k_is); (case k7 => k_is); (case k8 => ktr_room); (case kz => omega); (case kB => exact fun _ => locs rfl); (case c5 => decide); (case c2 => exact rfl); (case c3 => exact rfl); (case c4 => exact rfl))
  intro D1 g1 L1 h1 lt1 FG1 F1 N1 B1 X1 T1
  (try dsimp only)
  k_fold
  k_steps
  unfold Stop
  refine' While_inv2 (fun n m nx => ∃ (D : Addr) (t : Str) (tk : Tok) (us : List Value) (ys : List Str), nx = (D, tupOf us) :: news ∧ StrsAre us ys ∧ n = ys.length ∧ ys.length ≤ 900 ∧ okF t ys ∧ replF t ys = replF text xs ∧ m (Str.ofString "text") = some (.str t tk) ∧ m (Str.ofString "pairs") = some (.ref D)) F1 N1 ⟨D1, text, _, vs, xs, rfl, ha, rfl, hlen, hok, rfl, by with_unfolding_all rfl, by with_unfolding_all rfl⟩ ?turn
  clear F1 N1
  rintro n m₁ nx h2 tk2 F2 N2 ⟨D, t, tkt, us, ys, rfl, hus, rfl, hyl, hoky, hrep, e1, e2⟩
  replace F2 := fr_namesOut [(Str.ofString "text", .str t tkt), (Str.ofString "pairs", .ref D)] (by simp [e1, e2]) F2
  (try dsimp only [kstB] at F2)
  match ys, hus, hyl, hoky, hrep with
  | [], .nil, _, _, hrep =>
    k_steps
    unfold Stop
    refine ktl_truthyK (vs := []) N2 (.head _) (by simp) ?_
    dsimp only [List.isEmpty_nil, Bool.not_true]
    k_steps
    (rename Fr h₀ _ _ _ => kF); (rename News h₀ _ _ _ => kN)
    exact hret _ news _ _ kF (fun q hq => kN q (.tail _ hq)) (fun _ h => h) ⟨_, by rw [← hrep]; rfl⟩
  | [_], _, _, hoky, _ => exact hoky.elim
  | a :: b :: r, .cons _ ta (.cons _ tb hus), hyl, hoky, hrep =>
    rename_i us
    have hul := hus.length
    simp only [List.length_cons] at hyl
    k_steps
    unfold Stop
    refine ktl_truthyK (vs := .str a ta :: .str b tb :: us) N2 (.head _) (by simp only [List.length_cons]; omega) ?_
    dsimp only [List.isEmpty_cons, Bool.not_false]
    k_steps
    unfold Stop
    obtain ⟨o1, o2, o3, hoky'⟩ := hoky
    (rename Fr g1 _ _ _ => F3); (rename News g1 _ _ _ => N3)
    refine KSpl.split1 F3 N3 (by simpa using o3) ?_ (by rw [sizeLine_eq]; omega)
    intro D4 l4 h4 k4 e4 a4 F4 N4 lt4
    clear F3
    rw [e4] at a4
    k_steps
    unfold Stop
    obtain ⟨q1, q2⟩ := split_sizes (x := t) o3
    have q3 : (Txt.split t a).length * b.length ≤ 100001 * 100 := Nat.mul_le_mul (by omega) o2
    refine join_list (ys := Txt.split t a) (isList_of N4 (.head _)) a4 (by omega) ?_
    intro t5 k5
    (try dsimp only)
    k_steps
    unfold Stop
    rename_i F6 N6
    refine dropTup_led (v1 := .str a ta) (v2 := .str b tb) (vs := us) F6 N6 (.tail _ (.head _)) (by omega) ?_ (by with_unfolding_all rfl) (by kmk_pure)
    intro D7 h7 F7 N7 lt7
    clear F6
    (try dsimp only)
    k_steps
    (rename Fr g1 _ _ _ => F8); (rename News g1 _ _ _ => N8)
    refine ⟨_, _, _, (D7, tupOf us) :: news, r.length, rfl, F8, fun q hq => N8 q ?_, Nat.lt_succ_of_lt (Nat.lt_succ_self _), D7, _, t5, us, r, rfl, hus, rfl, by omega, hoky', hrep, by with_unfolding_all rfl, by with_unfolding_all rfl⟩
    exact (List.mem_cons.mp hq).elim (fun e => e ▸ .head _) fun h => .tail _ (.tail _ (.tail _ h))
end Mine

namespace Mine
set_option maxRecDepth 100000
set_option maxHeartbeats 100000000


local macro_rules | `(tactic| walk_at "enter cells") => `(tactic| (refine' code_defC ?k1 ?k2 ?k3 ?k4 ?k5 ?kA ?kF ?kK ?k6 ?k7 ?k8 ?k9 ?kB ?kD ?_ ?c2 ?c3 ?c4; (case kA => exact rfl); (case kF => exact rfl); (case kK => assumption); (case k1 => k_asm); (case k2 => k_asm); (case k3 => k_asm); (case k4 => k_asm); (case k5 => k_asm); (case k6 => k_is); (case k7 => k_is); (case k8 => ktr_room); (case k9 => exact BindsTo.of_eq rfl); (case kB => exact rfl); (case kD => decide +kernel); (case c2 => exact rfl); (case c3 => exact rfl); (case c4 => exact rfl); k_whole; intro g' L' h' tk' cells' FG' F' N' Y' B' X' T' l1; (try k_lt l1); k_cells Y'; (try simp only [List.cons_append, List.nil_append] at N'); (try dsimp only); (try k_fold)))
local macro_rules | `(tactic| walk_at "mem") => `(tactic| first | exact List.mem_cons_self | ktr_member | (refine List.mem_cons_of_mem _ ?_; walk_at "mem") | (ktn_app; first | (refine List.mem_append.mpr (Or.inl ?_); walk_at "mem") | (refine List.mem_append.mpr (Or.inr ?_); walk_at "mem")))
local macro_rules | `(tactic| k_mem) => `(tactic| walk_at "mem")
local macro_rules | `(tactic| k_all) => `(tactic| first | assumption | (refine off_all (by assumption) ?_; omega))
local macro_rules | `(tactic| walk_at "CompSrcT") => `(tactic| refine stop_of ?_)
local macro_rules | `(tactic| walk_at "exec For Name Call cons nil") => `(tactic| refine stop_of ?_)

local macro_rules | `(tactic| walk_at "pyIter ref") => `(tactic| refine stop_of ?_)

local macro_rules | `(tactic| walk_at "CompEnd") => `(tactic| refine stop_of ?_)
local macro_rules | `(tactic| walk_at "subscriptTail") => `(tactic| (k_here; (with_reducible show wpAny _ _ (subscriptTail _ _ (Value.ref _) (Value.int _ _)) _ _ _); k_dflt (refine' itemInt_led ?N ?m ?i ?a ?b ?z ?_ ?s; (case N => k_asm); (case m => k_mem); (case i => assumption); (case a => omega); (case b => omega); (case z => omega); (case s => with_unfolding_all rfl); k_whole); intro t'))

local macro_rules | `(tactic| walk_at "truthy ref") => `(tactic| refine stop_of ?_)
local macro_rules | `(tactic| walk_at "call builtin:list.append") => `(tactic| refine stop_of ?_)
local macro_rules | `(tactic| walk_at "call builtin:min") => `(tactic| refine stop_of ?_)
local macro_rules | `(tactic| walk_at "call builtin:sum") => `(tactic| refine stop_of ?_)

/-- one cost more -/
def costStep (l : List Int) (mask : Int) (acc : List Int) (k : Int) : List Int :=
  if Builtin.bitAnd k mask = k then acc ++ [l.getD k.toNat 0 + l.getD (mask - k).toNat 0] else acc
def sumStep (ws : List Int) (mask : Int) (acc : List Int) (k : Int) : List Int :=
  if Builtin.bitAnd (Int.fdiv mask (2 ^ k.toNat)) 1 = 1 then acc ++ [ws.getD k.toNat 0] else acc
def costsOf (l : List Int) (mask : Int) (n : Nat) : List Int := (rangeKs 1 n).foldl (costStep l mask) []
def minOf : List Int → Int
  | [] => 0
  | [a] => a
  | a :: b :: r => min a (minOf (b :: r))
theorem minOf_mem : ∀ {l : List Int}, l ≠ [] → minOf l ∈ l
  | [], h => absurd rfl h
  | [a], _ => .head _
  | a :: b :: r, _ => by
    have ih := minOf_mem (l := b :: r) (by simp)
    rw [minOf]
    rcases Int.le_total a (minOf (b :: r)) with h | h
    · rw [Int.min_eq_left h]; exact .head _
    · rw [Int.min_eq_right h]; exact .tail _ ih
theorem minOf_le : ∀ {l : List Int} {a : Int}, a ∈ l → minOf l ≤ a
  | [], _, h => nomatch h
  | [b], a, h => by rw [List.mem_singleton.mp h]; exact Int.le_refl _
  | b :: c :: r, a, h => by
    rw [minOf]
    rcases List.mem_cons.mp h with rfl | h
    · exact Int.min_le_left _ _
    · exact Int.le_trans (Int.min_le_right _ _) (minOf_le h)
theorem minOf_eq {l : List Int} {M : Int} (h : M ∈ l) (h2 : ∀ a, a ∈ l → M ≤ a) : M = minOf l :=
  Int.le_antisymm (h2 _ (minOf_mem (fun e => by rw [e] at h; exact nomatch h))) (minOf_le h)
def sumsOf (ws : List Int) (mask : Int) : List Int := (rangeKs 0 5).foldl (sumStep ws mask) []
def nextL (ws : List Int) (l : List Int) (i : Nat) : List Int :=
  l ++ [if costsOf l (1 + (i : Int)) ((i + 1) / 2) = [] then 0 else minOf (costsOf l (1 + (i : Int)) ((i + 1) / 2)) + (sumsOf ws (1 + (i : Int))).sum]
def leastR (ws : List Int) : Nat → List Int
  | 0 => [0]
  | i + 1 => nextL ws (leastR ws i) i
theorem leastX : ∃ f : List Int → Nat → List Int, ∀ ws i, f ws i = leastR ws i := ⟨leastR, fun _ _ => rfl⟩
/-- the table, shut to the unifier -/
noncomputable def leastL : List Int → Nat → List Int := Classical.choose leastX
theorem leastL_eq (ws : List Int) (i : Nat) : leastL ws i = leastR ws i := Classical.choose_spec leastX ws i
theorem leastL_zero (ws : List Int) : leastL ws 0 = [0] := leastL_eq ws 0
theorem leastL_succ (ws : List Int) (i : Nat) : leastL ws (i + 1) = leastL ws i ++ [if costsOf (leastL ws i) (1 + (i : Int)) ((i + 1) / 2) = [] then 0 else minOf (costsOf (leastL ws i) (1 + (i : Int)) ((i + 1) / 2)) + (sumsOf ws (1 + (i : Int))).sum] := by
  rw [leastL_eq, leastL_eq]
  show nextL ws (leastR ws i) i = _
  rw [nextL]
theorem leastL_length (ws : List Int) : ∀ i, (leastL ws i).length = i + 1
  | 0 => by rw [leastL_zero]; rfl
  | i + 1 => by rw [leastL_succ, List.length_append, leastL_length ws i]; rfl

theorem least_spec (w : World) (w0 w1 w2 w3 w4 : Int) (t0 t1 t2 t3 t4 : Tok) (wl : Addr) (n : Nat) :
    Spec w 47 [.ref wl] (fun news => (wl, listOf [.int w0 t0, .int w1 t1, .int w2 t2, .int w3 t3, .int w4 t4].toArray n) ∈ news) (fun _ r => ∃ tk : Tok, r = .int ((leastL [w0, w1, w2, w3, w4] 31).getD 31 0) tk) 3 := by
  w_top off
  intro p loose mean mg mb dp un gd cn cs a ccd cl outer A₀ base h₀ L m news s Q E B F X N T hkk hv hd hu hret
  refine wpAny_call ?_
  k_dflt (walk_at "enter cells")
  have hC := codeHd_of X
  have hW : IntsAre [.int w0 t0, .int w1 t1, .int w2 t2, .int w3 t3, .int w4 t4] [w0, w1, w2, w3, w4] := .cons _ _ (.cons _ _ (.cons _ _ (.cons _ _ (.cons _ _ .nil))))
  have hWl : [w0, w1, w2, w3, w4].length = 5 := rfl
  k_steps
  unfold Stop
  refine wpAny_For ?_ (by intro _; rfl)
  k_steps
  unfold Stop
  rename_i g1 L1 _ tk0 FG1 B1 X1 T1 lt0 o1 o2 o3 d1 d2 d3 la _ lt1 _ oL F0 N0 dL h5 tk5 _ _ _ hR F5 N5 hk5
  replace d3 : o3.data = .cell (some (.ref wl)) := d3
  have hN5 : News g1 L1 h5 ((la, listOf [Value.int 0 tk0].toArray 0) :: (L1 + 1 + 1 + 1, o1) :: (L1 + 1 + 1, oL) :: (L1 + 1, o3) :: news) := N5
  have off1 : ∀ p ∈ news, p.1 ≠ L1 + 1 + 1 + 1 := off_all lt0 (by omega)
  refine' for_range (n := 31) (h₀ := g1) (by rfl) hR (by decide) (by rfl) (fun i _ nx => ∃ (oM : Obj) (vm : Option Value) (lv : List Value) (c : Nat), nx = (la, listOf lv.toArray c) :: (L1 + 1 + 1 + 1, oM) :: (L1 + 1 + 1, oL) :: (L1 + 1, o3) :: news ∧ oM.data = .cell vm ∧ IntsAre lv (leastL [w0, w1, w2, w3, w4] i))
    F5 hN5 ⟨o1, _, _, _, rfl, d1, by rw [leastL_zero]; exact .cons 0 tk0 .nil⟩ ?turn ?done ?ht ?hE
  case ht => intro _ _; rfl
  case hE => passes_own
  case turn =>
    clear N0 N5 hN5 F0 F5 hR hk5
    rintro i t m₁ nx h tk own I hi ⟨oM, vm, lv, c, rfl, hM, hL⟩ hown hoff F₁ N₁
    have offM : ∀ p ∈ news ++ own, p.1 ≠ L1 + 1 + 1 + 1 := by
      intro p hp
      rcases List.mem_append.mp hp with hp | hp
      · exact off1 p hp
      · rw [hown p hp]; exact fun e => hoff _ (.tail _ (.head _)) e.symm
    have N₂ : News g1 L1 h ((la, listOf lv.toArray c) :: (L1 + 1 + 1 + 1, oM) :: (L1 + 1 + 1, oL) :: (L1 + 1, o3) :: (news ++ own)) := fun q hq => N₁ q (by
      simp only [List.mem_cons, List.mem_append] at hq ⊢
      rcases hq with h | h | h | h | h | h <;> simp [h])
    clear N₁
    k_steps
    unfold Stop
    rename_i h6 oM' F6 N6 dM h7 tk7 _ _ _ hR7 F7 N7 hk7
    have hfd : Int.fdiv (1 + (i : Int)) 2 = (((i + 1) / 2 : Nat) : Int) := by rw [Int.fdiv_eq_ediv_of_nonneg _ (by decide)]; omega
    generalize hnn : (i + 1) / 2 = nn at hfd
    have hnb : nn ≤ 15 := by omega
    rw [hfd] at hR7
    have hll := leastL_length [w0, w1, w2, w3, w4] i
    refine LCt.CompSrcT.range (n := nn) (by rfl) F7 N7 hR7 (small_one (by omega) (by omega) (by omega) (by omega)) (by rw [rangeSize_nat]; omega) (by rw [sizeLine_eq]; omega) ?_
    clear F6 N6 F₁ hk7 hR7
    intro g8
    refine kci_range (fun acc k => costStep (leastL [w0, w1, w2, w3, w4] i) (1 + (i : Int)) acc k) ?_ ?_ ?_
    · intro k t I oI C oC D m₂ ys l h tk E' hlo hhi hI hC hx F N off ne hMark
      have hk2 : k ≤ (i : Int) := by omega
      (try dsimp only)
      k_steps
      all_goals (unfold Stop)
      · (rename Builtin.bitAnd k _ = k => hbit)
        exact LCg.CompEnd.intro F N _ (fun _ h => h) off trivial ⟨rfl, _, _, rfl, by rw [costStep, if_pos hbit]⟩
      · (rename Builtin.bitAnd k _ ≠ k => hbit)
        exact LCg.CompEnd.intro F N _ (fun _ h => h) off trivial ⟨rfl, by rw [costStep, if_neg hbit]⟩
    · unfold KPfDone
      intro ys hI hys
      intro D h tk F N off
      (try dsimp only)
      have hI2 : IntsAre ys (costsOf (leastL [w0, w1, w2, w3, w4] i) (1 + (i : Int)) nn) := hI
      generalize hcs : costsOf (leastL [w0, w1, w2, w3, w4] i) (1 + (i : Int)) nn = cs at hI2
      clear hI
      have offA : ∀ p ∈ (L1 + 1 + 1 + 1, oM') :: (L1 + 1 + 1, oL) :: (L1 + 1, o3) :: (news ++ own), p.1 ≠ la := by
        intro p hp
        rcases List.mem_cons.mp hp with rfl | hp
        · exact Nat.ne_of_lt lt1.1
        · rcases List.mem_cons.mp hp with rfl | hp
          · exact Nat.ne_of_lt lt1.2.1
          · rcases List.mem_cons.mp hp with rfl | hp
            · exact Nat.ne_of_lt lt1.2.2.1
            · rcases List.mem_append.mp hp with hp | hp
              · exact Nat.ne_of_lt (ktn_ltOf lt1.2.2.2 p hp)
              · rw [hown p hp]; exact fun e => hoff _ (.head _) e.symm
      have sub9 : ∀ (x : List Value) (k : Nat), ∀ q ∈ own ++ (la, listOf x.toArray k) :: (L1 + 1 + 1 + 1, oM') :: (L1 + 1 + 1, oL) :: (L1 + 1, o3) :: news, q ∈ (la, listOf x.toArray k) :: (L1 + 1 + 1 + 1, oM') :: (L1 + 1 + 1, oL) :: (L1 + 1, o3) :: (news ++ own) := by
        intro x k q hq
        simp only [List.mem_cons, List.mem_append] at hq ⊢
        rcases hq with h | h | h | h | h | h <;> simp [h]
      have offI : ∀ (x : List Value) (k : Nat), ∀ p ∈ (la, listOf x.toArray k) :: (L1 + 1 + 1 + 1, oM') :: (L1 + 1 + 1, oL) :: (L1 + 1, o3) :: news, p.1 ∉ [I] := by
        intro x k p hp hI
        have hI := List.mem_singleton.mp hI
        rcases List.mem_cons.mp hp with rfl | hp
        · exact hoff _ (.head _) hI
        · rcases List.mem_cons.mp hp with rfl | hp
          · exact hoff _ (.tail _ (.head _)) hI
          · exact hoff _ (.tail _ (.tail _ hp)) hI
      k_steps
      unfold Stop
      refine truthy_led N (.head _) (by omega) ?_
      cases ys with
      | nil =>
        cases hI2
        dsimp only [List.isEmpty_nil, Bool.not_true]
        k_steps
        unfold Stop
        refine append_own F N (.tail _ (.head _)) (fun q hq => .tail _ (.tail _ hq)) offA ?_ ?_
        · intro h9 F9 N9
          k_steps
          refine ForEnd.intro _ F9 N9 (sub9 _ _) (offI _ _) (fun _ h => nomatch h) ⟨oM', _, _, _, rfl, dM, ?_⟩
          rw [leastL_succ, hnn, hcs, if_pos rfl]
          exact IntsAre.append hL (.cons 0 _ .nil)
        · rw [hL.length, hll, sizeLine_eq]; omega
      | cons y ys =>
        dsimp only [List.isEmpty_cons, Bool.not_false]
        k_steps
        unfold Stop
        refine min_list_N (by rfl) F N (isList_of N (.head _)) hI2 (by rw [← hI2.length]; exact Nat.succ_pos _) ?_
        intro h9 M tM tk9 F9 N9 hMm hMl
        k_steps
        unfold Stop
        rename_i h10 tk10 _ _ _ hR10 F10 N10 hk10
        clear hk10
        refine LCt.CompSrcT.range (n := 5) (by rfl) F10 N10 hR10 (by decide) (by rfl) (by rw [sizeLine_eq]; omega) ?_
        intro g11
        clear hR10 F10 N10
        refine kci_range (fun acc k => sumStep [w0, w1, w2, w3, w4] (1 + (i : Int)) acc k) ?_ ?_ ?_
        · intro k t I oI C oC D m₂ ys l h tk E' hlo hhi hI hC hx F N off ne hMark
          (try dsimp only)
          k_steps
          all_goals (unfold Stop)
          · (rename Builtin.bitAnd _ 1 = 1 => hbit)
            exact LCg.CompEnd.intro F N _ (fun _ h => h) off trivial ⟨rfl, _, _, rfl, by rw [sumStep, if_pos hbit]⟩
          · (rename Builtin.bitAnd _ 1 ≠ 1 => hbit)
            exact LCg.CompEnd.intro F N _ (fun _ h => h) off trivial ⟨rfl, by rw [sumStep, if_neg hbit]⟩
        · unfold KPfDone
          intro zs hZ hzs
          intro D h tk F N off
          (try dsimp only)
          k_steps
          unfold Stop
          refine sumK (by rfl) F N (isList_of N (.head _)) hZ ?_
          intro h12 tk12 t12 F12 N12
          (try dsimp only)
          k_steps
          unfold Stop
          refine append_own F12 N12 (.tail _ (.tail _ (.head _))) (fun q hq => .tail _ (.tail _ (.tail _ hq))) offA ?_ ?_
          · intro h13 F13 N13
            k_steps
            refine ForEnd.intro _ F13 N13 (sub9 _ _) (offI _ _) (fun _ h => nomatch h) ⟨oM', _, _, _, rfl, dM, ?_⟩
            rw [leastL_succ, hnn, hcs, if_neg (fun e => by rw [e] at hMm; exact nomatch hMm), ← minOf_eq hMm hMl]
            exact IntsAre.append hL (.cons _ _ .nil)
          · rw [hL.length, hll, sizeLine_eq]; omega
        · intro l n
          simp only [sumStep]
          split <;> simp
    · intro l n
      simp only [costStep]
      split <;> simp
  case done =>
    rintro h' tk' m' nx F' N' ⟨oM, vm, lv, c, rfl, hM, hL⟩
    (try dsimp only)
    have hll := leastL_length [w0, w1, w2, w3, w4] 31
    generalize leastL [w0, w1, w2, w3, w4] 31 = ll at hL hll hret
    k_steps
    (rename Fr h₀ _ _ _ => kF); (rename News h₀ _ _ _ => kN)
    refine hret _ news _ _ kF (fun q hq => kN q (.tail _ (.tail _ (.tail _ (.tail _ hq))))) (fun _ h => h) ⟨_, congrArg (fun n : Nat => Value.int (ll.getD (-1 + (n : Int)).toNat 0) _) hll⟩
end Mine

namespace Mine
set_option maxRecDepth 100000
set_option maxHeartbeats 100000000

def start (sp : Str) : List (Int × Tree) := (List.range 5).map fun j => (Txt.count sp ⟨#[118 + j]⟩, .leaf ⟨#[118 + j]⟩)
def stepH (ns : List (Int × Tree)) : List (Int × Tree) :=
  match risenF ns.length ns with
  | a :: b :: r => r ++ [(a.1 + b.1, .node a.2 b.2)]
  | l => l
theorem stepH_eq {ns : List (Int × Tree)} {a b r} (h : risenF ns.length ns = a :: b :: r) : stepH ns = r ++ [(a.1 + b.1, .node a.2 b.2)] := by
  unfold stepH; rw [h]
def iterH (l : List (Int × Tree)) : Nat → List (Int × Tree)
  | 0 => l
  | j + 1 => stepH (iterH l j)

def thereL (ps : List (Str × Str)) : List Str := ps.flatMap fun p => [p.1, p.2]
def backL (ps : List (Str × Str)) : List Str := ps.flatMap fun p => [Str.ofString "|" ++ p.2, p.1 ++ Str.ofString "|"]
theorem thereL_len (ps : List (Str × Str)) : (thereL ps).length = 2 * ps.length := by
  induction ps with
  | nil => rfl
  | cons p ps ih =>
    show (thereL ps).length + 1 + 1 = _
    rw [ih, List.length_cons]; omega
theorem backL_len (ps : List (Str × Str)) : (backL ps).length = 2 * ps.length := by
  induction ps with
  | nil => rfl
  | cons p ps ih =>
    show (backL ps).length + 1 + 1 = _
    rw [ih, List.length_cons]; omega
theorem thereL_snoc (ps : List (Str × Str)) (i : Nat) (hi : i < ps.length) : thereL (ps.take (i + 1)) = thereL (ps.take i) ++ [ps[i].1, ps[i].2] := by
  unfold thereL
  rw [List.take_add_one, List.getElem?_eq_getElem hi, List.flatMap_append]; rfl
theorem backL_snoc (ps : List (Str × Str)) (i : Nat) (hi : i < ps.length) : backL (ps.take (i + 1)) = backL (ps.take i) ++ [Str.ofString "|" ++ ps[i].2, ps[i].1 ++ Str.ofString "|"] := by
  unfold backL
  rw [List.take_add_one, List.getElem?_eq_getElem hi, List.flatMap_append]; rfl
end Mine

namespace Mine
set_option maxRecDepth 100000
set_option maxHeartbeats 100000000

theorem toL_append (a b : Str) : (a ++ b).cps.toList = a.cps.toList ++ b.cps.toList := by rw [Str.cps_append, Array.toList_append]
theorem toL_length (a : Str) : a.cps.toList.length = a.length := by simp [Str.length]
theorem toL_inj {a b : Str} (h : a.cps.toList = b.cps.toList) : a = b := Str.ext' (Array.toList_inj.mp h)
theorem tjoin_eq (b : Str) (ps : List Str) : Txt.join b ps = Str.join b ps := StrLaws.glued_eq_join _ _

/-- one sign's place taken by a text -/
def subst1 (c : Nat) (b : List Nat) (x : Nat) : List Nat := if x = c then b else [x]
theorem subst1_free {c : Nat} {b l : List Nat} (h : c ∉ l) : l.flatMap (subst1 c b) = l := by
  induction l with
  | nil => rfl
  | cons x r ih =>
    rw [List.flatMap_cons, ih fun q => h (.tail _ q), subst1, if_neg fun e : x = c => h (by rw [← e]; exact .head _)]
    rfl
theorem join_subst (b : Str) (c : Nat) : ∀ ps : List Str, (∀ p ∈ ps, c ∉ p.cps.toList) → (Str.join b ps).cps.toList = (Str.join ⟨#[c]⟩ ps).cps.toList.flatMap (subst1 c b.cps.toList)
  | [], _ => rfl
  | [p], h => (subst1_free (h p (.head _))).symm
  | p :: q :: r, h => by
    have ih := join_subst b c (q :: r) fun x hx => h x (.tail _ hx)
    show (p ++ b ++ Str.join b (q :: r)).cps.toList = (p ++ ⟨#[c]⟩ ++ Str.join ⟨#[c]⟩ (q :: r)).cps.toList.flatMap _
    rw [toL_append, toL_append, toL_append, toL_append, List.flatMap_append, List.flatMap_append, ih, subst1_free (h p (.head _))]
    show _ = p.cps.toList ++ [c].flatMap _ ++ _
    rw [List.flatMap_cons, List.flatMap_nil, List.append_nil, subst1, if_pos rfl]
theorem one_step (t b : Str) (c : Nat) : (Txt.join b (Txt.split t ⟨#[c]⟩)).cps.toList = t.cps.toList.flatMap (subst1 c b.cps.toList) := by
  rw [tjoin_eq, join_subst b c _ (StrLaws.split_free t c), StrLaws.join_split]

/-- how often the mark stands -/
theorem count_join (a : Str) (w : List Nat) (ha : a.cps.toList = 124 :: w) : ∀ ps : List Str, (Str.join a ps).cps.toList.count 124 ≥ ps.length - 1
  | [] => Nat.zero_le _
  | [_] => Nat.zero_le _
  | p :: q :: r => by
    have ih := count_join a w ha (q :: r)
    show (p ++ a ++ Str.join a (q :: r)).cps.toList.count 124 ≥ _
    rw [toL_append, toL_append, List.count_append, List.count_append, ha, List.count_cons_self]
    simp only [List.length_cons] at ih ⊢
    omega
theorem cut_eq {p q u v : List Nat} (hp : 124 ∉ p) (hu : 124 ∉ u) (h : p ++ 124 :: q = u ++ 124 :: v) : p = u ∧ q = v := by
  induction p generalizing u with
  | nil =>
    cases u with
    | nil => exact ⟨rfl, (List.cons.inj h).2⟩
    | cons y u => exact absurd (show (124 : Nat) ∈ y :: u by rw [← (List.cons.inj h).1]; exact .head _) hu
  | cons x p ih =>
    cases u with
    | nil => exact absurd (show (124 : Nat) ∈ x :: p by rw [(List.cons.inj h).1]; exact .head _) hp
    | cons y u =>
      obtain ⟨e1, e2⟩ := List.cons.inj h
      obtain ⟨k1, k2⟩ := ih (u := u) (fun q => hp (.tail _ q)) (fun q => hu (.tail _ q)) e2
      exact ⟨by rw [e1, k1], k2⟩
theorem split_ne (t a : Str) (k : Nat) (h1 : 1 ≤ a.length) (hs : ∀ c ∈ a.cps.toList, c < 256) (hA : StrLaws.At t a t.length k) : Txt.split t a ≠ [t] := by
  obtain ⟨f, hG, hn⟩ := StrLaws.occ_tight t a h1
  intro e
  unfold Txt.split at e
  have hk : Builtin.Str.strKind a = 1 := by
    unfold Builtin.Str.strKind
    rw [if_pos]
    rw [← Array.all_toList, List.all_eq_true]
    intro c hc
    exact decide_eq_true (hs c hc)
  have hk2 : 1 ≤ Builtin.Str.strKind t := by
    unfold Builtin.Str.strKind
    split
    · exact Nat.le_refl _
    · split <;> decide
  rw [if_neg (by
    rw [Bool.or_eq_true, decide_eq_true_eq, decide_eq_true_eq, hk]
    have := hA.1
    omega)] at e
  cases ho : Builtin.Str.occurrences t a 0 t.length (t.length + 1) with
  | nil =>
    rw [ho] at hG
    have ef : f = 0 := hG
    exact hn k (by omega) hA
  | cons c r =>
    rw [ho, if_neg (by simp)] at e
    rw [StrLaws.partsBetween_eq] at e
    obtain ⟨p, q, e2⟩ := StrLaws.partsFrom_ne t a.length (c + a.length) r
    have e3 : StrLaws.partsFrom t a.length 0 (c :: r) = Builtin.Str.strSub t 0 c :: StrLaws.partsFrom t a.length (c + a.length) r := rfl
    rw [e3, e2] at e
    exact absurd (congrArg List.length e) (by simp)

/-- a mark and a word, replaced in a text that bears one mark -/
theorem mark_step (t a b : Str) (pre rest w : List Nat) (ht : t.cps.toList = pre ++ 124 :: rest) (ha : a.cps.toList = 124 :: w) (h1 : 124 ∉ pre) (h2 : 124 ∉ rest) (hs : ∀ c ∈ w, c < 256) :
    (∃ q, rest = w ++ q ∧ (Txt.join b (Txt.split t a)).cps.toList = pre ++ b.cps.toList ++ q) ∨ ((∀ q, rest ≠ w ++ q) ∧ Txt.join b (Txt.split t a) = t) := by
  have hj := StrLaws.join_split t a
  have hal : a.length = w.length + 1 := by rw [← toL_length, ha]; rfl
  have hc1 : t.cps.toList.count 124 = 1 := by
    rw [ht, List.count_append, List.count_cons_self, List.count_eq_zero.mpr h1, List.count_eq_zero.mpr h2]
  have hc := count_join a w ha (Txt.split t a)
  rw [hj, hc1] at hc
  rw [tjoin_eq]
  cases hP : Txt.split t a with
  | nil =>
    rw [hP] at hj
    rw [← hj] at hc1
    cases hc1
  | cons p r =>
    rw [hP] at hj hc
    cases r with
    | nil =>
      refine .inr ⟨fun q hq => ?_, hj⟩
      have hp : p = t := hj
      rw [hp] at hP
      refine split_ne t a pre.length (by omega) ?_ ⟨?_, ?_⟩ hP
      · intro c hc
        rw [ha] at hc
        rcases List.mem_cons.mp hc with rfl | hc
        · decide
        · exact hs c hc
      · rw [hal, ← toL_length, ht, List.length_append, List.length_cons, hq, List.length_append]; omega
      · rw [StrLaws.subAt_eq, ht, ha, hq, hal]
        simp
    | cons q r =>
      cases r with
      | cons x r => simp only [List.length_cons] at hc; omega
      | nil =>
        have e : p.cps.toList ++ (124 :: w) ++ q.cps.toList = pre ++ 124 :: rest := by
          rw [← ht, ← hj]
          show _ = (p ++ a ++ q).cps.toList
          rw [toL_append, toL_append, ha]
        have ec : p.cps.toList.count 124 = 0 := by
          have := congrArg (List.count 124) e
          rw [← ht, hc1, List.count_append, List.count_append, List.count_cons_self] at this
          omega
        obtain ⟨k1, k2⟩ := cut_eq (List.count_eq_zero.mp ec) h1 (by rw [← e, List.append_assoc]; rfl : p.cps.toList ++ 124 :: (w ++ q.cps.toList) = pre ++ 124 :: rest)
        refine .inl ⟨q.cps.toList, k2.symm, ?_⟩
        show (p ++ b ++ q).cps.toList = _
        rw [toL_append, toL_append, k1]
end Mine

namespace Mine
set_option maxRecDepth 100000
set_option maxHeartbeats 100000000

def Tree.leaves : Tree → List Str
  | .leaf s => [s]
  | .node a b => a.leaves ++ b.leaves
def Tree.wt (f : Str → Int) : Tree → Int
  | .leaf s => f s
  | .node a b => a.wt f + b.wt f
def Tree.cost (f : Str → Int) : Tree → Int
  | .leaf _ => 0
  | .node a b => a.cost f + b.cost f + (a.wt f + b.wt f)
theorem leaves_pos : ∀ t : Tree, 1 ≤ t.leaves.length
  | .leaf _ => Nat.le_refl _
  | .node a b => by
    have := leaves_pos a
    rw [Tree.leaves, List.length_append]; omega
theorem size_leaves : ∀ t : Tree, t.size + 1 = 2 * t.leaves.length
  | .leaf _ => rfl
  | .node a b => by
    have h1 := size_leaves a
    have h2 := size_leaves b
    rw [Tree.size, Tree.leaves, List.length_append]; omega
theorem words_fst : ∀ (t : Tree) (x : Str), (t.words x).map (·.1) = t.leaves
  | .leaf _, _ => rfl
  | .node a b, x => by rw [Tree.words, List.map_append, words_fst a, words_fst b]; rfl
theorem dig0 : (Str.ofString "0").cps.toList = [48] := by decide +kernel
theorem dig1 : (Str.ofString "1").cps.toList = [49] := by decide +kernel
/-- a word begins with the way to its tree; behind it stand noughts and ones, fewer than the tree has places -/
theorem words_snd : ∀ (t : Tree) (x : Str), ∀ p ∈ t.words x, ∃ u : List Nat, p.2.cps.toList = x.cps.toList ++ u ∧ (∀ c ∈ u, c = 48 ∨ c = 49) ∧ u.length < t.size
  | .leaf s, x, p, h => by
    rw [List.mem_singleton.mp h]
    exact ⟨[], by simp, fun _ q => (nomatch q), Nat.zero_lt_one⟩
  | .node a b, x, p, h => by
    rcases List.mem_append.mp h with h | h
    · obtain ⟨u, e, k, l⟩ := words_snd a _ p h
      refine ⟨48 :: u, by rw [e, toL_append, dig0, List.append_assoc]; rfl, fun c hc => ?_, by simp only [List.length_cons, Tree.size]; omega⟩
      exact (List.mem_cons.mp hc).elim .inl (k c)
    · obtain ⟨u, e, k, l⟩ := words_snd b _ p h
      refine ⟨49 :: u, by rw [e, toL_append, dig1, List.append_assoc]; rfl, fun c hc => ?_, by simp only [List.length_cons, Tree.size]; omega⟩
      exact (List.mem_cons.mp hc).elim .inr (k c)
def Apart (p q : Str × Str) : Prop := ¬ p.2.cps.toList <+: q.2.cps.toList ∧ ¬ q.2.cps.toList <+: p.2.cps.toList
theorem Apart.symm {p q : Str × Str} (h : Apart p q) : Apart q p := ⟨h.2, h.1⟩
theorem words_apart : ∀ (t : Tree) (x : Str), (t.words x).Pairwise Apart
  | .leaf _, _ => List.pairwise_singleton _ _
  | .node a b, x => by
    rw [Tree.words, List.pairwise_append]
    refine ⟨words_apart a _, words_apart b _, fun p hp q hq => ?_⟩
    obtain ⟨u, e1, _⟩ := words_snd a _ p hp
    obtain ⟨v, e2, _⟩ := words_snd b _ q hq
    rw [toL_append, dig0, List.append_assoc] at e1
    rw [toL_append, dig1, List.append_assoc] at e2
    unfold Apart
    rw [e1, e2]
    constructor
    · intro h
      have := (List.prefix_append_right_inj _).mp h
      have := List.cons_prefix_cons.mp this
      exact absurd this.1 (by decide)
    · intro h
      have := (List.prefix_append_right_inj _).mp h
      have := List.cons_prefix_cons.mp this
      exact absurd this.1 (by decide)
theorem sum_append' (l m : List Int) : (l ++ m).sum = l.sum + m.sum := by
  induction l with
  | nil => simp
  | cons a l ih => rw [List.cons_append, List.sum_cons, List.sum_cons, ih]; omega
/-- the coded length is the tree's cost -/
theorem words_cost (f : Str → Int) : ∀ (t : Tree) (x : Str), ((t.words x).map fun p => f p.1 * (p.2.length : Nat)).sum = t.cost f + t.wt f * (x.length : Nat)
  | .leaf s, x => by
    show f s * (x.length : Nat) + 0 = 0 + f s * (x.length : Nat)
    omega
  | .node a b, x => by
    have l0 : (Str.ofString "0").length = 1 := by decide +kernel
    have l1 : (Str.ofString "1").length = 1 := by decide +kernel
    rw [Tree.words, List.map_append, sum_append', words_cost f a, words_cost f b, Str.length_append, Str.length_append, l0, l1, Tree.cost, Tree.wt]
    push_cast
    rw [Int.mul_add, Int.mul_add, Int.add_mul]
    omega

/-- what a sign becomes -/
def sub : List (Str × Str) → Nat → List Nat
  | [], c => [c]
  | (k, w) :: r, c => if k.cps.toList = [c] then w.cps.toList else sub r c
def Kinds (ps : List (Str × Str)) : Prop := ∀ p ∈ ps, (∃ c, p.1 = ⟨#[c]⟩ ∧ 118 ≤ c) ∧ (∀ d ∈ p.2.cps.toList, d = 48 ∨ d = 49) ∧ p.2.cps.toList ≠ [] ∧ p.2.length ≤ 100
theorem sub_low {ps : List (Str × Str)} (h : Kinds ps) {c : Nat} (hc : c < 118) : sub ps c = [c] := by
  induction ps with
  | nil => rfl
  | cons p r ih =>
    obtain ⟨k, w⟩ := p
    obtain ⟨⟨d, hd, hd2⟩, _⟩ := h _ (.head _)
    rw [sub, if_neg, ih fun q hq => h q (.tail _ hq)]
    intro e
    have hd : k = ⟨#[d]⟩ := hd
    rw [hd] at e
    have := (List.cons.inj e).1
    omega
theorem sub_pos {ps : List (Str × Str)} (h : Kinds ps) (c : Nat) : 1 ≤ (sub ps c).length := by
  induction ps with
  | nil => exact Nat.le_refl _
  | cons p r ih =>
    obtain ⟨k, w⟩ := p
    rw [sub]
    split
    · exact List.length_pos_iff.mpr (h _ (.head _)).2.2.1
    · exact ih fun q hq => h q (.tail _ hq)
theorem flatMap_low {ps : List (Str × Str)} (h : Kinds ps) : ∀ (l : List Nat), (∀ d ∈ l, d = 48 ∨ d = 49) → l.flatMap (sub ps) = l
  | [], _ => rfl
  | x :: l, hl => by
    rw [List.flatMap_cons, sub_low h (by rcases hl x (.head _) with e | e <;> omega), flatMap_low h l fun d hd => hl d (.tail _ hd)]
    rfl
theorem step_sub {k w : Str} {r : List (Str × Str)} (h : Kinds ((k, w) :: r)) (t : Str) : (Txt.join w (Txt.split t k)).cps.toList.flatMap (sub r) = t.cps.toList.flatMap (sub ((k, w) :: r)) := by
  obtain ⟨⟨c, hc, _⟩, hw, _⟩ := h _ (.head _)
  have hc : k = ⟨#[c]⟩ := hc
  have hr : Kinds r := fun q hq => h q (.tail _ hq)
  subst hc
  rw [one_step, List.flatMap_assoc]
  congr 1
  funext x
  unfold subst1 sub
  by_cases e : x = c
  · rw [if_pos e, if_pos (by rw [e])]
    exact flatMap_low hr _ hw
  · rw [if_neg e, if_neg (fun q => e (List.cons.inj q).1.symm)]
    simp
theorem there_toL : ∀ (ps : List (Str × Str)), Kinds ps → ∀ t : Str, (replF t (thereL ps)).cps.toList = t.cps.toList.flatMap (sub ps)
  | [], _, t => by
    show t.cps.toList = t.cps.toList.flatMap fun c => [c]
    simp
  | (k, w) :: r, h, t => by
    show (replF (Txt.join w (Txt.split t k)) (thereL r)).cps.toList = _
    rw [there_toL r (fun q hq => h q (.tail _ hq)), step_sub h]
theorem flatMap_grow {ps : List (Str × Str)} (h : Kinds ps) : ∀ l : List Nat, l.length ≤ (l.flatMap (sub ps)).length
  | [] => Nat.le_refl _
  | x :: l => by
    have := flatMap_grow h l
    have := sub_pos h x
    rw [List.flatMap_cons, List.length_append, List.length_cons]; omega
theorem there_ok : ∀ (ps : List (Str × Str)), Kinds ps → ∀ t : Str, (t.cps.toList.flatMap (sub ps)).length ≤ 100000 → okF t (thereL ps)
  | [], _, _, _ => trivial
  | (k, w) :: r, h, t, hl => by
    obtain ⟨⟨c, hc, _⟩, hw, hw0, hw1⟩ := h _ (.head _)
    refine ⟨?_, hw1, ?_, ?_⟩
    · have := flatMap_grow h t.cps.toList
      rw [toL_length] at this
      omega
    · have hc : k = ⟨#[c]⟩ := hc
      rw [hc]
      exact Nat.one_ne_zero
    · exact there_ok r (fun q hq => h q (.tail _ hq)) _ (by rw [step_sub h]; exact hl)
end Mine

namespace Mine
set_option maxRecDepth 100000
set_option maxHeartbeats 100000000

def l3 (x y z : Int) : List Int := [y + z, x + z, x + y]
def g3 (x y z : Int) : Int := minOf (l3 x y z) + (x + y + z)
def l4 (x y z u : Int) : List Int := [g3 y z u, g3 x z u, (x + y) + (z + u), g3 x y u, (x + z) + (y + u), (y + z) + (x + u), g3 x y z]
def g4 (x y z u : Int) : Int := minOf (l4 x y z u) + (x + y + z + u)
def l5 (a b c d e : Int) : List Int := [g4 b c d e, g4 a c d e, (a + b) + (g3 c d e), g4 a b d e, (a + c) + (g3 b d e), (b + c) + (g3 a d e), (g3 a b c) + (d + e), g4 a b c e, (a + d) + (g3 b c e), (b + d) + (g3 a c e), (g3 a b d) + (c + e), (c + d) + (g3 a b e), (g3 a c d) + (b + e), (g3 b c d) + (a + e), g4 a b c d]
def g5 (a b c d e : Int) : Int := minOf (l5 a b c d e) + (a + b + c + d + e)

theorem minOf_same {l l' : List Int} (hn : l ≠ []) (hn' : l' ≠ []) (h : ∀ a, a ∈ l → a ∈ l') (h' : ∀ a, a ∈ l' → a ∈ l) : minOf l = minOf l' :=
  Int.le_antisymm (minOf_le (h' _ (minOf_mem hn'))) (minOf_le (h _ (minOf_mem hn)))
theorem mem_hd {a b : Int} {l : List Int} (h : a = b) : a ∈ b :: l := by rw [h]; exact .head _
theorem all_cons {a : Int} {l m : List Int} (h : a ∈ m) (k : ∀ b, b ∈ l → b ∈ m) : ∀ b, b ∈ a :: l → b ∈ m := fun _ q => (List.mem_cons.mp q).elim (fun e => e ▸ h) (k _)
theorem all_nil {m : List Int} : ∀ b : Int, b ∈ ([] : List Int) → b ∈ m := fun _ h => nomatch h
theorem le_cons {M a : Int} {l : List Int} (h : M ≤ a) (k : ∀ t, t ∈ l → M ≤ t) : ∀ t, t ∈ a :: l → M ≤ t := fun _ q => (List.mem_cons.mp q).elim (fun e => e ▸ h) (k _)
theorem g3_01 (x y z : Int) : g3 y x z = g3 x y z := by simp only [g3, l3, minOf]; omega
theorem g3_12 (x y z : Int) : g3 x z y = g3 x y z := by simp only [g3, l3, minOf]; omega
theorem g3_s {x y z : Int} (h1 : x ≤ y) (h2 : y ≤ z) : g3 x y z = 2 * x + 2 * y + z := by simp only [g3, l3, minOf]; omega
theorem g4_01 (x y z u : Int) : g4 y x z u = g4 x y z u := by
  have h3_xyz := g3_01 x y z
  have h3_xyu := g3_01 x y u
  have e : minOf (l4 y x z u) = minOf (l4 x y z u) := by
    unfold l4
    exact minOf_same (by simp) (by simp) (all_cons ((.tail _ (mem_hd (by omega)))) (all_cons ((mem_hd (by omega))) (all_cons ((.tail _ (.tail _ (mem_hd (by omega))))) (all_cons ((.tail _ (.tail _ (.tail _ (mem_hd (by omega)))))) (all_cons ((.tail _ (.tail _ (.tail _ (.tail _ (.tail _ (mem_hd (by omega)))))))) (all_cons ((.tail _ (.tail _ (.tail _ (.tail _ (mem_hd (by omega))))))) (all_cons ((.tail _ (.tail _ (.tail _ (.tail _ (.tail _ (.tail _ (mem_hd (by omega))))))))) (all_nil)))))))) (all_cons ((.tail _ (mem_hd (by omega)))) (all_cons ((mem_hd (by omega))) (all_cons ((.tail _ (.tail _ (mem_hd (by omega))))) (all_cons ((.tail _ (.tail _ (.tail _ (mem_hd (by omega)))))) (all_cons ((.tail _ (.tail _ (.tail _ (.tail _ (.tail _ (mem_hd (by omega)))))))) (all_cons ((.tail _ (.tail _ (.tail _ (.tail _ (mem_hd (by omega))))))) (all_cons ((.tail _ (.tail _ (.tail _ (.tail _ (.tail _ (.tail _ (mem_hd (by omega))))))))) (all_nil))))))))
  unfold g4
  rw [e]
  omega
theorem g4_12 (x y z u : Int) : g4 x z y u = g4 x y z u := by
  have h3_xyz := g3_12 x y z
  have h3_yzu := g3_01 y z u
  have e : minOf (l4 x z y u) = minOf (l4 x y z u) := by
    unfold l4
    exact minOf_same (by simp) (by simp) (all_cons ((mem_hd (by omega))) (all_cons ((.tail _ (.tail _ (.tail _ (mem_hd (by omega)))))) (all_cons ((.tail _ (.tail _ (.tail _ (.tail _ (mem_hd (by omega))))))) (all_cons ((.tail _ (mem_hd (by omega)))) (all_cons ((.tail _ (.tail _ (mem_hd (by omega))))) (all_cons ((.tail _ (.tail _ (.tail _ (.tail _ (.tail _ (mem_hd (by omega)))))))) (all_cons ((.tail _ (.tail _ (.tail _ (.tail _ (.tail _ (.tail _ (mem_hd (by omega))))))))) (all_nil)))))))) (all_cons ((mem_hd (by omega))) (all_cons ((.tail _ (.tail _ (.tail _ (mem_hd (by omega)))))) (all_cons ((.tail _ (.tail _ (.tail _ (.tail _ (mem_hd (by omega))))))) (all_cons ((.tail _ (mem_hd (by omega)))) (all_cons ((.tail _ (.tail _ (mem_hd (by omega))))) (all_cons ((.tail _ (.tail _ (.tail _ (.tail _ (.tail _ (mem_hd (by omega)))))))) (all_cons ((.tail _ (.tail _ (.tail _ (.tail _ (.tail _ (.tail _ (mem_hd (by omega))))))))) (all_nil))))))))
  unfold g4
  rw [e]
  omega
theorem g4_23 (x y z u : Int) : g4 x y u z = g4 x y z u := by
  have h3_xzu := g3_12 x z u
  have h3_yzu := g3_12 y z u
  have e : minOf (l4 x y u z) = minOf (l4 x y z u) := by
    unfold l4
    exact minOf_same (by simp) (by simp) (all_cons ((mem_hd (by omega))) (all_cons ((.tail _ (mem_hd (by omega)))) (all_cons ((.tail _ (.tail _ (mem_hd (by omega))))) (all_cons ((.tail _ (.tail _ (.tail _ (.tail _ (.tail _ (.tail _ (mem_hd (by omega))))))))) (all_cons ((.tail _ (.tail _ (.tail _ (.tail _ (.tail _ (mem_hd (by omega)))))))) (all_cons ((.tail _ (.tail _ (.tail _ (.tail _ (mem_hd (by omega))))))) (all_cons ((.tail _ (.tail _ (.tail _ (mem_hd (by omega)))))) (all_nil)))))))) (all_cons ((mem_hd (by omega))) (all_cons ((.tail _ (mem_hd (by omega)))) (all_cons ((.tail _ (.tail _ (mem_hd (by omega))))) (all_cons ((.tail _ (.tail _ (.tail _ (.tail _ (.tail _ (.tail _ (mem_hd (by omega))))))))) (all_cons ((.tail _ (.tail _ (.tail _ (.tail _ (.tail _ (mem_hd (by omega)))))))) (all_cons ((.tail _ (.tail _ (.tail _ (.tail _ (mem_hd (by omega))))))) (all_cons ((.tail _ (.tail _ (.tail _ (mem_hd (by omega)))))) (all_nil))))))))
  unfold g4
  rw [e]
  omega
theorem g5_01 (a b c d e : Int) : g5 b a c d e = g5 a b c d e := by
  have h3_abc := g3_01 a b c
  have h3_abd := g3_01 a b d
  have h3_abe := g3_01 a b e
  have h4_abcd := g4_01 a b c d
  have h4_abce := g4_01 a b c e
  have h4_abde := g4_01 a b d e
  have e : minOf (l5 b a c d e) = minOf (l5 a b c d e) := by
    unfold l5
    exact minOf_same (by simp) (by simp) (all_cons ((.tail _ (mem_hd (by omega)))) (all_cons ((mem_hd (by omega))) (all_cons ((.tail _ (.tail _ (mem_hd (by omega))))) (all_cons ((.tail _ (.tail _ (.tail _ (mem_hd (by omega)))))) (all_cons ((.tail _ (.tail _ (.tail _ (.tail _ (.tail _ (mem_hd (by omega)))))))) (all_cons ((.tail _ (.tail _ (.tail _ (.tail _ (mem_hd (by omega))))))) (all_cons ((.tail _ (.tail _ (.tail _ (.tail _ (.tail _ (.tail _ (mem_hd (by omega))))))))) (all_cons ((.tail _ (.tail _ (.tail _ (.tail _ (.tail _ (.tail _ (.tail _ (mem_hd (by omega)))))))))) (all_cons ((.tail _ (.tail _ (.tail _ (.tail _ (.tail _ (.tail _ (.tail _ (.tail _ (.tail _ (mem_hd (by omega)))))))))))) (all_cons ((.tail _ (.tail _ (.tail _ (.tail _ (.tail _ (.tail _ (.tail _ (.tail _ (mem_hd (by omega))))))))))) (all_cons ((.tail _ (.tail _ (.tail _ (.tail _ (.tail _ (.tail _ (.tail _ (.tail _ (.tail _ (.tail _ (mem_hd (by omega))))))))))))) (all_cons ((.tail _ (.tail _ (.tail _ (.tail _ (.tail _ (.tail _ (.tail _ (.tail _ (.tail _ (.tail _ (.tail _ (mem_hd (by omega)))))))))))))) (all_cons ((.tail _ (.tail _ (.tail _ (.tail _ (.tail _ (.tail _ (.tail _ (.tail _ (.tail _ (.tail _ (.tail _ (.tail _ (.tail _ (mem_hd (by omega)))))))))))))))) (all_cons ((.tail _ (.tail _ (.tail _ (.tail _ (.tail _ (.tail _ (.tail _ (.tail _ (.tail _ (.tail _ (.tail _ (.tail _ (mem_hd (by omega))))))))))))))) (all_cons ((.tail _ (.tail _ (.tail _ (.tail _ (.tail _ (.tail _ (.tail _ (.tail _ (.tail _ (.tail _ (.tail _ (.tail _ (.tail _ (.tail _ (mem_hd (by omega))))))))))))))))) (all_nil)))))))))))))))) (all_cons ((.tail _ (mem_hd (by omega)))) (all_cons ((mem_hd (by omega))) (all_cons ((.tail _ (.tail _ (mem_hd (by omega))))) (all_cons ((.tail _ (.tail _ (.tail _ (mem_hd (by omega)))))) (all_cons ((.tail _ (.tail _ (.tail _ (.tail _ (.tail _ (mem_hd (by omega)))))))) (all_cons ((.tail _ (.tail _ (.tail _ (.tail _ (mem_hd (by omega))))))) (all_cons ((.tail _ (.tail _ (.tail _ (.tail _ (.tail _ (.tail _ (mem_hd (by omega))))))))) (all_cons ((.tail _ (.tail _ (.tail _ (.tail _ (.tail _ (.tail _ (.tail _ (mem_hd (by omega)))))))))) (all_cons ((.tail _ (.tail _ (.tail _ (.tail _ (.tail _ (.tail _ (.tail _ (.tail _ (.tail _ (mem_hd (by omega)))))))))))) (all_cons ((.tail _ (.tail _ (.tail _ (.tail _ (.tail _ (.tail _ (.tail _ (.tail _ (mem_hd (by omega))))))))))) (all_cons ((.tail _ (.tail _ (.tail _ (.tail _ (.tail _ (.tail _ (.tail _ (.tail _ (.tail _ (.tail _ (mem_hd (by omega))))))))))))) (all_cons ((.tail _ (.tail _ (.tail _ (.tail _ (.tail _ (.tail _ (.tail _ (.tail _ (.tail _ (.tail _ (.tail _ (mem_hd (by omega)))))))))))))) (all_cons ((.tail _ (.tail _ (.tail _ (.tail _ (.tail _ (.tail _ (.tail _ (.tail _ (.tail _ (.tail _ (.tail _ (.tail _ (.tail _ (mem_hd (by omega)))))))))))))))) (all_cons ((.tail _ (.tail _ (.tail _ (.tail _ (.tail _ (.tail _ (.tail _ (.tail _ (.tail _ (.tail _ (.tail _ (.tail _ (mem_hd (by omega))))))))))))))) (all_cons ((.tail _ (.tail _ (.tail _ (.tail _ (.tail _ (.tail _ (.tail _ (.tail _ (.tail _ (.tail _ (.tail _ (.tail _ (.tail _ (.tail _ (mem_hd (by omega))))))))))))))))) (all_nil))))))))))))))))
  unfold g5
  rw [e]
  omega
theorem g5_12 (a b c d e : Int) : g5 a c b d e = g5 a b c d e := by
  have h3_abc := g3_12 a b c
  have h3_bcd := g3_01 b c d
  have h3_bce := g3_01 b c e
  have h4_abcd := g4_12 a b c d
  have h4_abce := g4_12 a b c e
  have h4_bcde := g4_01 b c d e
  have e : minOf (l5 a c b d e) = minOf (l5 a b c d e) := by
    unfold l5
    exact minOf_same (by simp) (by simp) (all_cons ((mem_hd (by omega))) (all_cons ((.tail _ (.tail _ (.tail _ (mem_hd (by omega)))))) (all_cons ((.tail _ (.tail _ (.tail _ (.tail _ (mem_hd (by omega))))))) (all_cons ((.tail _ (mem_hd (by omega)))) (all_cons ((.tail _ (.tail _ (mem_hd (by omega))))) (all_cons ((.tail _ (.tail _ (.tail _ (.tail _ (.tail _ (mem_hd (by omega)))))))) (all_cons ((.tail _ (.tail _ (.tail _ (.tail _ (.tail _ (.tail _ (mem_hd (by omega))))))))) (all_cons ((.tail _ (.tail _ (.tail _ (.tail _ (.tail _ (.tail _ (.tail _ (mem_hd (by omega)))))))))) (all_cons ((.tail _ (.tail _ (.tail _ (.tail _ (.tail _ (.tail _ (.tail _ (.tail _ (mem_hd (by omega))))))))))) (all_cons ((.tail _ (.tail _ (.tail _ (.tail _ (.tail _ (.tail _ (.tail _ (.tail _ (.tail _ (.tail _ (.tail _ (mem_hd (by omega)))))))))))))) (all_cons ((.tail _ (.tail _ (.tail _ (.tail _ (.tail _ (.tail _ (.tail _ (.tail _ (.tail _ (.tail _ (.tail _ (.tail _ (mem_hd (by omega))))))))))))))) (all_cons ((.tail _ (.tail _ (.tail _ (.tail _ (.tail _ (.tail _ (.tail _ (.tail _ (.tail _ (mem_hd (by omega)))))))))))) (all_cons ((.tail _ (.tail _ (.tail _ (.tail _ (.tail _ (.tail _ (.tail _ (.tail _ (.tail _ (.tail _ (mem_hd (by omega))))))))))))) (all_cons ((.tail _ (.tail _ (.tail _ (.tail _ (.tail _ (.tail _ (.tail _ (.tail _ (.tail _ (.tail _ (.tail _ (.tail _ (.tail _ (mem_hd (by omega)))))))))))))))) (all_cons ((.tail _ (.tail _ (.tail _ (.tail _ (.tail _ (.tail _ (.tail _ (.tail _ (.tail _ (.tail _ (.tail _ (.tail _ (.tail _ (.tail _ (mem_hd (by omega))))))))))))))))) (all_nil)))))))))))))))) (all_cons ((mem_hd (by omega))) (all_cons ((.tail _ (.tail _ (.tail _ (mem_hd (by omega)))))) (all_cons ((.tail _ (.tail _ (.tail _ (.tail _ (mem_hd (by omega))))))) (all_cons ((.tail _ (mem_hd (by omega)))) (all_cons ((.tail _ (.tail _ (mem_hd (by omega))))) (all_cons ((.tail _ (.tail _ (.tail _ (.tail _ (.tail _ (mem_hd (by omega)))))))) (all_cons ((.tail _ (.tail _ (.tail _ (.tail _ (.tail _ (.tail _ (mem_hd (by omega))))))))) (all_cons ((.tail _ (.tail _ (.tail _ (.tail _ (.tail _ (.tail _ (.tail _ (mem_hd (by omega)))))))))) (all_cons ((.tail _ (.tail _ (.tail _ (.tail _ (.tail _ (.tail _ (.tail _ (.tail _ (mem_hd (by omega))))))))))) (all_cons ((.tail _ (.tail _ (.tail _ (.tail _ (.tail _ (.tail _ (.tail _ (.tail _ (.tail _ (.tail _ (.tail _ (mem_hd (by omega)))))))))))))) (all_cons ((.tail _ (.tail _ (.tail _ (.tail _ (.tail _ (.tail _ (.tail _ (.tail _ (.tail _ (.tail _ (.tail _ (.tail _ (mem_hd (by omega))))))))))))))) (all_cons ((.tail _ (.tail _ (.tail _ (.tail _ (.tail _ (.tail _ (.tail _ (.tail _ (.tail _ (mem_hd (by omega)))))))))))) (all_cons ((.tail _ (.tail _ (.tail _ (.tail _ (.tail _ (.tail _ (.tail _ (.tail _ (.tail _ (.tail _ (mem_hd (by omega))))))))))))) (all_cons ((.tail _ (.tail _ (.tail _ (.tail _ (.tail _ (.tail _ (.tail _ (.tail _ (.tail _ (.tail _ (.tail _ (.tail _ (.tail _ (mem_hd (by omega)))))))))))))))) (all_cons ((.tail _ (.tail _ (.tail _ (.tail _ (.tail _ (.tail _ (.tail _ (.tail _ (.tail _ (.tail _ (.tail _ (.tail _ (.tail _ (.tail _ (mem_hd (by omega))))))))))))))))) (all_nil))))))))))))))))
  unfold g5
  rw [e]
  omega
theorem g5_23 (a b c d e : Int) : g5 a b d c e = g5 a b c d e := by
  have h3_acd := g3_12 a c d
  have h3_bcd := g3_12 b c d
  have h3_cde := g3_01 c d e
  have h4_abcd := g4_23 a b c d
  have h4_acde := g4_12 a c d e
  have h4_bcde := g4_12 b c d e
  have e : minOf (l5 a b d c e) = minOf (l5 a b c d e) := by
    unfold l5
    exact minOf_same (by simp) (by simp) (all_cons ((mem_hd (by omega))) (all_cons ((.tail _ (mem_hd (by omega)))) (all_cons ((.tail _ (.tail _ (mem_hd (by omega))))) (all_cons ((.tail _ (.tail _ (.tail _ (.tail _ (.tail _ (.tail _ (.tail _ (mem_hd (by omega)))))))))) (all_cons ((.tail _ (.tail _ (.tail _ (.tail _ (.tail _ (.tail _ (.tail _ (.tail _ (mem_hd (by omega))))))))))) (all_cons ((.tail _ (.tail _ (.tail _ (.tail _ (.tail _ (.tail _ (.tail _ (.tail _ (.tail _ (mem_hd (by omega)))))))))))) (all_cons ((.tail _ (.tail _ (.tail _ (.tail _ (.tail _ (.tail _ (.tail _ (.tail _ (.tail _ (.tail _ (mem_hd (by omega))))))))))))) (all_cons ((.tail _ (.tail _ (.tail _ (mem_hd (by omega)))))) (all_cons ((.tail _ (.tail _ (.tail _ (.tail _ (mem_hd (by omega))))))) (all_cons ((.tail _ (.tail _ (.tail _ (.tail _ (.tail _ (mem_hd (by omega)))))))) (all_cons ((.tail _ (.tail _ (.tail _ (.tail _ (.tail _ (.tail _ (mem_hd (by omega))))))))) (all_cons ((.tail _ (.tail _ (.tail _ (.tail _ (.tail _ (.tail _ (.tail _ (.tail _ (.tail _ (.tail _ (.tail _ (mem_hd (by omega)))))))))))))) (all_cons ((.tail _ (.tail _ (.tail _ (.tail _ (.tail _ (.tail _ (.tail _ (.tail _ (.tail _ (.tail _ (.tail _ (.tail _ (mem_hd (by omega))))))))))))))) (all_cons ((.tail _ (.tail _ (.tail _ (.tail _ (.tail _ (.tail _ (.tail _ (.tail _ (.tail _ (.tail _ (.tail _ (.tail _ (.tail _ (mem_hd (by omega)))))))))))))))) (all_cons ((.tail _ (.tail _ (.tail _ (.tail _ (.tail _ (.tail _ (.tail _ (.tail _ (.tail _ (.tail _ (.tail _ (.tail _ (.tail _ (.tail _ (mem_hd (by omega))))))))))))))))) (all_nil)))))))))))))))) (all_cons ((mem_hd (by omega))) (all_cons ((.tail _ (mem_hd (by omega)))) (all_cons ((.tail _ (.tail _ (mem_hd (by omega))))) (all_cons ((.tail _ (.tail _ (.tail _ (.tail _ (.tail _ (.tail _ (.tail _ (mem_hd (by omega)))))))))) (all_cons ((.tail _ (.tail _ (.tail _ (.tail _ (.tail _ (.tail _ (.tail _ (.tail _ (mem_hd (by omega))))))))))) (all_cons ((.tail _ (.tail _ (.tail _ (.tail _ (.tail _ (.tail _ (.tail _ (.tail _ (.tail _ (mem_hd (by omega)))))))))))) (all_cons ((.tail _ (.tail _ (.tail _ (.tail _ (.tail _ (.tail _ (.tail _ (.tail _ (.tail _ (.tail _ (mem_hd (by omega))))))))))))) (all_cons ((.tail _ (.tail _ (.tail _ (mem_hd (by omega)))))) (all_cons ((.tail _ (.tail _ (.tail _ (.tail _ (mem_hd (by omega))))))) (all_cons ((.tail _ (.tail _ (.tail _ (.tail _ (.tail _ (mem_hd (by omega)))))))) (all_cons ((.tail _ (.tail _ (.tail _ (.tail _ (.tail _ (.tail _ (mem_hd (by omega))))))))) (all_cons ((.tail _ (.tail _ (.tail _ (.tail _ (.tail _ (.tail _ (.tail _ (.tail _ (.tail _ (.tail _ (.tail _ (mem_hd (by omega)))))))))))))) (all_cons ((.tail _ (.tail _ (.tail _ (.tail _ (.tail _ (.tail _ (.tail _ (.tail _ (.tail _ (.tail _ (.tail _ (.tail _ (mem_hd (by omega))))))))))))))) (all_cons ((.tail _ (.tail _ (.tail _ (.tail _ (.tail _ (.tail _ (.tail _ (.tail _ (.tail _ (.tail _ (.tail _ (.tail _ (.tail _ (mem_hd (by omega)))))))))))))))) (all_cons ((.tail _ (.tail _ (.tail _ (.tail _ (.tail _ (.tail _ (.tail _ (.tail _ (.tail _ (.tail _ (.tail _ (.tail _ (.tail _ (.tail _ (mem_hd (by omega))))))))))))))))) (all_nil))))))))))))))))
  unfold g5
  rw [e]
  omega
theorem g5_34 (a b c d e : Int) : g5 a b c e d = g5 a b c d e := by
  have h3_ade := g3_12 a d e
  have h3_bde := g3_12 b d e
  have h3_cde := g3_12 c d e
  have h4_abde := g4_23 a b d e
  have h4_acde := g4_23 a c d e
  have h4_bcde := g4_23 b c d e
  have e : minOf (l5 a b c e d) = minOf (l5 a b c d e) := by
    unfold l5
    exact minOf_same (by simp) (by simp) (all_cons ((mem_hd (by omega))) (all_cons ((.tail _ (mem_hd (by omega)))) (all_cons ((.tail _ (.tail _ (mem_hd (by omega))))) (all_cons ((.tail _ (.tail _ (.tail _ (mem_hd (by omega)))))) (all_cons ((.tail _ (.tail _ (.tail _ (.tail _ (mem_hd (by omega))))))) (all_cons ((.tail _ (.tail _ (.tail _ (.tail _ (.tail _ (mem_hd (by omega)))))))) (all_cons ((.tail _ (.tail _ (.tail _ (.tail _ (.tail _ (.tail _ (mem_hd (by omega))))))))) (all_cons ((.tail _ (.tail _ (.tail _ (.tail _ (.tail _ (.tail _ (.tail _ (.tail _ (.tail _ (.tail _ (.tail _ (.tail _ (.tail _ (.tail _ (mem_hd (by omega))))))))))))))))) (all_cons ((.tail _ (.tail _ (.tail _ (.tail _ (.tail _ (.tail _ (.tail _ (.tail _ (.tail _ (.tail _ (.tail _ (.tail _ (.tail _ (mem_hd (by omega)))))))))))))))) (all_cons ((.tail _ (.tail _ (.tail _ (.tail _ (.tail _ (.tail _ (.tail _ (.tail _ (.tail _ (.tail _ (.tail _ (.tail _ (mem_hd (by omega))))))))))))))) (all_cons ((.tail _ (.tail _ (.tail _ (.tail _ (.tail _ (.tail _ (.tail _ (.tail _ (.tail _ (.tail _ (.tail _ (mem_hd (by omega)))))))))))))) (all_cons ((.tail _ (.tail _ (.tail _ (.tail _ (.tail _ (.tail _ (.tail _ (.tail _ (.tail _ (.tail _ (mem_hd (by omega))))))))))))) (all_cons ((.tail _ (.tail _ (.tail _ (.tail _ (.tail _ (.tail _ (.tail _ (.tail _ (.tail _ (mem_hd (by omega)))))))))))) (all_cons ((.tail _ (.tail _ (.tail _ (.tail _ (.tail _ (.tail _ (.tail _ (.tail _ (mem_hd (by omega))))))))))) (all_cons ((.tail _ (.tail _ (.tail _ (.tail _ (.tail _ (.tail _ (.tail _ (mem_hd (by omega)))))))))) (all_nil)))))))))))))))) (all_cons ((mem_hd (by omega))) (all_cons ((.tail _ (mem_hd (by omega)))) (all_cons ((.tail _ (.tail _ (mem_hd (by omega))))) (all_cons ((.tail _ (.tail _ (.tail _ (mem_hd (by omega)))))) (all_cons ((.tail _ (.tail _ (.tail _ (.tail _ (mem_hd (by omega))))))) (all_cons ((.tail _ (.tail _ (.tail _ (.tail _ (.tail _ (mem_hd (by omega)))))))) (all_cons ((.tail _ (.tail _ (.tail _ (.tail _ (.tail _ (.tail _ (mem_hd (by omega))))))))) (all_cons ((.tail _ (.tail _ (.tail _ (.tail _ (.tail _ (.tail _ (.tail _ (.tail _ (.tail _ (.tail _ (.tail _ (.tail _ (.tail _ (.tail _ (mem_hd (by omega))))))))))))))))) (all_cons ((.tail _ (.tail _ (.tail _ (.tail _ (.tail _ (.tail _ (.tail _ (.tail _ (.tail _ (.tail _ (.tail _ (.tail _ (.tail _ (mem_hd (by omega)))))))))))))))) (all_cons ((.tail _ (.tail _ (.tail _ (.tail _ (.tail _ (.tail _ (.tail _ (.tail _ (.tail _ (.tail _ (.tail _ (.tail _ (mem_hd (by omega))))))))))))))) (all_cons ((.tail _ (.tail _ (.tail _ (.tail _ (.tail _ (.tail _ (.tail _ (.tail _ (.tail _ (.tail _ (.tail _ (mem_hd (by omega)))))))))))))) (all_cons ((.tail _ (.tail _ (.tail _ (.tail _ (.tail _ (.tail _ (.tail _ (.tail _ (.tail _ (.tail _ (mem_hd (by omega))))))))))))) (all_cons ((.tail _ (.tail _ (.tail _ (.tail _ (.tail _ (.tail _ (.tail _ (.tail _ (.tail _ (mem_hd (by omega)))))))))))) (all_cons ((.tail _ (.tail _ (.tail _ (.tail _ (.tail _ (.tail _ (.tail _ (.tail _ (mem_hd (by omega))))))))))) (all_cons ((.tail _ (.tail _ (.tail _ (.tail _ (.tail _ (.tail _ (.tail _ (mem_hd (by omega)))))))))) (all_nil))))))))))))))))
  unfold g5
  rw [e]
  omega

theorem g4_s {x y z u : Int} (h1 : x ≤ y) (h2 : y ≤ z) (h3 : z ≤ u) : g4 x y z u = min (2 * (x + y + z + u)) (3 * x + 3 * y + 2 * z + u) := by
  obtain ⟨p, hp⟩ : ∃ p, p = x + y + z + u := ⟨_, rfl⟩
  obtain ⟨q, hq⟩ : ∃ q, q = 2 * x + 2 * y + z := ⟨_, rfl⟩
  obtain ⟨M, hM⟩ : ∃ M, M = min p q := ⟨_, rfl⟩
  have mp : M ≤ p := by rw [hM]; exact Int.min_le_left _ _
  have mq : M ≤ q := by rw [hM]; exact Int.min_le_right _ _
  have lo : ∀ t, t ∈ l4 x y z u → M ≤ t := by
    clear hM
    unfold l4
    exact le_cons (by rw [g3_s (by omega) (by omega)]; omega) (le_cons (by rw [g3_s (by omega) (by omega)]; omega) (le_cons (by omega) (le_cons (by rw [g3_s (by omega) (by omega)]; omega) (le_cons (by omega) (le_cons (by omega) (le_cons (by rw [g3_s (by omega) (by omega)]; omega) (fun _ h => nomatch h)))))))
  have mem : M ∈ l4 x y z u := by
    unfold l4
    have k1 : g3 x y z = q := by rw [g3_s h1 h2, hq]
    have k2 : (x + y) + (z + u) = p := by omega
    rw [k1, k2]
    by_cases w : p ≤ q
    · rw [show M = p from by rw [hM, Int.min_eq_left w]]
      exact .tail _ (.tail _ (.head _))
    · rw [show M = q from by rw [hM, Int.min_eq_right (by omega)]]
      exact .tail _ (.tail _ (.tail _ (.tail _ (.tail _ (.tail _ (.head _))))))
  have e1 : minOf (l4 x y z u) = M := (minOf_eq mem lo).symm
  rw [g4, e1, hM]
  clear lo mem e1 mp mq hM
  omega
theorem g5_s {a b c d e : Int} (h1 : a ≤ b) (h2 : b ≤ c) (h3 : c ≤ d) (h4 : d ≤ e) : g5 a b c d e = min (min (2 * (a + b + c + d)) (3 * a + 3 * b + 2 * c + d) + (a + b + c + d + e)) (3 * a + 3 * b + 2 * c + 2 * d + 2 * e) := by
  obtain ⟨p, hp⟩ : ∃ p, p = 2 * (a + b + c + d) := ⟨_, rfl⟩
  obtain ⟨q, hq⟩ : ∃ q, q = 3 * a + 3 * b + 2 * c + d := ⟨_, rfl⟩
  obtain ⟨r, hr⟩ : ∃ r, r = 2 * a + 2 * b + c + d + e := ⟨_, rfl⟩
  obtain ⟨M, hM⟩ : ∃ M, M = min (min p q) r := ⟨_, rfl⟩
  have mp : M ≤ p := by rw [hM]; exact Int.le_trans (Int.min_le_left _ _) (Int.min_le_left _ _)
  have mq : M ≤ q := by rw [hM]; exact Int.le_trans (Int.min_le_left _ _) (Int.min_le_right _ _)
  have mr : M ≤ r := by rw [hM]; exact Int.min_le_right _ _
  have lo : ∀ t, t ∈ l5 a b c d e → M ≤ t := by
    clear hM
    unfold l5
    exact le_cons (by rw [g4_s (by omega) (by omega) (by omega)]; exact Int.le_min.mpr ⟨by omega, by omega⟩) (le_cons (by rw [g4_s (by omega) (by omega) (by omega)]; exact Int.le_min.mpr ⟨by omega, by omega⟩) (le_cons (by rw [g3_s (by omega) (by omega)]; omega) (le_cons (by rw [g4_s (by omega) (by omega) (by omega)]; exact Int.le_min.mpr ⟨by omega, by omega⟩) (le_cons (by rw [g3_s (by omega) (by omega)]; omega) (le_cons (by rw [g3_s (by omega) (by omega)]; omega) (le_cons (by rw [g3_s (by omega) (by omega)]; omega) (le_cons (by rw [g4_s (by omega) (by omega) (by omega)]; exact Int.le_min.mpr ⟨by omega, by omega⟩) (le_cons (by rw [g3_s (by omega) (by omega)]; omega) (le_cons (by rw [g3_s (by omega) (by omega)]; omega) (le_cons (by rw [g3_s (by omega) (by omega)]; omega) (le_cons (by rw [g3_s (by omega) (by omega)]; omega) (le_cons (by rw [g3_s (by omega) (by omega)]; omega) (le_cons (by rw [g3_s (by omega) (by omega)]; omega) (le_cons (by rw [g4_s (by omega) (by omega) (by omega)]; exact Int.le_min.mpr ⟨by omega, by omega⟩) (fun _ h => nomatch h)))))))))))))))
  have mem : M ∈ l5 a b c d e := by
    unfold l5
    have k1 : g4 a b c d = min p q := by rw [g4_s h1 h2 h3, hp, hq]
    have k2 : g3 a b c + (d + e) = r := by rw [g3_s h1 h2, hr]; omega
    rw [k1, k2]
    by_cases z : min p q ≤ r
    · rw [show M = min p q from by rw [hM, Int.min_eq_left z]]
      exact (.tail _ (.tail _ (.tail _ (.tail _ (.tail _ (.tail _ (.tail _ (.tail _ (.tail _ (.tail _ (.tail _ (.tail _ (.tail _ (.tail _ (.head _)))))))))))))))
    · rw [show M = r from by rw [hM, Int.min_eq_right (by omega)]]
      exact (.tail _ (.tail _ (.tail _ (.tail _ (.tail _ (.tail _ (.head _)))))))
  have e1 : minOf (l5 a b c d e) = M := (minOf_eq mem lo).symm
  rw [g5, e1, hM]
  clear lo mem e1 mp mq mr
  rw [← hp, ← hq]
  omega

theorem step5 {a b c d e : Int} (h1 : a ≤ b) (h2 : b ≤ c) (h3 : c ≤ d) (h4 : d ≤ e) : g5 a b c d e = a + b + g4 c d e (a + b) := by
  rw [g5_s h1 h2 h3 h4]
  generalize hs : a + b = s
  rcases Int.le_total s c with q | q
  · rw [← g4_23 c d e s, ← g4_12 c d s e, ← g4_01 c s d e, g4_s q h3 h4]
    omega
  · rcases Int.le_total s d with q2 | q2
    · rw [← g4_23 c d e s, ← g4_12 c d s e, g4_s q q2 h4]
      omega
    · rcases Int.le_total s e with q3 | q3
      · rw [← g4_23 c d e s, g4_s h3 q2 q3]
        omega
      · rw [g4_s h3 h4 q3]
        omega
theorem step4 {a b c d : Int} (h1 : a ≤ b) (h2 : b ≤ c) (h3 : c ≤ d) : g4 a b c d = a + b + g3 c d (a + b) := by
  rw [g4_s h1 h2 h3]
  simp only [g3, l3, minOf]
  omega
theorem step3 {a b c : Int} (h1 : a ≤ b) (h2 : b ≤ c) : g3 a b c = a + b + (c + (a + b)) := by
  rw [g3_s h1 h2]
  omega
end Mine

namespace Mine
set_option maxRecDepth 100000
set_option maxHeartbeats 100000000

theorem markL : (Str.ofString "|").cps.toList = [124] := by decide +kernel
/-- the mark stands behind j signs -/
def MarkAt (l : List Nat) (ps : List (Str × Str)) (t : Str) (j : Nat) : Prop := j ≤ l.length ∧ t.cps.toList = l.take j ++ 124 :: (l.drop j).flatMap (sub ps)
/-- what the decoding leans on -/
structure CodeOk (l : List Nat) (ps : List (Str × Str)) : Prop where
  kinds : Kinds ps
  apart : ps.Pairwise Apart
  nodup : (ps.map (·.1)).Nodup
  signs : ∀ c ∈ l, c ≤ 122 ∧ ∃ p ∈ ps, p.1 = ⟨#[c]⟩
  short : l.length + 1 + (l.flatMap (sub ps)).length ≤ 100000

theorem sub_of : ∀ {ps : List (Str × Str)}, (ps.map (·.1)).Nodup → ∀ {c : Nat} {p : Str × Str}, p ∈ ps → p.1 = ⟨#[c]⟩ → sub ps c = p.2.cps.toList
  | (k, w) :: r, hn, c, p, hp, hc => by
    rw [List.map_cons, List.nodup_cons] at hn
    rcases List.mem_cons.mp hp with rfl | hp
    · rw [sub, if_pos (by rw [show k = ⟨#[c]⟩ from hc])]
    · rw [sub, if_neg, sub_of hn.2 hp hc]
      intro e
      have : k = p.1 := by rw [hc]; exact toL_inj e
      exact hn.1 (by rw [show ((k, w) : Str × Str).1 = p.1 from this]; exact List.mem_map_of_mem hp)
theorem apart_of : ∀ {ps : List (Str × Str)}, ps.Pairwise Apart → ∀ {p q : Str × Str}, p ∈ ps → q ∈ ps → p.1 ≠ q.1 → Apart p q
  | x :: r, h, p, q, hp, hq, hne => by
    rw [List.pairwise_cons] at h
    rcases List.mem_cons.mp hp with e1 | hp2
    · rcases List.mem_cons.mp hq with e2 | hq2
      · exact absurd (by rw [e1, e2]) hne
      · rw [e1]; exact h.1 _ hq2
    · rcases List.mem_cons.mp hq with e2 | hq2
      · rw [e2]; exact (h.1 _ hp2).symm
      · exact apart_of h.2 hp2 hq2 hne
theorem sub_chars {l : List Nat} {ps : List (Str × Str)} (C : CodeOk l ps) {c : Nat} (hc : c ∈ l) : ∀ d ∈ sub ps c, d = 48 ∨ d = 49 := by
  obtain ⟨_, p, hp, e⟩ := C.signs c hc
  rw [sub_of C.nodup hp e]
  exact (C.kinds p hp).2.1
theorem rest_chars {l : List Nat} {ps : List (Str × Str)} (C : CodeOk l ps) (j : Nat) : 124 ∉ (l.drop j).flatMap (sub ps) := by
  intro h
  obtain ⟨c, hc, hd⟩ := List.mem_flatMap.mp h
  rcases sub_chars C (List.mem_of_mem_drop hc) _ hd with e | e <;> cases e

theorem one_move {l : List Nat} {ps : List (Str × Str)} (C : CodeOk l ps) {t : Str} {j : Nat} (H : MarkAt l ps t j) {p : Str × Str} (hp : p ∈ ps) :
    ∃ j', MarkAt l ps (Txt.join (p.1 ++ Str.ofString "|") (Txt.split t (Str.ofString "|" ++ p.2))) j' ∧ j ≤ j' ∧ (∀ h : j < l.length, p.1 = ⟨#[l[j]]⟩ → j < j') := by
  obtain ⟨hj, ht⟩ := H
  obtain ⟨⟨c, hc, _⟩, hw, hw0, _⟩ := C.kinds p hp
  have h1 : 124 ∉ l.take j := fun h => by
    have := (C.signs _ (List.mem_of_mem_take h)).1
    omega
  have hb : (p.1 ++ Str.ofString "|").cps.toList = [c, 124] := by rw [toL_append, markL, hc]; rfl
  rcases mark_step t (Str.ofString "|" ++ p.2) (p.1 ++ Str.ofString "|") (l.take j) _ p.2.cps.toList ht (by rw [toL_append, markL]; rfl) h1 (rest_chars C j) (fun d hd => by rcases hw d hd with e | e <;> omega) with ⟨q, hq, hr⟩ | ⟨hq, hr⟩
  · rw [hb] at hr
    by_cases hjl : j < l.length
    · have ed : l.drop j = l[j] :: l.drop (j + 1) := List.drop_eq_getElem_cons hjl
      obtain ⟨_, p2, hp2, e2⟩ := C.signs _ (List.getElem_mem hjl)
      rw [ed, List.flatMap_cons, sub_of C.nodup hp2 e2] at hq
      by_cases e : p2.1 = p.1
      · have e3 : l[j] = c := by
          rw [e, hc] at e2
          have := congrArg (fun x : Str => x.cps.toList) e2
          exact (List.cons.inj this).1.symm
        have e4 : p2.2.cps.toList = p.2.cps.toList := by
          rw [← sub_of C.nodup hp2 e2, e3, sub_of C.nodup hp hc]
        rw [e4] at hq
        have hq := List.append_cancel_left hq
        refine ⟨j + 1, ⟨hjl, ?_⟩, Nat.le_succ _, fun _ _ => Nat.lt_succ_self _⟩
        rw [hr, ← hq, List.take_add_one, List.getElem?_eq_getElem hjl, e3]
        simp
      · obtain ⟨a1, a2⟩ := apart_of C.apart hp2 hp e
        exfalso
        have q1 : p2.2.cps.toList <+: p.2.cps.toList ++ q := ⟨_, hq⟩
        have q2 : p.2.cps.toList <+: p.2.cps.toList ++ q := List.prefix_append _ _
        rcases Nat.le_total p2.2.cps.toList.length p.2.cps.toList.length with k | k
        · exact a1 (List.prefix_of_prefix_length_le q1 q2 k)
        · exact a2 (List.prefix_of_prefix_length_le q2 q1 k)
    · rw [List.drop_eq_nil_of_le (by omega), List.flatMap_nil] at hq
      exact absurd (List.append_eq_nil_iff.mp hq.symm).1 hw0
  · refine ⟨j, ⟨hj, by rw [hr]; exact ht⟩, Nat.le_refl _, fun hjl e => ?_⟩
    exfalso
    have ed : l.drop j = l[j] :: l.drop (j + 1) := List.drop_eq_getElem_cons hjl
    exact hq _ (by rw [ed, List.flatMap_cons, sub_of C.nodup hp e])

theorem back_append (ys : List Str) : ∀ (r : List (Str × Str)) (t : Str), replF t (backL r ++ ys) = replF (replF t (backL r)) ys
  | [], _ => rfl
  | p :: r, t => back_append ys r _
theorem back_okApp (ys : List Str) : ∀ (r : List (Str × Str)) (t : Str), okF t (backL r) → okF (replF t (backL r)) ys → okF t (backL r ++ ys)
  | [], _, _, h => h
  | p :: r, t, h, k => ⟨h.1, h.2.1, h.2.2.1, back_okApp ys r _ h.2.2.2 k⟩

theorem mark_len {l : List Nat} {ps : List (Str × Str)} (C : CodeOk l ps) {t : Str} {j : Nat} (H : MarkAt l ps t j) : t.length ≤ 100000 := by
  have e := congrArg List.length H.2
  have h := C.short
  rw [toL_length, List.length_append, List.length_cons, List.length_take] at e
  have e2 : (l.flatMap (sub ps)).length = ((l.take j).flatMap (sub ps)).length + ((l.drop j).flatMap (sub ps)).length := by
    rw [← List.length_append, ← List.flatMap_append, List.take_append_drop]
  omega
theorem one_round {l : List Nat} {ps : List (Str × Str)} (C : CodeOk l ps) : ∀ (r : List (Str × Str)), (∀ p ∈ r, p ∈ ps) → ∀ (t : Str) (j : Nat), MarkAt l ps t j →
    okF t (backL r) ∧ ∃ j', MarkAt l ps (replF t (backL r)) j' ∧ j ≤ j' ∧ (∀ h : j < l.length, (∃ p ∈ r, p.1 = ⟨#[l[j]]⟩) → j < j')
  | [], _, t, j, H => ⟨trivial, j, H, Nat.le_refl _, fun _ ⟨_, h, _⟩ => nomatch h⟩
  | p :: r, hs, t, j, H => by
    obtain ⟨j1, H1, g1, m1⟩ := one_move C H (hs p (.head _))
    obtain ⟨ok, j2, H2, g2, m2⟩ := one_round C r (fun q hq => hs q (.tail _ hq)) _ j1 H1
    obtain ⟨⟨c, hc, _⟩, _⟩ := C.kinds p (hs p (.head _))
    refine ⟨⟨mark_len C H, ?_, ?_, ok⟩, j2, H2, Nat.le_trans g1 g2, fun h ⟨q, hq, e⟩ => ?_⟩
    · rw [← toL_length, toL_append, markL, hc]
      exact (by decide : 2 ≤ 100)
    · rw [← toL_length, toL_append, markL]
      exact Nat.succ_ne_zero _
    · rcases List.mem_cons.mp hq with rfl | hq
      · exact Nat.lt_of_lt_of_le (m1 h e) g2
      · rcases Nat.eq_or_lt_of_le g1 with rfl | k
        · exact m2 h ⟨q, hq, e⟩
        · exact Nat.lt_of_lt_of_le k g2
theorem all_rounds {l : List Nat} {ps : List (Str × Str)} (C : CodeOk l ps) : ∀ (m : Nat) (t : Str) (j : Nat), MarkAt l ps t j → l.length ≤ j + m →
    okF t (List.replicate m (backL ps)).flatten ∧ MarkAt l ps (replF t (List.replicate m (backL ps)).flatten) l.length
  | 0, t, j, H, hm => by
    have : j = l.length := Nat.le_antisymm H.1 hm
    subst this
    exact ⟨trivial, H⟩
  | m + 1, t, j, H, hm => by
    obtain ⟨ok, j2, H2, g2, m2⟩ := one_round C ps (fun _ h => h) t j H
    have hj2 : l.length ≤ j2 + m := by
      by_cases h : j < l.length
      · have := m2 h (C.signs _ (List.getElem_mem h)).2
        omega
      · omega
    obtain ⟨ok2, H3⟩ := all_rounds C m _ j2 H2 hj2
    rw [List.replicate_succ, List.flatten_cons, back_append]
    exact ⟨back_okApp _ _ _ ok ok2, H3⟩
/-- the code, read back -/
theorem decode {sp coded : Str} {ps : List (Str × Str)} (C : CodeOk sp.cps.toList ps) (hc : coded.cps.toList = sp.cps.toList.flatMap (sub ps)) :
    okF (Str.ofString "|" ++ coded) (List.replicate sp.length (backL ps)).flatten ∧ replF (Str.ofString "|" ++ coded) (List.replicate sp.length (backL ps)).flatten = sp ++ Str.ofString "|" := by
  obtain ⟨ok, H⟩ := all_rounds C sp.length (Str.ofString "|" ++ coded) 0 ⟨Nat.zero_le _, by rw [toL_append, markL, hc]; rfl⟩ (by rw [toL_length]; omega)
  refine ⟨ok, toL_inj ?_⟩
  rw [H.2, toL_append, markL, List.take_length, List.drop_length]
  rfl
end Mine

namespace Mine
set_option maxRecDepth 100000
set_option maxHeartbeats 100000000

theorem getD_app {l m : List Int} {k : Nat} (h : k < l.length) : (l ++ m).getD k 0 = l.getD k 0 := by
  rw [List.getD_eq_getElem?_getD, List.getD_eq_getElem?_getD, List.getElem?_append_left h]
theorem least_keep (ws : List Int) (i k : Nat) (hk : k ≤ i) : ∀ d : Nat, (leastL ws (i + d)).getD k 0 = (leastL ws i).getD k 0
  | 0 => rfl
  | d + 1 => by
    rw [show i + (d + 1) = (i + d) + 1 from rfl, leastL_succ, getD_app (by rw [leastL_length]; omega), least_keep ws i k hk d]
theorem foldl_same {f g : List Int → Int → List Int} : ∀ (l : List Int) (acc : List Int), (∀ k ∈ l, ∀ a, f a k = g a k) → l.foldl f acc = l.foldl g acc
  | [], _, _ => rfl
  | x :: l, acc, h => by
    rw [List.foldl_cons, List.foldl_cons, h x (.head _), foldl_same l _ fun k hk => h k (.tail _ hk)]
theorem costs_same {l m : List Int} {i : Nat} (h : ∀ k : Nat, k ≤ i → l.getD k 0 = m.getD k 0) : costsOf l (1 + (i : Int)) ((i + 1) / 2) = costsOf m (1 + (i : Int)) ((i + 1) / 2) := by
  unfold costsOf
  refine foldl_same _ _ fun k hk a => ?_
  have hb := mem_rangeKs hk
  unfold costStep
  rw [h k.toNat (by omega), h (1 + (i : Int) - k).toNat (by omega)]
theorem least_cell (ws : List Int) (i : Nat) (hi : i < 31) : (leastL ws 31).getD (i + 1) 0 =
    if costsOf (leastL ws 31) (1 + (i : Int)) ((i + 1) / 2) = [] then 0 else minOf (costsOf (leastL ws 31) (1 + (i : Int)) ((i + 1) / 2)) + (sumsOf ws (1 + (i : Int))).sum := by
  obtain ⟨d, hd⟩ : ∃ d, 30 = i + d := ⟨30 - i, by omega⟩
  have e := least_keep ws (i + 1) (i + 1) (Nat.le_refl _) d
  rw [show i + 1 + d = 31 from by omega] at e
  rw [e, leastL_succ, List.getD_eq_getElem?_getD, List.getElem?_append_right (by rw [leastL_length]; exact Nat.le_refl _), leastL_length, Nat.sub_self]
  rw [costs_same (l := leastL ws 31) (m := leastL ws i) fun k hk => ?_]
  · rfl
  · have := least_keep ws i k hk (d + 1)
    rw [show i + (d + 1) = 31 from by omega] at this
    exact this
section
variable (a b c d e : Int) (l : List Int)
theorem cs1 : costsOf l (1 + ((0 : Nat) : Int)) ((0 + 1) / 2) = [] := by rfl
theorem sm1 : sumsOf [a, b, c, d, e] (1 + ((0 : Nat) : Int)) = [a] := by rfl
theorem cs2 : costsOf l (1 + ((1 : Nat) : Int)) ((1 + 1) / 2) = [] := by rfl
theorem sm2 : sumsOf [a, b, c, d, e] (1 + ((1 : Nat) : Int)) = [b] := by rfl
theorem cs3 : costsOf l (1 + ((2 : Nat) : Int)) ((2 + 1) / 2) = [l.getD 1 0 + l.getD 2 0] := by rfl
theorem sm3 : sumsOf [a, b, c, d, e] (1 + ((2 : Nat) : Int)) = [a, b] := by rfl
theorem cs4 : costsOf l (1 + ((3 : Nat) : Int)) ((3 + 1) / 2) = [] := by rfl
theorem sm4 : sumsOf [a, b, c, d, e] (1 + ((3 : Nat) : Int)) = [c] := by rfl
theorem cs5 : costsOf l (1 + ((4 : Nat) : Int)) ((4 + 1) / 2) = [l.getD 1 0 + l.getD 4 0] := by rfl
theorem sm5 : sumsOf [a, b, c, d, e] (1 + ((4 : Nat) : Int)) = [a, c] := by rfl
theorem cs6 : costsOf l (1 + ((5 : Nat) : Int)) ((5 + 1) / 2) = [l.getD 2 0 + l.getD 4 0] := by rfl
theorem sm6 : sumsOf [a, b, c, d, e] (1 + ((5 : Nat) : Int)) = [b, c] := by rfl
theorem cs7 : costsOf l (1 + ((6 : Nat) : Int)) ((6 + 1) / 2) = [l.getD 1 0 + l.getD 6 0, l.getD 2 0 + l.getD 5 0, l.getD 3 0 + l.getD 4 0] := by rfl
theorem sm7 : sumsOf [a, b, c, d, e] (1 + ((6 : Nat) : Int)) = [a, b, c] := by rfl
theorem cs8 : costsOf l (1 + ((7 : Nat) : Int)) ((7 + 1) / 2) = [] := by rfl
theorem sm8 : sumsOf [a, b, c, d, e] (1 + ((7 : Nat) : Int)) = [d] := by rfl
theorem cs9 : costsOf l (1 + ((8 : Nat) : Int)) ((8 + 1) / 2) = [l.getD 1 0 + l.getD 8 0] := by rfl
theorem sm9 : sumsOf [a, b, c, d, e] (1 + ((8 : Nat) : Int)) = [a, d] := by rfl
theorem cs10 : costsOf l (1 + ((9 : Nat) : Int)) ((9 + 1) / 2) = [l.getD 2 0 + l.getD 8 0] := by rfl
theorem sm10 : sumsOf [a, b, c, d, e] (1 + ((9 : Nat) : Int)) = [b, d] := by rfl
theorem cs11 : costsOf l (1 + ((10 : Nat) : Int)) ((10 + 1) / 2) = [l.getD 1 0 + l.getD 10 0, l.getD 2 0 + l.getD 9 0, l.getD 3 0 + l.getD 8 0] := by rfl
theorem sm11 : sumsOf [a, b, c, d, e] (1 + ((10 : Nat) : Int)) = [a, b, d] := by rfl
theorem cs12 : costsOf l (1 + ((11 : Nat) : Int)) ((11 + 1) / 2) = [l.getD 4 0 + l.getD 8 0] := by rfl
theorem sm12 : sumsOf [a, b, c, d, e] (1 + ((11 : Nat) : Int)) = [c, d] := by rfl
theorem cs13 : costsOf l (1 + ((12 : Nat) : Int)) ((12 + 1) / 2) = [l.getD 1 0 + l.getD 12 0, l.getD 4 0 + l.getD 9 0, l.getD 5 0 + l.getD 8 0] := by rfl
theorem sm13 : sumsOf [a, b, c, d, e] (1 + ((12 : Nat) : Int)) = [a, c, d] := by rfl
theorem cs14 : costsOf l (1 + ((13 : Nat) : Int)) ((13 + 1) / 2) = [l.getD 2 0 + l.getD 12 0, l.getD 4 0 + l.getD 10 0, l.getD 6 0 + l.getD 8 0] := by rfl
theorem sm14 : sumsOf [a, b, c, d, e] (1 + ((13 : Nat) : Int)) = [b, c, d] := by rfl
theorem cs15 : costsOf l (1 + ((14 : Nat) : Int)) ((14 + 1) / 2) = [l.getD 1 0 + l.getD 14 0, l.getD 2 0 + l.getD 13 0, l.getD 3 0 + l.getD 12 0, l.getD 4 0 + l.getD 11 0, l.getD 5 0 + l.getD 10 0, l.getD 6 0 + l.getD 9 0, l.getD 7 0 + l.getD 8 0] := by rfl
theorem sm15 : sumsOf [a, b, c, d, e] (1 + ((14 : Nat) : Int)) = [a, b, c, d] := by rfl
theorem cs16 : costsOf l (1 + ((15 : Nat) : Int)) ((15 + 1) / 2) = [] := by rfl
theorem sm16 : sumsOf [a, b, c, d, e] (1 + ((15 : Nat) : Int)) = [e] := by rfl
theorem cs17 : costsOf l (1 + ((16 : Nat) : Int)) ((16 + 1) / 2) = [l.getD 1 0 + l.getD 16 0] := by rfl
theorem sm17 : sumsOf [a, b, c, d, e] (1 + ((16 : Nat) : Int)) = [a, e] := by rfl
theorem cs18 : costsOf l (1 + ((17 : Nat) : Int)) ((17 + 1) / 2) = [l.getD 2 0 + l.getD 16 0] := by rfl
theorem sm18 : sumsOf [a, b, c, d, e] (1 + ((17 : Nat) : Int)) = [b, e] := by rfl
theorem cs19 : costsOf l (1 + ((18 : Nat) : Int)) ((18 + 1) / 2) = [l.getD 1 0 + l.getD 18 0, l.getD 2 0 + l.getD 17 0, l.getD 3 0 + l.getD 16 0] := by rfl
theorem sm19 : sumsOf [a, b, c, d, e] (1 + ((18 : Nat) : Int)) = [a, b, e] := by rfl
theorem cs20 : costsOf l (1 + ((19 : Nat) : Int)) ((19 + 1) / 2) = [l.getD 4 0 + l.getD 16 0] := by rfl
theorem sm20 : sumsOf [a, b, c, d, e] (1 + ((19 : Nat) : Int)) = [c, e] := by rfl
theorem cs21 : costsOf l (1 + ((20 : Nat) : Int)) ((20 + 1) / 2) = [l.getD 1 0 + l.getD 20 0, l.getD 4 0 + l.getD 17 0, l.getD 5 0 + l.getD 16 0] := by rfl
theorem sm21 : sumsOf [a, b, c, d, e] (1 + ((20 : Nat) : Int)) = [a, c, e] := by rfl
theorem cs22 : costsOf l (1 + ((21 : Nat) : Int)) ((21 + 1) / 2) = [l.getD 2 0 + l.getD 20 0, l.getD 4 0 + l.getD 18 0, l.getD 6 0 + l.getD 16 0] := by rfl
theorem sm22 : sumsOf [a, b, c, d, e] (1 + ((21 : Nat) : Int)) = [b, c, e] := by rfl
theorem cs23 : costsOf l (1 + ((22 : Nat) : Int)) ((22 + 1) / 2) = [l.getD 1 0 + l.getD 22 0, l.getD 2 0 + l.getD 21 0, l.getD 3 0 + l.getD 20 0, l.getD 4 0 + l.getD 19 0, l.getD 5 0 + l.getD 18 0, l.getD 6 0 + l.getD 17 0, l.getD 7 0 + l.getD 16 0] := by rfl
theorem sm23 : sumsOf [a, b, c, d, e] (1 + ((22 : Nat) : Int)) = [a, b, c, e] := by rfl
theorem cs24 : costsOf l (1 + ((23 : Nat) : Int)) ((23 + 1) / 2) = [l.getD 8 0 + l.getD 16 0] := by rfl
theorem sm24 : sumsOf [a, b, c, d, e] (1 + ((23 : Nat) : Int)) = [d, e] := by rfl
theorem cs25 : costsOf l (1 + ((24 : Nat) : Int)) ((24 + 1) / 2) = [l.getD 1 0 + l.getD 24 0, l.getD 8 0 + l.getD 17 0, l.getD 9 0 + l.getD 16 0] := by rfl
theorem sm25 : sumsOf [a, b, c, d, e] (1 + ((24 : Nat) : Int)) = [a, d, e] := by rfl
theorem cs26 : costsOf l (1 + ((25 : Nat) : Int)) ((25 + 1) / 2) = [l.getD 2 0 + l.getD 24 0, l.getD 8 0 + l.getD 18 0, l.getD 10 0 + l.getD 16 0] := by rfl
theorem sm26 : sumsOf [a, b, c, d, e] (1 + ((25 : Nat) : Int)) = [b, d, e] := by rfl
theorem cs27 : costsOf l (1 + ((26 : Nat) : Int)) ((26 + 1) / 2) = [l.getD 1 0 + l.getD 26 0, l.getD 2 0 + l.getD 25 0, l.getD 3 0 + l.getD 24 0, l.getD 8 0 + l.getD 19 0, l.getD 9 0 + l.getD 18 0, l.getD 10 0 + l.getD 17 0, l.getD 11 0 + l.getD 16 0] := by rfl
theorem sm27 : sumsOf [a, b, c, d, e] (1 + ((26 : Nat) : Int)) = [a, b, d, e] := by rfl
theorem cs28 : costsOf l (1 + ((27 : Nat) : Int)) ((27 + 1) / 2) = [l.getD 4 0 + l.getD 24 0, l.getD 8 0 + l.getD 20 0, l.getD 12 0 + l.getD 16 0] := by rfl
theorem sm28 : sumsOf [a, b, c, d, e] (1 + ((27 : Nat) : Int)) = [c, d, e] := by rfl
theorem cs29 : costsOf l (1 + ((28 : Nat) : Int)) ((28 + 1) / 2) = [l.getD 1 0 + l.getD 28 0, l.getD 4 0 + l.getD 25 0, l.getD 5 0 + l.getD 24 0, l.getD 8 0 + l.getD 21 0, l.getD 9 0 + l.getD 20 0, l.getD 12 0 + l.getD 17 0, l.getD 13 0 + l.getD 16 0] := by rfl
theorem sm29 : sumsOf [a, b, c, d, e] (1 + ((28 : Nat) : Int)) = [a, c, d, e] := by rfl
theorem cs30 : costsOf l (1 + ((29 : Nat) : Int)) ((29 + 1) / 2) = [l.getD 2 0 + l.getD 28 0, l.getD 4 0 + l.getD 26 0, l.getD 6 0 + l.getD 24 0, l.getD 8 0 + l.getD 22 0, l.getD 10 0 + l.getD 20 0, l.getD 12 0 + l.getD 18 0, l.getD 14 0 + l.getD 16 0] := by rfl
theorem sm30 : sumsOf [a, b, c, d, e] (1 + ((29 : Nat) : Int)) = [b, c, d, e] := by rfl
theorem cs31 : costsOf l (1 + ((30 : Nat) : Int)) ((30 + 1) / 2) = [l.getD 1 0 + l.getD 30 0, l.getD 2 0 + l.getD 29 0, l.getD 3 0 + l.getD 28 0, l.getD 4 0 + l.getD 27 0, l.getD 5 0 + l.getD 26 0, l.getD 6 0 + l.getD 25 0, l.getD 7 0 + l.getD 24 0, l.getD 8 0 + l.getD 23 0, l.getD 9 0 + l.getD 22 0, l.getD 10 0 + l.getD 21 0, l.getD 11 0 + l.getD 20 0, l.getD 12 0 + l.getD 19 0, l.getD 13 0 + l.getD 18 0, l.getD 14 0 + l.getD 17 0, l.getD 15 0 + l.getD 16 0] := by rfl
theorem sm31 : sumsOf [a, b, c, d, e] (1 + ((30 : Nat) : Int)) = [a, b, c, d, e] := by rfl
end
theorem least_is (a b c d e : Int) : (leastL [a, b, c, d, e] 31).getD 31 0 = g5 a b c d e := by
  have cell := least_cell [a, b, c, d, e]
  generalize leastL [a, b, c, d, e] 31 = l at cell
  have v1 : l.getD 1 0 = 0 := by
    have q := cell 0 (by decide)
    rw [cs1, if_pos rfl] at q
    exact q
  have v2 : l.getD 2 0 = 0 := by
    have q := cell 1 (by decide)
    rw [cs2, if_pos rfl] at q
    exact q
  have v4 : l.getD 4 0 = 0 := by
    have q := cell 3 (by decide)
    rw [cs4, if_pos rfl] at q
    exact q
  have v8 : l.getD 8 0 = 0 := by
    have q := cell 7 (by decide)
    rw [cs8, if_pos rfl] at q
    exact q
  have v16 : l.getD 16 0 = 0 := by
    have q := cell 15 (by decide)
    rw [cs16, if_pos rfl] at q
    exact q
  have v3 : l.getD 3 0 = a + b := by
    have q := cell 2 (by decide)
    rw [cs3, sm3, if_neg (by simp), v1, v2] at q
    simp only [minOf, List.sum_cons, List.sum_nil] at q
    rw [show l.getD 3 0 = l.getD (2 + 1) 0 from rfl, q]
    omega
  have v5 : l.getD 5 0 = a + c := by
    have q := cell 4 (by decide)
    rw [cs5, sm5, if_neg (by simp), v1, v4] at q
    simp only [minOf, List.sum_cons, List.sum_nil] at q
    rw [show l.getD 5 0 = l.getD (4 + 1) 0 from rfl, q]
    omega
  have v6 : l.getD 6 0 = b + c := by
    have q := cell 5 (by decide)
    rw [cs6, sm6, if_neg (by simp), v2, v4] at q
    simp only [minOf, List.sum_cons, List.sum_nil] at q
    rw [show l.getD 6 0 = l.getD (5 + 1) 0 from rfl, q]
    omega
  have v9 : l.getD 9 0 = a + d := by
    have q := cell 8 (by decide)
    rw [cs9, sm9, if_neg (by simp), v1, v8] at q
    simp only [minOf, List.sum_cons, List.sum_nil] at q
    rw [show l.getD 9 0 = l.getD (8 + 1) 0 from rfl, q]
    omega
  have v10 : l.getD 10 0 = b + d := by
    have q := cell 9 (by decide)
    rw [cs10, sm10, if_neg (by simp), v2, v8] at q
    simp only [minOf, List.sum_cons, List.sum_nil] at q
    rw [show l.getD 10 0 = l.getD (9 + 1) 0 from rfl, q]
    omega
  have v12 : l.getD 12 0 = c + d := by
    have q := cell 11 (by decide)
    rw [cs12, sm12, if_neg (by simp), v4, v8] at q
    simp only [minOf, List.sum_cons, List.sum_nil] at q
    rw [show l.getD 12 0 = l.getD (11 + 1) 0 from rfl, q]
    omega
  have v17 : l.getD 17 0 = a + e := by
    have q := cell 16 (by decide)
    rw [cs17, sm17, if_neg (by simp), v1, v16] at q
    simp only [minOf, List.sum_cons, List.sum_nil] at q
    rw [show l.getD 17 0 = l.getD (16 + 1) 0 from rfl, q]
    omega
  have v18 : l.getD 18 0 = b + e := by
    have q := cell 17 (by decide)
    rw [cs18, sm18, if_neg (by simp), v2, v16] at q
    simp only [minOf, List.sum_cons, List.sum_nil] at q
    rw [show l.getD 18 0 = l.getD (17 + 1) 0 from rfl, q]
    omega
  have v20 : l.getD 20 0 = c + e := by
    have q := cell 19 (by decide)
    rw [cs20, sm20, if_neg (by simp), v4, v16] at q
    simp only [minOf, List.sum_cons, List.sum_nil] at q
    rw [show l.getD 20 0 = l.getD (19 + 1) 0 from rfl, q]
    omega
  have v24 : l.getD 24 0 = d + e := by
    have q := cell 23 (by decide)
    rw [cs24, sm24, if_neg (by simp), v8, v16] at q
    simp only [minOf, List.sum_cons, List.sum_nil] at q
    rw [show l.getD 24 0 = l.getD (23 + 1) 0 from rfl, q]
    omega
  have v7 : l.getD 7 0 = g3 a b c := by
    have q := cell 6 (by decide)
    rw [cs7, sm7, if_neg (by simp), v1, v2, v3, v4, v5, v6] at q
    rw [show l.getD 7 0 = l.getD (6 + 1) 0 from rfl, q]
    simp only [g3, l3, Int.zero_add, Int.add_zero, List.sum_cons, List.sum_nil]
    omega
  have v11 : l.getD 11 0 = g3 a b d := by
    have q := cell 10 (by decide)
    rw [cs11, sm11, if_neg (by simp), v1, v2, v3, v8, v9, v10] at q
    rw [show l.getD 11 0 = l.getD (10 + 1) 0 from rfl, q]
    simp only [g3, l3, Int.zero_add, Int.add_zero, List.sum_cons, List.sum_nil]
    omega
  have v13 : l.getD 13 0 = g3 a c d := by
    have q := cell 12 (by decide)
    rw [cs13, sm13, if_neg (by simp), v1, v4, v5, v8, v9, v12] at q
    rw [show l.getD 13 0 = l.getD (12 + 1) 0 from rfl, q]
    simp only [g3, l3, Int.zero_add, Int.add_zero, List.sum_cons, List.sum_nil]
    omega
  have v14 : l.getD 14 0 = g3 b c d := by
    have q := cell 13 (by decide)
    rw [cs14, sm14, if_neg (by simp), v2, v4, v6, v8, v10, v12] at q
    rw [show l.getD 14 0 = l.getD (13 + 1) 0 from rfl, q]
    simp only [g3, l3, Int.zero_add, Int.add_zero, List.sum_cons, List.sum_nil]
    omega
  have v19 : l.getD 19 0 = g3 a b e := by
    have q := cell 18 (by decide)
    rw [cs19, sm19, if_neg (by simp), v1, v2, v3, v16, v17, v18] at q
    rw [show l.getD 19 0 = l.getD (18 + 1) 0 from rfl, q]
    simp only [g3, l3, Int.zero_add, Int.add_zero, List.sum_cons, List.sum_nil]
    omega
  have v21 : l.getD 21 0 = g3 a c e := by
    have q := cell 20 (by decide)
    rw [cs21, sm21, if_neg (by simp), v1, v4, v5, v16, v17, v20] at q
    rw [show l.getD 21 0 = l.getD (20 + 1) 0 from rfl, q]
    simp only [g3, l3, Int.zero_add, Int.add_zero, List.sum_cons, List.sum_nil]
    omega
  have v22 : l.getD 22 0 = g3 b c e := by
    have q := cell 21 (by decide)
    rw [cs22, sm22, if_neg (by simp), v2, v4, v6, v16, v18, v20] at q
    rw [show l.getD 22 0 = l.getD (21 + 1) 0 from rfl, q]
    simp only [g3, l3, Int.zero_add, Int.add_zero, List.sum_cons, List.sum_nil]
    omega
  have v25 : l.getD 25 0 = g3 a d e := by
    have q := cell 24 (by decide)
    rw [cs25, sm25, if_neg (by simp), v1, v8, v9, v16, v17, v24] at q
    rw [show l.getD 25 0 = l.getD (24 + 1) 0 from rfl, q]
    simp only [g3, l3, Int.zero_add, Int.add_zero, List.sum_cons, List.sum_nil]
    omega
  have v26 : l.getD 26 0 = g3 b d e := by
    have q := cell 25 (by decide)
    rw [cs26, sm26, if_neg (by simp), v2, v8, v10, v16, v18, v24] at q
    rw [show l.getD 26 0 = l.getD (25 + 1) 0 from rfl, q]
    simp only [g3, l3, Int.zero_add, Int.add_zero, List.sum_cons, List.sum_nil]
    omega
  have v28 : l.getD 28 0 = g3 c d e := by
    have q := cell 27 (by decide)
    rw [cs28, sm28, if_neg (by simp), v4, v8, v12, v16, v20, v24] at q
    rw [show l.getD 28 0 = l.getD (27 + 1) 0 from rfl, q]
    simp only [g3, l3, Int.zero_add, Int.add_zero, List.sum_cons, List.sum_nil]
    omega
  have v15 : l.getD 15 0 = g4 a b c d := by
    have q := cell 14 (by decide)
    rw [cs15, sm15, if_neg (by simp), v1, v2, v3, v4, v5, v6, v7, v8, v9, v10, v11, v12, v13, v14] at q
    rw [show l.getD 15 0 = l.getD (14 + 1) 0 from rfl, q]
    simp only [g4, l4, Int.zero_add, Int.add_zero, List.sum_cons, List.sum_nil]
    omega
  have v23 : l.getD 23 0 = g4 a b c e := by
    have q := cell 22 (by decide)
    rw [cs23, sm23, if_neg (by simp), v1, v2, v3, v4, v5, v6, v7, v16, v17, v18, v19, v20, v21, v22] at q
    rw [show l.getD 23 0 = l.getD (22 + 1) 0 from rfl, q]
    simp only [g4, l4, Int.zero_add, Int.add_zero, List.sum_cons, List.sum_nil]
    omega
  have v27 : l.getD 27 0 = g4 a b d e := by
    have q := cell 26 (by decide)
    rw [cs27, sm27, if_neg (by simp), v1, v2, v3, v8, v9, v10, v11, v16, v17, v18, v19, v24, v25, v26] at q
    rw [show l.getD 27 0 = l.getD (26 + 1) 0 from rfl, q]
    simp only [g4, l4, Int.zero_add, Int.add_zero, List.sum_cons, List.sum_nil]
    omega
  have v29 : l.getD 29 0 = g4 a c d e := by
    have q := cell 28 (by decide)
    rw [cs29, sm29, if_neg (by simp), v1, v4, v5, v8, v9, v12, v13, v16, v17, v20, v21, v24, v25, v28] at q
    rw [show l.getD 29 0 = l.getD (28 + 1) 0 from rfl, q]
    simp only [g4, l4, Int.zero_add, Int.add_zero, List.sum_cons, List.sum_nil]
    omega
  have v30 : l.getD 30 0 = g4 b c d e := by
    have q := cell 29 (by decide)
    rw [cs30, sm30, if_neg (by simp), v2, v4, v6, v8, v10, v12, v14, v16, v18, v20, v22, v24, v26, v28] at q
    rw [show l.getD 30 0 = l.getD (29 + 1) 0 from rfl, q]
    simp only [g4, l4, Int.zero_add, Int.add_zero, List.sum_cons, List.sum_nil]
    omega
  have v31 : l.getD 31 0 = g5 a b c d e := by
    have q := cell 30 (by decide)
    rw [cs31, sm31, if_neg (by simp), v1, v2, v3, v4, v5, v6, v7, v8, v9, v10, v11, v12, v13, v14, v15, v16, v17, v18, v19, v20, v21, v22, v23, v24, v25, v26, v27, v28, v29, v30] at q
    rw [show l.getD 31 0 = l.getD (30 + 1) 0 from rfl, q]
    simp only [g5, l5, Int.zero_add, Int.add_zero, List.sum_cons, List.sum_nil]
    omega
  exact v31
end Mine

namespace Mine
set_option maxRecDepth 100000
set_option maxHeartbeats 100000000

theorem filter_perm {α : Type} (f : α → Bool) : ∀ l : List α, (l.filter f ++ l.filter fun y => !f y).Perm l
  | [] => .refl _
  | x :: l => by
    have ih := filter_perm f l
    cases h : f x
    · rw [List.filter_cons_of_neg (by rw [h]; decide), List.filter_cons_of_pos (by rw [h]; rfl)]
      exact List.perm_middle.trans (ih.cons x)
    · rw [List.filter_cons_of_pos h, List.filter_cons_of_neg (by rw [h]; decide)]
      exact ih.cons x
theorem risen_perm : ∀ (k : Nat) (ns : List (Int × Tree)), ns.length ≤ k → (risenF k ns).Perm ns
  | 0, [], _ => .refl _
  | _ + 1, [], _ => .refl _
  | k + 1, x :: xs, h => by
    have hx : xs.length ≤ k := Nat.le_of_succ_le_succ h
    have h1 := risen_perm k (xs.filter fun y => decide (y.1 < x.1)) (Nat.le_trans (List.length_filter_le _ _) hx)
    have h2 := risen_perm k (xs.filter fun y => !decide (y.1 < x.1)) (Nat.le_trans (List.length_filter_le _ _) hx)
    have h3 := filter_perm (fun y : Int × Tree => decide (y.1 < x.1)) xs
    show (risenF k _ ++ [x] ++ risenF k _).Perm _
    rw [List.append_assoc]
    exact List.perm_middle.trans (((h1.append h2).trans h3).cons x)
theorem risen_sorted : ∀ (k : Nat) (ns : List (Int × Tree)), ns.length ≤ k → (risenF k ns).Pairwise fun p q => p.1 ≤ q.1
  | 0, [], _ => .nil
  | _ + 1, [], _ => .nil
  | k + 1, x :: xs, h => by
    have hx : xs.length ≤ k := Nat.le_of_succ_le_succ h
    have l1 := Nat.le_trans (List.length_filter_le (fun y : Int × Tree => decide (y.1 < x.1)) xs) hx
    have l2 := Nat.le_trans (List.length_filter_le (fun y : Int × Tree => !decide (y.1 < x.1)) xs) hx
    have h1 := risen_sorted k _ l1
    have h2 := risen_sorted k _ l2
    have m1 : ∀ y ∈ risenF k (xs.filter fun y => decide (y.1 < x.1)), y.1 < x.1 := fun y hy => by
      have := (List.mem_filter.mp ((risen_perm k _ l1).mem_iff.mp hy)).2
      exact of_decide_eq_true this
    have m2 : ∀ y ∈ risenF k (xs.filter fun y => !decide (y.1 < x.1)), x.1 ≤ y.1 := fun y hy => by
      have := (List.mem_filter.mp ((risen_perm k _ l2).mem_iff.mp hy)).2
      simp at this
      exact this
    show (risenF k _ ++ [x] ++ risenF k _).Pairwise _
    rw [List.append_assoc, List.pairwise_append]
    refine ⟨h1, ?_, fun y hy z hz => ?_⟩
    · rw [List.singleton_append, List.pairwise_cons]
      exact ⟨m2, h2⟩
    · rw [List.singleton_append] at hz
      rcases List.mem_cons.mp hz with e | hz
      · rw [e]; exact Int.le_of_lt (m1 y hy)
      · exact Int.le_trans (Int.le_of_lt (m1 y hy)) (m2 z hz)

/-- the least cost, of one to five weights -/
def gL : List Int → Int
  | [a, b] => a + b
  | [a, b, c] => g3 a b c
  | [a, b, c, d] => g4 a b c d
  | [a, b, c, d, e] => g5 a b c d e
  | _ => 0
theorem gL_swap (x y : Int) : ∀ (pre l : List Int), gL (pre ++ y :: x :: l) = gL (pre ++ x :: y :: l)
  | [], [] => Int.add_comm _ _
  | [], [_] => g3_01 _ _ _
  | [], [_, _] => g4_01 _ _ _ _
  | [], [_, _, _] => g5_01 _ _ _ _ _
  | [], _ :: _ :: _ :: _ :: _ => rfl
  | [_], [] => g3_12 _ _ _
  | [_], [_] => g4_12 _ _ _ _
  | [_], [_, _] => g5_12 _ _ _ _ _
  | [_], _ :: _ :: _ :: _ => rfl
  | [_, _], [] => g4_23 _ _ _ _
  | [_, _], [_] => g5_23 _ _ _ _ _
  | [_, _], _ :: _ :: _ => rfl
  | [_, _, _], [] => g5_34 _ _ _ _ _
  | [_, _, _], _ :: _ => rfl
  | [_, _, _, _], _ => rfl
  | [_, _, _, _, _], _ => rfl
  | _ :: _ :: _ :: _ :: _ :: _ :: _, _ => rfl
theorem gL_perm' {l l' : List Int} (h : l.Perm l') : ∀ pre : List Int, gL (pre ++ l) = gL (pre ++ l') := by
  induction h with
  | nil => exact fun _ => rfl
  | cons x _ ih =>
    intro pre
    have := ih (pre ++ [x])
    rw [List.append_assoc, List.append_assoc] at this
    exact this
  | swap x y l => exact fun pre => gL_swap x y pre l
  | trans _ _ h1 h2 => exact fun pre => (h1 pre).trans (h2 pre)
theorem gL_perm {l l' : List Int} (h : l.Perm l') : gL l = gL l' := gL_perm' h []
theorem gL_step : ∀ (a b : Int) (r : List Int), r.length ≤ 3 → (a :: b :: r).Pairwise (· ≤ ·) → gL (a :: b :: r) = a + b + gL (r ++ [a + b])
  | a, b, [], _, _ => (Int.add_zero _).symm
  | a, b, [c], _, h => by
    simp only [List.pairwise_cons, List.mem_cons, List.not_mem_nil, or_false, forall_eq_or_imp, forall_eq] at h
    exact step3 h.1.1 h.2.1
  | a, b, [c, d], _, h => by
    simp only [List.pairwise_cons, List.mem_cons, List.not_mem_nil, or_false, forall_eq_or_imp, forall_eq] at h
    exact step4 h.1.1 h.2.1.1 h.2.2.1
  | a, b, [c, d, e], _, h => by
    simp only [List.pairwise_cons, List.mem_cons, List.not_mem_nil, or_false, forall_eq_or_imp, forall_eq] at h
    exact step5 h.1.1 h.2.1.1 h.2.2.1.1 h.2.2.2.1
  | _, _, _ :: _ :: _ :: _ :: _, h, _ => by simp only [List.length_cons] at h; omega

structure Huff (f : Str → Int) (K : Int) (lv : List Str) (ns : List (Int × Tree)) : Prop where
  wt : ∀ y ∈ ns, y.1 = y.2.wt f
  lv : (ns.flatMap fun y => y.2.leaves).Perm lv
  cost : gL (ns.map (·.1)) + (ns.map fun y => y.2.cost f).sum = K
theorem sum_perm {l l' : List Int} (h : l.Perm l') : l.sum = l'.sum := by
  induction h with
  | nil => rfl
  | cons x _ ih => rw [List.sum_cons, List.sum_cons, ih]
  | swap x y l => rw [List.sum_cons, List.sum_cons, List.sum_cons, List.sum_cons]; omega
  | trans _ _ h1 h2 => exact h1.trans h2
theorem huff_step {f : Str → Int} {K : Int} {lv : List Str} {ns : List (Int × Tree)} (H : Huff f K lv ns) (h2 : 2 ≤ ns.length) (h5 : ns.length ≤ 5) : Huff f K lv (stepH ns) ∧ (stepH ns).length + 1 = ns.length := by
  have hp := risen_perm ns.length ns (Nat.le_refl _)
  have hs := risen_sorted ns.length ns (Nat.le_refl _)
  have hl := risenF_length ns.length ns (Nat.le_refl _)
  cases hr : risenF ns.length ns with
  | nil => rw [hr, List.length_nil] at hl; omega
  | cons a r =>
    cases r with
    | nil => rw [hr, List.length_singleton] at hl; omega
    | cons b r =>
      rw [hr] at hp hs hl
      rw [stepH_eq hr]
      simp only [List.length_cons] at hl
      have wa := H.wt a (hp.mem_iff.mp (.head _))
      have wb := H.wt b (hp.mem_iff.mp (.tail _ (.head _)))
      refine ⟨⟨fun y hy => ?_, ?_, ?_⟩, by rw [List.length_append, List.length_singleton]; omega⟩
      · rcases List.mem_append.mp hy with hy | hy
        · exact H.wt y (hp.mem_iff.mp (.tail _ (.tail _ hy)))
        · rw [List.mem_singleton.mp hy]
          show a.1 + b.1 = a.2.wt f + b.2.wt f
          rw [wa, wb]
      · refine List.Perm.trans ?_ H.lv
        refine List.Perm.trans ?_ (hp.flatMap_right _)
        rw [List.flatMap_append, List.flatMap_cons, List.flatMap_nil, List.append_nil, List.flatMap_cons, List.flatMap_cons, ← List.append_assoc]
        exact List.perm_append_comm
      · have e1 := gL_perm (hp.map (·.1))
        have e2 := sum_perm (hp.map fun y => y.2.cost f)
        have e3 := gL_step a.1 b.1 (r.map (·.1)) (by rw [List.length_map]; omega) (by
          have := List.Pairwise.map (S := fun x y : Int => x ≤ y) (fun y : Int × Tree => y.1) (fun _ _ h => h) hs
          exact this)
        rw [List.map_cons, List.map_cons] at e1 e2
        rw [List.sum_cons, List.sum_cons] at e2
        have := H.cost
        rw [List.map_append, List.map_append, sum_append', List.map_cons, List.map_nil, List.map_cons, List.map_nil, List.sum_cons, List.sum_nil]
        show gL (r.map (·.1) ++ [a.1 + b.1]) + ((r.map fun y => y.2.cost f).sum + (a.2.cost f + b.2.cost f + (a.2.wt f + b.2.wt f) + 0)) = K
        rw [← wa, ← wb]
        omega
theorem huff_all {f : Str → Int} {K : Int} {lv : List Str} {ns : List (Int × Tree)} (H : Huff f K lv ns) (h5 : ns.length = 5) : ∀ j : Nat, j ≤ 4 → Huff f K lv (iterH ns j) ∧ (iterH ns j).length + j = 5
  | 0, _ => ⟨H, h5⟩
  | j + 1, hj => by
    obtain ⟨H1, l1⟩ := huff_all H h5 j (by omega)
    obtain ⟨H2, l2⟩ := huff_step H1 (by omega) (by omega)
    exact ⟨H2, by show (stepH _).length + (j + 1) = 5; omega⟩
def signs5 : List Str := [⟨#[118]⟩, ⟨#[119]⟩, ⟨#[120]⟩, ⟨#[121]⟩, ⟨#[122]⟩]
theorem huff_start (sp : Str) : Huff (Txt.count sp) (g5 (Txt.count sp ⟨#[118]⟩) (Txt.count sp ⟨#[119]⟩) (Txt.count sp ⟨#[120]⟩) (Txt.count sp ⟨#[121]⟩) (Txt.count sp ⟨#[122]⟩)) signs5 (start sp) := by
  have e : start sp = [(Txt.count sp ⟨#[118]⟩, .leaf ⟨#[118]⟩), (Txt.count sp ⟨#[119]⟩, .leaf ⟨#[119]⟩), (Txt.count sp ⟨#[120]⟩, .leaf ⟨#[120]⟩), (Txt.count sp ⟨#[121]⟩, .leaf ⟨#[121]⟩), (Txt.count sp ⟨#[122]⟩, .leaf ⟨#[122]⟩)] := rfl
  rw [e]
  refine ⟨fun y hy => ?_, .refl _, Int.add_zero _⟩
  simp only [List.mem_cons, List.not_mem_nil, or_false] at hy
  rcases hy with rfl | rfl | rfl | rfl | rfl <;> rfl
/-- the tree that the law builds -/
theorem huff_tree {sp : Str} {c : Int} {T0 : Tree} (h : [(c, T0)] = iterH (start sp) 4) : T0.leaves.Perm signs5 ∧ T0.cost (Txt.count sp) = g5 (Txt.count sp ⟨#[118]⟩) (Txt.count sp ⟨#[119]⟩) (Txt.count sp ⟨#[120]⟩) (Txt.count sp ⟨#[121]⟩) (Txt.count sp ⟨#[122]⟩) := by
  obtain ⟨H, _⟩ := huff_all (huff_start sp) rfl 4 (Nat.le_refl _)
  rw [← h] at H
  have h1 := H.lv
  have h2 := H.cost
  rw [List.flatMap_cons, List.flatMap_nil, List.append_nil] at h1
  refine ⟨h1, ?_⟩
  have h2 : 0 + (T0.cost (Txt.count sp) + 0) = _ := h2
  omega
end Mine

namespace Mine
set_option maxRecDepth 100000
set_option maxHeartbeats 100000000

def cntS (l : List Nat) (k : Str) : Int := ((l.filter fun x => decide (k.cps.toList = [x])).length : Nat)
theorem cntS_cons (x : Nat) (l : List Nat) (k : Str) : cntS (x :: l) k = (if k.cps.toList = [x] then 1 else 0) + cntS l k := by
  unfold cntS
  by_cases h : k.cps.toList = [x]
  · rw [List.filter_cons_of_pos (by simpa using h), if_pos h, List.length_cons]; omega
  · rw [List.filter_cons_of_neg (by simpa using h), if_neg h]; omega
theorem cntS_eq (c : Nat) : ∀ l : List Nat, cnt c l = cntS l ⟨#[c]⟩
  | [] => rfl
  | x :: l => by
    rw [cnt_cons, cntS_cons, cntS_eq c l]
    congr 1
    by_cases h : x = c
    · rw [if_pos h, if_pos (by rw [h])]
    · rw [if_neg h, if_neg (fun e => h (List.cons.inj e).1.symm)]
theorem count_S (sp : Str) (c : Nat) : Txt.count sp ⟨#[c]⟩ = cntS sp.cps.toList ⟨#[c]⟩ := by
  rw [← cntS_eq]
  exact count_is sp c
theorem ind_zero (x : Nat) : ∀ ps : List (Str × Str), (∀ p ∈ ps, p.1.cps.toList ≠ [x]) → (ps.map fun p => if p.1.cps.toList = [x] then (p.2.length : Int) else 0).sum = 0
  | [], _ => rfl
  | p :: r, h => by
    rw [List.map_cons, List.sum_cons, if_neg (h p (.head _)), ind_zero x r fun q hq => h q (.tail _ hq)]
    rfl
theorem ind_sum (x : Nat) : ∀ ps : List (Str × Str), (ps.map (·.1)).Nodup → (∃ p ∈ ps, p.1 = ⟨#[x]⟩) → (ps.map fun p => if p.1.cps.toList = [x] then (p.2.length : Int) else 0).sum = ((sub ps x).length : Nat)
  | [], _, ⟨_, h, _⟩ => nomatch h
  | (k, w) :: r, hn, ⟨p, hp, e⟩ => by
    rw [List.map_cons, List.nodup_cons] at hn
    rw [List.map_cons, List.sum_cons, sub]
    by_cases hk : k.cps.toList = [x]
    · rw [if_pos hk, if_pos hk, ind_zero x r, toL_length]
      · exact Int.add_zero _
      · intro q hq eq
        refine hn.1 ?_
        have : k = q.1 := toL_inj (by rw [hk, eq])
        show k ∈ _
        rw [this]
        exact List.mem_map_of_mem hq
    · rw [if_neg hk, if_neg hk, ind_sum x r hn.2]
      · omega
      · rcases List.mem_cons.mp hp with rfl | hp
        · exact absurd (by rw [show k = ⟨#[x]⟩ from e]) hk
        · exact ⟨p, hp, e⟩
theorem sum_add (x : Nat) (l : List Nat) : ∀ ps : List (Str × Str), (ps.map fun p => cntS (x :: l) p.1 * (p.2.length : Int)).sum = (ps.map fun p => if p.1.cps.toList = [x] then (p.2.length : Int) else 0).sum + (ps.map fun p => cntS l p.1 * (p.2.length : Int)).sum
  | [] => rfl
  | p :: r => by
    rw [List.map_cons, List.map_cons, List.map_cons, List.sum_cons, List.sum_cons, List.sum_cons, sum_add x l r, cntS_cons, Int.add_mul]
    split <;> omega
theorem sum_nil : ∀ ps : List (Str × Str), (ps.map fun p => cntS [] p.1 * (p.2.length : Int)).sum = 0
  | [] => rfl
  | p :: r => by
    rw [List.map_cons, List.sum_cons, sum_nil r]
    show (0 : Int) * _ + 0 = 0
    omega
theorem coded_len (ps : List (Str × Str)) (hn : (ps.map (·.1)).Nodup) : ∀ l : List Nat, (∀ c ∈ l, ∃ p ∈ ps, p.1 = ⟨#[c]⟩) → (((l.flatMap (sub ps)).length : Nat) : Int) = (ps.map fun p => cntS l p.1 * (p.2.length : Int)).sum
  | [], _ => (sum_nil ps).symm
  | x :: l, h => by
    have ih := coded_len ps hn l fun c hc => h c (.tail _ hc)
    rw [List.flatMap_cons, List.length_append, sum_add, ind_sum x ps hn (h x (.head _)), ← ih]
    omega
theorem flatMap_le {f : Nat → List Nat} {n : Nat} : ∀ l : List Nat, (∀ c ∈ l, (f c).length ≤ n) → (l.flatMap f).length ≤ n * l.length
  | [], _ => Nat.zero_le _
  | x :: l, h => by
    have h1 := flatMap_le l fun c hc => h c (.tail _ hc)
    have h2 := h x (.head _)
    rw [List.flatMap_cons, List.length_append, List.length_cons, Nat.mul_succ]
    omega

/-- all that the law's end asks of the tree -/
theorem plain {sp : Str} {c : Int} {T0 : Tree} (hT0 : [(c, T0)] = iterH (start sp) 4) (hvz : VZ sp) (hsp : sp.length ≤ 16) :
    T0.size = 9 ∧ (∀ p ∈ T0.words (Str.ofString ""), p.1.length ≤ 1 ∧ p.2.length ≤ 9) ∧ (T0.words (Str.ofString "")).length = 5 ∧
    okF sp (thereL (T0.words (Str.ofString ""))) ∧
    okF (Str.ofString "|" ++ replF sp (thereL (T0.words (Str.ofString "")))) (List.replicate sp.length (backL (T0.words (Str.ofString "")))).flatten ∧
    replF (Str.ofString "|" ++ replF sp (thereL (T0.words (Str.ofString "")))) (List.replicate sp.length (backL (T0.words (Str.ofString "")))).flatten = sp ++ Str.ofString "|" ∧
    (((replF sp (thereL (T0.words (Str.ofString "")))).length : Nat) : Int) = (leastL [(Txt.count sp ⟨#[118]⟩), (Txt.count sp ⟨#[119]⟩), (Txt.count sp ⟨#[120]⟩), (Txt.count sp ⟨#[121]⟩), (Txt.count sp ⟨#[122]⟩)] 31).getD 31 0 ∧ (replF sp (thereL (T0.words (Str.ofString "")))).length ≤ 1000 := by
  obtain ⟨hlv, hcost⟩ := huff_tree hT0
  have e0 : (Str.ofString "").cps.toList = [] := by decide +kernel
  have e1 : (Str.ofString "").length = 0 := by decide +kernel
  have hll : T0.leaves.length = 5 := hlv.length_eq
  have hsz : T0.size = 9 := by have := size_leaves T0; omega
  have hfst := words_fst T0 (Str.ofString "")
  have hsnd := words_snd T0 (Str.ofString "")
  have hap := words_apart T0 (Str.ofString "")
  have hco := words_cost (Txt.count sp) T0 (Str.ofString "")
  have hne : ∀ p ∈ T0.words (Str.ofString ""), p.2.cps.toList ≠ [] := by
    cases T0 with
    | leaf s => simp [Tree.leaves] at hll
    | node a b =>
      intro p hp
      rcases List.mem_append.mp hp with h | h
      · obtain ⟨u, e, _⟩ := words_snd a _ p h
        rw [e, toL_append, dig0, e0]
        exact List.cons_ne_nil _ _
      · obtain ⟨u, e, _⟩ := words_snd b _ p h
        rw [e, toL_append, dig1, e0]
        exact List.cons_ne_nil _ _
  generalize T0.words (Str.ofString "") = ps at hfst hsnd hap hco hne ⊢
  have hlen : ps.length = 5 := by rw [← hll, ← hfst, List.length_map]
  have hw9 : ∀ p ∈ ps, p.2.length ≤ 9 := fun p hp => by
    obtain ⟨u, e, _, k⟩ := hsnd p hp
    rw [← toL_length, e, e0, List.nil_append]; omega
  have hkind : ∀ p ∈ ps, ∃ c, p.1 = ⟨#[c]⟩ ∧ 118 ≤ c := fun p hp => by
    have : p.1 ∈ signs5 := hlv.mem_iff.mp (hfst ▸ List.mem_map_of_mem hp)
    simp only [signs5, List.mem_cons, List.not_mem_nil, or_false] at this
    rcases this with e | e | e | e | e <;> exact ⟨_, e, by decide⟩
  have hK : Kinds ps := fun p hp => by
    obtain ⟨u, e, k, _⟩ := hsnd p hp
    refine ⟨hkind p hp, ?_, hne p hp, Nat.le_trans (hw9 p hp) (by decide)⟩
    rw [e, e0, List.nil_append]
    exact k
  have hnd : (ps.map (·.1)).Nodup := by
    rw [hfst]
    exact hlv.nodup_iff.mpr (by decide)
  have hsg : ∀ c ∈ sp.cps.toList, c ≤ 122 ∧ ∃ p ∈ ps, p.1 = ⟨#[c]⟩ := fun c hc => by
    obtain ⟨g1, g2⟩ := hvz c hc
    refine ⟨g2, ?_⟩
    have : (⟨#[c]⟩ : Str) ∈ signs5 := by
      have : c = 118 ∨ c = 119 ∨ c = 120 ∨ c = 121 ∨ c = 122 := by omega
      rcases this with rfl | rfl | rfl | rfl | rfl <;> decide
    rw [← hlv.mem_iff, ← hfst] at this
    obtain ⟨p, hp, e⟩ := List.mem_map.mp this
    exact ⟨p, hp, e⟩
  have hfl : (sp.cps.toList.flatMap (sub ps)).length ≤ 9 * sp.length := by
    rw [← toL_length sp]
    refine flatMap_le _ fun c hc => ?_
    obtain ⟨_, p, hp, e⟩ := hsg c hc
    rw [sub_of hnd hp e, toL_length]
    exact hw9 p hp
  have C : CodeOk sp.cps.toList ps := ⟨hK, hap, hnd, hsg, by rw [toL_length]; omega⟩
  have hcd := there_toL ps hK sp
  have hcl : (replF sp (thereL ps)).length = (sp.cps.toList.flatMap (sub ps)).length := by rw [← hcd, toL_length]
  obtain ⟨d1, d2⟩ := decode C hcd
  refine ⟨hsz, fun p hp => ⟨?_, hw9 p hp⟩, hlen, there_ok ps hK sp (by omega), d1, d2, ?_, by omega⟩
  · obtain ⟨c, e, _⟩ := hkind p hp
    rw [e]; exact Nat.le_refl 1
  · rw [hcl, coded_len ps hnd _ fun c hc => (hsg c hc).2, least_is, ← hcost]
    rw [e1] at hco
    have hm : (ps.map fun p => cntS sp.cps.toList p.1 * (p.2.length : Int)) = ps.map fun p => Txt.count sp p.1 * ((p.2.length : Nat) : Int) := by
      refine List.map_congr_left fun p hp => ?_
      obtain ⟨c, e, _⟩ := hkind p hp
      rw [e, count_S]
    rw [hm, hco]
    show _ + _ * (0 : Int) = _
    omega
end Mine

namespace Mine
set_option maxRecDepth 100000
set_option maxHeartbeats 100000000


def fnBody : Stmt → List Stmt
  | .FunctionDef _ _ body .. => body
  | _ => []
def fnScope : Stmt → Scope
  | .FunctionDef _ _ _ _ _ _ scope .. => scope
  | _ => { kind := .function, names := [], isGenerator := false, isCoroutine := false, more := [] }
def lawFn : Stmt := (PySem.Challenge.pw_rl0157_01.main.body[7]?).getD (.Pass ⟨0, 0, 0, 0⟩)

local macro_rules | `(tactic| walk_at "mem") => `(tactic| first | exact List.mem_cons_self | ktr_member | (refine List.mem_cons_of_mem _ ?_; walk_at "mem") | (ktn_app; first | (refine List.mem_append.mpr (Or.inl ?_); walk_at "mem") | (refine List.mem_append.mpr (Or.inr ?_); walk_at "mem")))
local macro_rules | `(tactic| k_mem) => `(tactic| walk_at "mem")
local macro_rules | `(tactic| walk_at "call ref") => `(tactic| refine stop_of ?_)
local macro_rules | `(tactic| walk_at "binaryOp Add ref ref") => `(tactic| refine stop_of ?_)

local macro_rules | `(tactic| walk_at "led z") => `(tactic| first | omega | exact Nat.zero_le _ | (simp only [List.length_cons, List.length_nil, List.length_map] at *; omega) | fail "led z")
local macro_rules | `(tactic| walk_at "subscriptTail") => `(tactic| (k_here; (with_reducible show wpAny _ _ (subscriptTail _ _ (Value.ref _) (Value.int _ _)) _ _ _); k_dflt (refine' item_led ?N ?m ?a ?b ?x ?_ ?s; (case N => k_asm); (case m => k_mem); (case a => decide); (case b => decide); (case x => rfl); (case s => with_unfolding_all rfl); k_whole)))
local macro_rules | `(tactic| walk_at "subscriptTail Name Slice ref ref") => `(tactic| (k_here; k_dflt (refine' drop_led ?F ?N ?m ?z ?x ?_ ?s ?t; (case F => k_asm); (case N => k_asm); (case m => k_mem); (case z => walk_at "led z"); (case x => decide); (case s => with_unfolding_all rfl); (case t => kmk_pure); k_whole); intro D' h' F' N' l1; (try k_lt l1); (try simp only [Int.reduceToNat, List.drop_succ_cons, List.drop_zero] at N'); (try k_sweep)))

theorem name_led {h₀ h : Heap} {L D : Addr} {its : List Value} {n : Nat} {rest : List (Addr × Obj)} {xs : List Str} (H : StrsAre its xs) (N : News h₀ L h ((D, listOf its.toArray n) :: rest)) :
    ∃ ws, StrsAre ws xs ∧ News h₀ L h ((D, listOf ws.toArray n) :: rest) := ⟨its, H, N⟩
theorem strs_rep {vs : List Value} {xs : List Str} (H : StrsAre vs xs) : ∀ k : Nat, StrsAre (List.replicate k vs).flatten (List.replicate k xs).flatten
  | 0 => .nil
  | k + 1 => by
    rw [List.replicate_succ, List.replicate_succ, List.flatten_cons, List.flatten_cons]
    exact StrsAre.append' H (strs_rep H k)
theorem rep_len {α : Type} (xs : List α) : ∀ k : Nat, (List.replicate k xs).flatten.length = k * xs.length
  | 0 => by simp
  | k + 1 => by rw [List.replicate_succ, List.flatten_cons, List.length_append, rep_len xs k, Nat.succ_mul, Nat.add_comm]
theorem law_end (w : World) (p : Program) (loose : List Str) (mean : ExcName → Option Value) (mg mb : Str → Option Value) (dp un : Nat) (gd : Option (List Code)) (outer : List Env) (A₀ : Around) (base h₀ : Heap) (L fa : Addr) (cd : Value) (m : Str → Option Value) (s : Shared) (Qf : Flow → Shared → Prop) (E : Value → Shared → Prop)
    (B : Below A₀ base outer h₀) (F : Fr h₀ L s.heap m) (X : (Mine.hd.heap_39 w.params).In h₀) (T : Top p loose mean mg mb h₀)
    (ps : Array Value) (news : List (Addr × Obj)) (N : News h₀ L s.heap ((30, tabObj ps) :: news)) (hT : TabOk ps news) (hO : ∀ q ∈ news, q.1 ≠ 30)
    (hd : dp + 200 < recursionLimit) (hu : un + 2000 < cLine) 
    (sp : Str) (tsp : Tok) (hvz : VZ sp) (hsp : sp.length ≤ 16) (oP : Obj) (dP : oP.data = .cell (some (.str sp tsp))) (hP : (L + 1 + 1 + 1, oP) ∈ news)
    (wD : Addr) (wn : Nat) (t0 t1 t2 t3 t4 : Tok) (hW : (wD, listOf [.int (Txt.count sp ⟨#[118]⟩) t0, .int (Txt.count sp ⟨#[119]⟩) t1, .int (Txt.count sp ⟨#[120]⟩) t2, .int (Txt.count sp ⟨#[121]⟩) t3, .int (Txt.count sp ⟨#[122]⟩) t4].toArray wn) ∈ news) (hmw : m (Str.ofString "weights") = some (.ref wD))
    (ha : Addr) (c : Int) (T0 : Tree) (hT0 : [(c, T0)] = iterH (start sp) 4) (hhv : DatIn news (.ref ha) (nodesDat [(c, T0)])) (hm : m (Str.ofString "heap") = some (.ref ha))
    (tD bD : Addr) (htD : (tD, listOf #[] 0) ∈ news) (hbD : (bD, listOf #[] 0) ∈ news) (hmt : m (Str.ofString "there") = some (.ref tD)) (hmb : m (Str.ofString "back") = some (.ref bD))
    (hE : PassesOwn (model PySem.Challenge.pw_rl0157_01 w) (ktrTop dp un gd (Str.ofString "law") (fnScope lawFn) L fa cd (cellsFrom (L + 1) (fnScope lawFn).names []) outer) (envX (Str.ofString "law") (fnScope lawFn) L fa cd (cellsFrom (L + 1) (fnScope lawFn).names [])) E)
    (hret : ∀ m' ps' news' h' tk', Fr h₀ L h' m' → News h₀ L h' ((30, tabObj ps') :: news') → Qf (.ret (.bool true)) { s with heap := h', toks := tk' }) :
    wpAny (model PySem.Challenge.pw_rl0157_01 w) (ktrTop dp un gd (Str.ofString "law") (fnScope lawFn) L fa cd (cellsFrom (L + 1) (fnScope lawFn).names []) outer)
      (exec (((fnBody lawFn)[8]?).getD (.Pass ⟨0, 0, 0, 0⟩)) (envX (Str.ofString "law") (fnScope lawFn) L fa cd (cellsFrom (L + 1) (fnScope lawFn).names [])))
      (fun f s' => match f with
        | .next => wpAny (model PySem.Challenge.pw_rl0157_01 w) (ktrTop dp un gd (Str.ofString "law") (fnScope lawFn) L fa cd (cellsFrom (L + 1) (fnScope lawFn).names []) outer) (execs ((fnBody lawFn).drop 9) (envX (Str.ofString "law") (fnScope lawFn) L fa cd (cellsFrom (L + 1) (fnScope lawFn).names []))) Qf E s'
        | f => Qf f s') E s := by
  w_top off
  revert hE
  conv in (occs := *) fnScope lawFn => all_goals whnf
  conv in ((fnBody lawFn)[8]?).getD _ => whnf
  conv in (fnBody lawFn).drop 9 => whnf
  conv in (occs := *) cellsFrom _ _ _ => all_goals whnf
  intro hE
  unfold nodesDat at hhv
  cases hhv with
  | list hm1 hr =>
  cases hr with
  | cons d0 dr =>
  cases dr
  unfold nodeDat at d0
  cases d0 with
  | tuple m0 d0 =>
  cases d0 with
  | cons da d0 =>
  cases d0 with
  | cons db d0 =>
  cases d0
  cases da
  replace F := fr_namesOut [(Str.ofString "heap", .ref ha), (Str.ofString "weights", .ref wD), (Str.ofString "there", .ref tD), (Str.ofString "back", .ref bD)] (by simp [hm, hmw, hmt, hmb]) F
  (try dsimp only [kstB] at F)
  refine wpAny_For ?_ (by intro _; rfl)
  k_steps
  unfold Stop
  (rename Fr h₀ _ _ _ => F2); (rename News h₀ _ _ _ => N2)
  obtain ⟨hts, hpw, hpl5, hok1, hok2, hB, hA⟩ := plain hT0 hvz hsp
  have e0 : (Str.ofString "").length = 0 := by decide +kernel
  refine (words_spec w T0 (Str.ofString "") _ _ (by omega)).use B F2 X N2 T rfl (DatIn.mono (fun _ h => .tail _ h) db) ?hd ?hu ?_
  case hd => omega
  case hu => omega
  intro r3 n3 h3 tk3 F3 N3 S3 O3
  clear F2 N2
  obtain ⟨ps0, hps0⟩ : ∃ ps0, ps0 = T0.words (Str.ofString "") := ⟨_, rfl⟩
  rw [← hps0] at O3 hpw hpl5 hok1 hok2 hB hA
  unfold pairsDat at O3
  cases O3 with
  | list m3 d3 =>
  rename_i l3 vs3 k3
  have hpl : ps0.length ≤ 9 := by rw [hps0, ← hts]; exact words_len _ _
  have hl3 : vs3.length = ps0.length := by rw [d3.length, List.length_map]
  have up : ∀ q ∈ news, q ∈ n3 := fun q hq => S3 q (.tail _ hq)
  (try dsimp only)
  refine for_listT (by rfl) m3 (fun i m₁ nx => ∃ (dt db : Addr) (vt vb : List Value), (∀ q ∈ n3, q ∈ nx) ∧ (dt, listOf vt.toArray 0) ∈ nx ∧ (db, listOf vb.toArray 0) ∈ nx ∧ m₁ (Str.ofString "there") = some (.ref dt) ∧ m₁ (Str.ofString "back") = some (.ref db) ∧ m₁ (Str.ofString "weights") = some (.ref wD) ∧ StrsAre vt (thereL (ps0.take i)) ∧ StrsAre vb (backL (ps0.take i))) F3 N3 ⟨tD, bD, [], [], fun _ h => h, up _ htD, up _ hbD, by with_unfolding_all rfl, by with_unfolding_all rfl, by with_unfolding_all rfl, .nil, .nil⟩ ?turn ?done hE
  case turn =>
    rintro i v m₁ nx h tk own I hi ⟨dt, db, vt, vb, hn3, hdt, hdb, e1, e2, e3, ht1, ht2⟩ hl ho ⟨oI, hoI⟩ hx F1 N1
    replace F1 := fr_namesOut [(Str.ofString "there", .ref dt), (Str.ofString "back", .ref db), (Str.ofString "weights", .ref wD)] (by simp [e1, e2, e3]) F1
    (try dsimp only [kstB] at F1)
    have hil : i < ps0.length := by rw [← hl3]; exact (List.getElem?_eq_some_iff.mp hi).1
    obtain ⟨v', hv', dv⟩ := d3.get (k := i) (by rw [List.length_map]; exact hil)
    rw [hi] at hv'
    cases hv'
    rw [List.getElem_map] at dv
    have hp9 := hpw _ (List.getElem_mem hil)
    rcases hp : ps0[i] with ⟨kd, wd⟩
    rw [hp] at dv hp9
    obtain ⟨hkd, hwd⟩ := hp9
    (try dsimp only at hkd hwd)
    cases dv with
    | tuple mv dv =>
    cases dv with
    | cons dv1 dv =>
    cases dv with
    | cons dv2 dv =>
    cases dv
    cases dv1
    cases dv2
    replace mv := hn3 _ mv
    (try dsimp only at mv)
    change News h₀ L h (own ++ nx) at N1
    (try k_fold)
    k_steps
    unfold Stop
    have hb1 : vt.length ≤ 20 := by rw [ht1.length, thereL_len, List.length_take]; omega
    have hb2 : vb.length ≤ 20 := by rw [ht2.length, backL_len, List.length_take]; omega
    (rename Fr h₀ _ _ _ => F5); (rename News h₀ _ _ _ => N5)
    refine' add_dat F5 N5 ?a ?b ?z ?_
    case a => k_mem
    case b => exact .head _
    case z => rw [sizeLine_eq, List.length_cons, List.length_cons, List.length_nil]; omega
    intro D6 h6 F6 N6 lt6
    obtain ⟨wt, hwt, N6⟩ := name_led (xs := thereL (ps0.take (i + 1))) (by rw [thereL_snoc _ _ hil, hp]; exact StrsAre.append' ht1 (.cons _ _ (.cons _ _ .nil))) N6
    clear F5 N5
    (try dsimp only)
    k_steps
    unfold Stop
    (rename Fr h₀ _ _ _ => F7); (rename News h₀ _ _ _ => N7)
    refine' add_dat F7 N7 ?a ?b ?z ?_
    case a => k_mem
    case b => exact .head _
    case z => rw [sizeLine_eq, List.length_cons, List.length_cons, List.length_nil]; omega
    intro D8 h8 F8 N8 lt8
    obtain ⟨wb, hwb, N8⟩ := name_led (xs := backL (ps0.take (i + 1))) (by rw [backL_snoc _ _ hil, hp]; exact StrsAre.append' ht2 (.cons _ _ (.cons _ _ .nil))) N8
    clear F7 N7
    (try dsimp only)
    k_steps
    rename_i F9 N9
    have hI6 : I < D6 := lt6 _ (.tail _ (List.mem_append_left _ hoI))
    have hI8 : I < D8 := lt8 _ (.tail _ (.head _)) |> fun h => Nat.lt_trans hI6 h
    refine ForEnd.intro ((D8, listOf wb.toArray 0) :: (D6, listOf wt.toArray 0) :: nx) F9 N9 ?_ ?_ ?_ ⟨D6, D8, wt, wb, fun q hq => .tail _ (.tail _ (hn3 q hq)), .tail _ (.head _), .head _, by with_unfolding_all rfl, by with_unfolding_all rfl, by with_unfolding_all rfl, hwt, hwb⟩
    · intro q hq
      rcases List.mem_append.mp hq with h | h
      · exact .tail _ (.tail _ (.tail _ (.tail _ (List.mem_append_left _ h))))
      · rcases List.mem_cons.mp h with rfl | h
        · k_mem
        · rcases List.mem_cons.mp h with rfl | h
          · k_mem
          · exact .tail _ (.tail _ (.tail _ (.tail _ (List.mem_append_right _ h))))
    · intro q hq hqI
      have hqI := List.mem_singleton.mp hqI
      rcases List.mem_cons.mp hq with rfl | h
      · exact Nat.lt_irrefl _ (hqI ▸ hI8 : I < I)
      · rcases List.mem_cons.mp h with rfl | h
        · exact Nat.lt_irrefl _ (hqI ▸ hI6 : I < I)
        · exact hx q h hqI
    · intro q hq
      rw [List.mem_singleton.mp hq]
      exact .tail _ (.tail _ hl)
  case done =>
    rintro h' tk m₁ nx F1 N1 ⟨dt, db, vt, vb, hn3, hdt, hdb, e1, e2, e3, ht1, ht2⟩
    rw [hl3, List.take_length] at ht1 ht2
    replace F1 := fr_namesOut [(Str.ofString "there", .ref dt), (Str.ofString "back", .ref db), (Str.ofString "weights", .ref wD)] (by simp [e1, e2, e3]) F1
    (try dsimp only [kstB] at F1)
    change News h₀ L h' nx at N1
    replace hP := hn3 _ (up _ hP)
    replace hW := hn3 _ (up _ hW)
    (try dsimp only)
    (try k_fold)
    k_steps
    refine star_seq F1 N1 hdt rfl rfl (.inl rfl) rfl ?_ ?_
    · rw [sizeLine_eq, List.size_toArray, ht1.length, thereL_len]; omega
    intro h6 F6 N6
    (try dsimp only)
    k_steps
    unfold Stop
    (rename Fr h₀ _ _ _ => F7); (rename News h₀ _ _ _ => N7)
    simp only [List.append_nil]
    refine (repl_spec w sp tsp vt (thereL ps0) ht1 hok1 (by rw [thereL_len]; omega)).use B F7 X N7 T rfl trivial ?hd ?hu ?_
    case hd => omega
    case hu => omega
    intro r8 n8 h8 tk8 F8 N8 S8 O8
    obtain ⟨tk9, rfl⟩ := O8
    obtain ⟨coded, hcd⟩ : ∃ c, replF sp (thereL ps0) = c := ⟨_, rfl⟩
    rw [hcd] at hA hB hok2 ⊢
    have hcl : coded.length ≤ 1000 := by omega
    clear F7 N7
    replace hW := S8 _ hW
    replace hP := S8 _ hP
    replace hdb := S8 _ hdb
    (try dsimp only)
    k_steps
    unfold Stop
    (rename Fr h₀ _ _ _ => F9); (rename News h₀ _ _ _ => N9)
    refine (least_spec w _ _ _ _ _ _ _ _ _ _ wD _).use B F9 X N9 T rfl hW ?hd ?hu ?_
    case hd => omega
    case hu => omega
    intro r9 n9 h9 tk9 F9' N9' S9 O9
    obtain ⟨tk10, rfl⟩ := O9
    rw [← hA.1]
    clear F9 N9
    replace hP := S9 _ hP
    replace hdb := S9 _ hdb
    (try dsimp only)
    k_steps
    · rename_i hne
      exact absurd rfl hne
    have hvb : vb.length = 10 := by rw [ht2.length, backL_len]; omega
    refine KMa.mul (ws := (List.replicate sp.length vb).flatten) F9' N9' (isList_of N9' hdb) (by omega) (by omega) (by rw [hvb, Int.toNat_natCast]; omega) (by rw [Int.toNat_natCast]) ?_
    intro D11 h11 F11 N11 lt11
    clear F9' N9'
    (try dsimp only)
    refine star_seq F11 N11 (.head _) rfl rfl (.inl rfl) rfl ?_ ?_
    · rw [sizeLine_eq, List.size_toArray, rep_len, hvb]; omega
    intro h12 F12 N12
    clear F11 N11
    (try dsimp only)
    k_steps
    unfold Stop
    simp only [List.append_nil]
    refine (repl_spec w _ _ _ _ (strs_rep ht2 sp.length) hok2 (by rw [rep_len, backL_len, hpl5]; omega)).use B F12 X N12 T rfl trivial ?hd ?hu ?_
    case hd => omega
    case hu => omega
    intro r14 n14 h14 tk14 F14 N14 S14 O14
    obtain ⟨tk15, rfl⟩ := O14
    clear F12 N12
    rw [hB]
    replace hP := S14 _ (.tail _ hP)
    (try dsimp only)
    k_steps
    have h30 : (30, tabObj ps) ∈ n14 := S14 _ (.tail _ (S9 _ (S8 _ (hn3 _ (S3 _ (.head _))))))
    rw [show (sp ++ Str.ofString "|" == sp ++ Str.ofString "|") = true from by simp]
    exact hret _ ps (off30 n14) _ _ F14 (off30_news N14 h30)
end Mine

namespace Mine
set_option maxRecDepth 100000
set_option maxHeartbeats 100000000


local macro_rules | `(tactic| walk_at "mem") => `(tactic| first | exact List.mem_cons_self | ktr_member | (refine List.mem_cons_of_mem _ ?_; walk_at "mem") | (ktn_app; first | (refine List.mem_append.mpr (Or.inl ?_); walk_at "mem") | (refine List.mem_append.mpr (Or.inr ?_); walk_at "mem")))
local macro_rules | `(tactic| k_mem) => `(tactic| walk_at "mem")
local macro_rules | `(tactic| walk_at "exec While Compare cons nil") => `(tactic| refine stop_of ?_)
local macro_rules | `(tactic| walk_at "call ref") => `(tactic| refine stop_of ?_)
local macro_rules | `(tactic| walk_at "binaryOp Add ref ref") => `(tactic| refine stop_of ?_)

local macro_rules | `(tactic| walk_at "led z") => `(tactic| first | omega | exact Nat.zero_le _ | (simp only [List.length_cons, List.length_nil, List.length_map] at *; omega) | fail "led z")
local macro_rules | `(tactic| walk_at "call builtin:len") => `(tactic| refine stop_of ?_)
local macro_rules | `(tactic| walk_at "subscriptTail") => `(tactic| (k_here; (with_reducible show wpAny _ _ (subscriptTail _ _ (Value.ref _) (Value.int _ _)) _ _ _); k_dflt (refine' item_led ?N ?m ?a ?b ?x ?_ ?s; (case N => k_asm); (case m => k_mem); (case a => decide); (case b => decide); (case x => rfl); (case s => with_unfolding_all rfl); k_whole)))
local macro_rules | `(tactic| walk_at "subscriptTail Name Slice ref ref") => `(tactic| (k_here; k_dflt (refine' drop_led ?F ?N ?m ?z ?x ?_ ?s ?t; (case F => k_asm); (case N => k_asm); (case m => k_mem); (case z => walk_at "led z"); (case x => decide); (case s => with_unfolding_all rfl); (case t => kmk_pure); k_whole); intro D' h' F' N' l1; (try k_lt l1); (try simp only [Int.reduceToNat, List.drop_succ_cons, List.drop_zero] at N'); (try k_sweep)))

theorem law_tail (w : World) (p : Program) (loose : List Str) (mean : ExcName → Option Value) (mg mb : Str → Option Value) (dp un : Nat) (gd : Option (List Code)) (outer : List Env) (A₀ : Around) (base h₀ : Heap) (L fa : Addr) (cd : Value) (m : Str → Option Value) (s : Shared) (Qf : Flow → Shared → Prop) (E : Value → Shared → Prop)
    (B : Below A₀ base outer h₀) (F : Fr h₀ L s.heap m) (X : (Mine.hd.heap_39 w.params).In h₀) (T : Top p loose mean mg mb h₀)
    (ps : Array Value) (news : List (Addr × Obj)) (N : News h₀ L s.heap ((30, tabObj ps) :: news)) (hT : TabOk ps news) (hO : ∀ q ∈ news, q.1 ≠ 30)
    (hd : dp + 200 < recursionLimit) (hu : un + 2000 < cLine) 
    (sp : Str) (tsp : Tok) (hvz : VZ sp) (hsp : sp.length ≤ 16) (oP : Obj) (dP : oP.data = .cell (some (.str sp tsp))) (hP : (L + 1 + 1 + 1, oP) ∈ news)
    (wD : Addr) (wn : Nat) (t0 t1 t2 t3 t4 : Tok) (hW : (wD, listOf [.int (Txt.count sp ⟨#[118]⟩) t0, .int (Txt.count sp ⟨#[119]⟩) t1, .int (Txt.count sp ⟨#[120]⟩) t2, .int (Txt.count sp ⟨#[121]⟩) t3, .int (Txt.count sp ⟨#[122]⟩) t4].toArray wn) ∈ news) (hmw : m (Str.ofString "weights") = some (.ref wD))
    (hv : Value) (hhv : DatIn news hv (nodesDat (start sp))) (hm : m (Str.ofString "heap") = some hv)
    (hE : PassesOwn (model PySem.Challenge.pw_rl0157_01 w) (ktrTop dp un gd (Str.ofString "law") (fnScope lawFn) L fa cd (cellsFrom (L + 1) (fnScope lawFn).names []) outer) (envX (Str.ofString "law") (fnScope lawFn) L fa cd (cellsFrom (L + 1) (fnScope lawFn).names [])) E)
    (hret : ∀ m' ps' news' h' tk', Fr h₀ L h' m' → News h₀ L h' ((30, tabObj ps') :: news') → Qf (.ret (.bool true)) { s with heap := h', toks := tk' }) :
    wpAny (model PySem.Challenge.pw_rl0157_01 w) (ktrTop dp un gd (Str.ofString "law") (fnScope lawFn) L fa cd (cellsFrom (L + 1) (fnScope lawFn).names []) outer)
      (exec (((fnBody lawFn)[5]?).getD (.Pass ⟨0, 0, 0, 0⟩)) (envX (Str.ofString "law") (fnScope lawFn) L fa cd (cellsFrom (L + 1) (fnScope lawFn).names [])))
      (fun f s' => match f with
        | .next => wpAny (model PySem.Challenge.pw_rl0157_01 w) (ktrTop dp un gd (Str.ofString "law") (fnScope lawFn) L fa cd (cellsFrom (L + 1) (fnScope lawFn).names []) outer) (execs ((fnBody lawFn).drop 6) (envX (Str.ofString "law") (fnScope lawFn) L fa cd (cellsFrom (L + 1) (fnScope lawFn).names []))) Qf E s'
        | f => Qf f s') E s := by
  w_top off
  revert hE
  conv in (occs := *) fnScope lawFn => all_goals whnf
  conv in ((fnBody lawFn)[5]?).getD _ => whnf
  conv in (fnBody lawFn).drop 6 => whnf
  conv in (occs := *) cellsFrom _ _ _ => all_goals whnf
  intro hE
  k_steps
  unfold Stop
  refine' While_inv2 (fun n m₁ nx => ∃ (ps : Array Value) (news' : List (Addr × Obj)) (hv : Value) (ns : List (Int × Tree)) (j : Nat), nx = (30, tabObj ps) :: news' ∧ TabOk ps news' ∧ (∀ q ∈ news', q.1 ≠ 30) ∧ (∀ q ∈ news, q ∈ news') ∧ DatIn news' hv (nodesDat ns) ∧ m₁ (Str.ofString "heap") = some hv ∧ m₁ (Str.ofString "weights") = some (.ref wD) ∧ n = ns.length ∧ ns = iterH (start sp) j ∧ ns.length + j = 5 ∧ 1 ≤ ns.length) F N
    ⟨ps, news, hv, start sp, 0, rfl, hT, hO, fun _ h => h, hhv, hm, hmw, rfl, rfl, rfl, by show 1 ≤ 5; decide⟩ ?turn hE
  clear N hT hO hhv hm F
  rintro n m₁ nx h1 tk1 F1 N1 ⟨ps, news', hv, ns, j, rfl, hT, hO, hsub, hhv, e1, e2, rfl, hns, hlen, hpos⟩
  replace F1 := fr_namesOut [(Str.ofString "heap", hv), (Str.ofString "weights", .ref wD)] (by simp [e1, e2]) F1
  (try dsimp only [kstB] at F1)
  unfold nodesDat at hhv
  cases hhv with
  | list hm hr =>
  rename_i ha vs hn
  have hvl : vs.length = ns.length := by rw [hr.length, List.length_map]
  k_steps
  unfold Stop
  refine len_list (isList_of N1 (.tail _ hm)) (by simp only [List.size_toArray]; omega) ?_
  rw [show vs.toArray.size = ns.length from by rw [List.size_toArray, hvl]]
  k_steps
  · unfold Stop
    have hgt : 2 ≤ ns.length := by omega
    (rename Fr h₀ _ _ _ => F2)
    have hhv : DatIn news' (.ref ha) (nodesDat ns) := .list hm hr
    refine (risen_spec w ns.length ns (Nat.le_refl _) (by omega) (.ref ha)) _ _ _ _ _ _ _ _ _ _ _ _ _ _ _ _ _ _ _ _ _ _ _ _ B F2 X N1 T rfl hT hO hhv ?hd ?hu ?_
    case hd => omega
    case hu => omega
    intro r3 ps3 n3 h3 tk3 F3 N3 hT3 hO3 S3 O3
    have hrl := risenF_length ns.length ns (Nat.le_refl _)
    obtain ⟨rs, hrs⟩ : ∃ rs, risenF ns.length ns = rs := ⟨_, rfl⟩
    rw [hrs] at O3 hrl
    match rs, hrl, hrs, O3 with
    | [], hrl, _, _ => simp at hrl; omega
    | [_], hrl, _, _ => simp at hrl; omega
    | x0 :: x1 :: rest, hrl, hrs, O3 =>
    have hst := stepH_eq hrs
    unfold nodesDat at O3
    cases O3 with
    | list m3 d3 =>
    cases d3 with
    | cons d30 d3 =>
    cases d3 with
    | cons d31 d3 =>
    unfold nodeDat at d30 d31
    cases d30 with
    | tuple m30 d30 =>
    cases d30 with
    | cons d30a d30 =>
    cases d30 with
    | cons d30b d30 =>
    cases d30
    cases d30a
    cases d31 with
    | tuple m31 d31 =>
    cases d31 with
    | cons d31a d31 =>
    cases d31 with
    | cons d31b d31 =>
    cases d31
    cases d31a
    have d3l := d3.length
    rw [List.length_map] at d3l
    simp only [List.length_cons] at hrl
    have hv3 : ∀ {l : List Value}, l.length = rest.length → l.length ≤ 5 := fun h => by omega
    clear F2 N1
    (try dsimp only)
    k_steps
    unfold Stop
    rename_i _ Dl _ lA Di _ lB Do _ lC Lt _ F5 N5 lD
    refine' add_dat F5 N5 ?a ?b ?z ?_
    case a => k_mem
    case b => exact .head _
    case z => rw [sizeLine_eq, d3l, List.length_singleton]; omega
    intro D6 h6 F6 N6 lt6
    obtain ⟨led, hled, N6'⟩ : ∃ led, led = _ ∧ News h₀ L h6 led := ⟨_, rfl, N6⟩
    have h30 : (30, tabObj ps3) ∈ led := by rw [hled]; exact .tail _ (.tail _ (.tail _ (.tail _ (.tail _ (.head _)))))
    have hc6 := off30_cls N6' h30
    have N7 := off30_news N6' h30
    have up : ∀ q ∈ n3, q ∈ led := by intro q hq; rw [hled]; exact .tail _ (.tail _ (.tail _ (.tail _ (.tail _ (.tail _ hq)))))
    have hin : DatIn led (.ref Do) (nodeDat (x0.1 + x1.1, Tree.node x0.2 x1.2)) :=
      .tuple (n := 0) (by rw [hled]; exact .tail _ (.tail _ (.head _))) (.cons (.int _ _) (.cons (.tuple (n := 0) (by rw [hled]; exact .tail _ (.tail _ (.tail _ (.head _)))) (.cons (DatIn.mono up d30b) (.cons (DatIn.mono up d31b) .nil))) .nil))
    have hD6 : DatIn led (.ref D6) (nodesDat (rest ++ [(x0.1 + x1.1, Tree.node x0.2 x1.2)])) := by
      unfold nodesDat
      rw [List.map_append]
      exact .list (n := 0) (by rw [hled]; exact .head _) (DatAll.append (DatAll.mono up d3) (.cons hin .nil))
    replace hD6 := datIn_off hc6 hD6
    have hsub7 : ∀ q ∈ news, q ∈ off30 led := fun q hq => off30_mem (up _ (S3 _ (hsub _ hq))) (hO3 _ (S3 _ (hsub _ hq)))
    have hT7 : TabOk ps3 (off30 led) := hT3.mono fun q hq => off30_mem (up _ hq) (hO3 _ hq)
    clear N6 N6' hin hc6 hled
    clear F5 N5
    (try dsimp only)
    k_steps
    (rename Fr h₀ _ _ _ => F8); (rename News h₀ _ _ _ => N8)
    have hlen' : (stepH ns).length + (j + 1) = 5 := by rw [hst, List.length_append, List.length_singleton]; omega
    refine ⟨_, _, _, (30, tabObj ps3) :: off30 led, (stepH ns).length, rfl, F8, N8, by omega, ps3, off30 led, .ref D6, rest ++ [(x0.1+x1.1, .node x0.2 x1.2)], j+1, rfl, hT7, off30_ne, hsub7, hD6, by with_unfolding_all rfl, by with_unfolding_all rfl, by rw [hst], by rw [← hst, hns]; rfl, by rw [← hst]; exact hlen', by rw [← hst]; omega⟩
  · obtain ⟨⟨c, T0⟩, rfl⟩ : ∃ x, ns = [x] := by
      have hle : ns.length ≤ 1 := by omega
      match ns, hpos, hle with
      | [x], _, _ => exact ⟨x, rfl⟩
      | [], hpos, _ => simp at hpos
      | _ :: _ :: _, _, hle => simp only [List.length_cons] at hle; omega
    obtain rfl : j = 4 := by simp only [List.length_singleton] at hlen; omega
    rename_i _ lT _ lt1 _ tkB lB _ lt2 h9 F8 N8 hle
    have N9 : News h₀ L h9 ((30, tabObj ps) :: (lB, listOf #[] 0) :: (lT, listOf #[] 0) :: news') := fun q hq => N8 q (by
      simp only [List.mem_cons] at hq ⊢
      rcases hq with h | h | h | h <;> simp [h])
    have up : ∀ q ∈ news', q ∈ (lB, listOf #[] 0) :: (lT, listOf #[] 0) :: news' := fun q hq => .tail _ (.tail _ hq)
    refine' law_end w p loose mean mg mb dp un gd outer A₀ base h₀ L fa cd _ { s with heap := h9, toks := _ } Qf E B F8 X T ps _ N9 (hT.mono up) ?hO hd hu sp tsp hvz hsp oP dP (up _ (hsub _ hP)) wD wn t0 t1 t2 t3 t4 (up _ (hsub _ hW)) ?e2 ha c T0 hns (.list (up _ hm) (DatAll.mono up hr)) ?e1 lT lB (.tail _ (.head _)) (.head _) ?hmt ?hmb hE ?hret
    case hO =>
      intro q hq
      rcases List.mem_cons.mp hq with rfl | hq
      · exact Nat.ne_of_gt lt2.2.1
      · rcases List.mem_cons.mp hq with rfl | hq
        · exact Nat.ne_of_gt lt1.1
        · exact hO q hq
    case e2 => simp only [e2]; with_unfolding_all rfl
    case e1 => with_unfolding_all rfl
    case hmt => with_unfolding_all rfl
    case hmb => with_unfolding_all rfl
    case hret => exact hret
end Mine

namespace Mine
set_option maxRecDepth 100000
set_option maxHeartbeats 100000000

local macro_rules | `(tactic| walk_at "mem") => `(tactic| first | exact List.mem_cons_self | ktr_member | (refine List.mem_cons_of_mem _ ?_; walk_at "mem") | (ktn_app; first | (refine List.mem_append.mpr (Or.inl ?_); walk_at "mem") | (refine List.mem_append.mpr (Or.inr ?_); walk_at "mem")))
local macro_rules | `(tactic| k_mem) => `(tactic| walk_at "mem")
local macro_rules | `(tactic| walk_at "CompSrc") => `(tactic| refine stop_of ?_)
local macro_rules | `(tactic| walk_at "eval ListComp") => `(tactic| refine stop_of ?_)
local macro_rules | `(tactic| walk_at "call builtin:sum") => `(tactic| refine stop_of ?_)
local macro_rules | `(tactic| walk_at "call builtin:str.join") => `(tactic| refine stop_of ?_)
local macro_rules | `(tactic| walk_at "binaryOp Mult str int") => `(tactic| refine stop_of ?_)
local macro_rules | `(tactic| walk_at "exec While Compare cons nil") => `(tactic| refine stop_of ?_)
local macro_rules | `(tactic| walk_at "exec Assign cons ListComp") => `(tactic| refine stop_of ?_)
local macro_rules | `(tactic| walk_at "CompEnd") => `(tactic| refine stop_of ?_)
local macro_rules | `(tactic| walk_at "subscriptTail") => `(tactic| (k_here; (with_reducible show wpAny _ _ (subscriptTail _ _ (Value.ref _) (Value.int _ _)) _ _ _); k_dflt (refine' itemInt_base ?F ?l ?i ?a ?b ?z ?_ ?s; (case F => k_asm); (case l => assumption); (case i => assumption); (case a => omega); (case b => omega); (case z => omega); (case s => with_unfolding_all rfl); k_whole); intro t'))
theorem strs_append : ∀ {vs ws : List Value} {xs ys : List Str}, StrsAre vs xs → StrsAre ws ys → StrsAre (vs ++ ws) (xs ++ ys)
  | _, _, _, _, .nil, k => k
  | _, _, _, _, .cons y t h, k => .cons y t (strs_append h k)
theorem sum_le2 : ∀ (ts : List Str), (∀ x ∈ ts, x.length ≤ 2) → (ts.map (·.length)).sum ≤ 2 * ts.length
  | [], _ => Nat.le_refl _
  | x :: r, h => by
    have h1 := h x (.head _)
    have h2 := sum_le2 r fun y hy => h y (.tail _ hy)
    simp only [List.map_cons, List.sum_cons, List.length_cons]
    omega
theorem sign_at {i c : Nat} (hi : i < (Str.ofString "vwxyz").cps.size) (h : (Str.ofString "vwxyz").cps[i]? = some c) : c = 118 + i := by
  have e : (Str.ofString "vwxyz").cps = #[118, 119, 120, 121, 122] := by decide +kernel
  rw [e] at h hi
  have : i = 0 ∨ i = 1 ∨ i = 2 ∨ i = 3 ∨ i = 4 := by
    have : i < 5 := hi
    omega
  rcases this with rfl | rfl | rfl | rfl | rfl <;> (simp at h; omega)
theorem law_walk : PySem.Challenge.rw_rl0157_01.Holds := by
  w_top off
  refine hd ?_
  k_go0
  all_goals try k_fold
  rename_i w s₀ s₁ mg mb G Y fa o pm cd doc ho hcd hg X9 V9 T9 B9 TE9 TW9 ns hs9 hlay9 hL9 hr9 hl29 as7 as6 sl vs as3 hL hra hw1 hr0 hI hrW hc1 hc2 hDf h₁ tk₁ oc1 oc2 oc3 dc1 dc2 dc3 CA X T B F N l0
  k_steps
  unfold Stop
  refine LCg.Assign_ListComp_U (F₀ := by k_asm) (by rfl) (by with_unfolding_all rfl) (by with_unfolding_all rfl) (by decide) (by rfl) (by decide) (by rfl) (by rfl) (by rfl) ?_
  k_steps
  unfold Stop
  rename_i _ _ _ _ _ oS F1 N1 dS h2 tk2 _ _ _ hR2 F2 N2 hk2
  clear F1 N1 hk2
  have hz : ∃ (z : Int) (tz : Tok), 5 ≤ z ∧ z ≤ 8 ∧ IsRange h2 _ 0 z 1 _ _ _ ∧ oS.data = .cell (some (.int z tz)) := ⟨_, _, by (repeat' split) <;> omega, by (repeat' split) <;> omega, hR2, dS⟩
  clear hR2 dS
  obtain ⟨z, tz, hz5, hz8, hR2, dS⟩ := hz
  refine LCg.CompSrc.range (n := z.toNat) (by rfl) F2 N2 hR2 (small_one (by omega) (by omega) (by omega) (by omega)) (by rw [rangeSize_nat]; omega) (by rw [sizeLine_eq]; omega) ?_
  intro g3
  clear hR2 F2
  refine compRest_inv (fun i ys nx => nx = _ ∧ ∃ zs, IntsAre ys zs ∧ zs.length = i) ⟨rfl, [], .nil, rfl⟩ ?_ ?_
  · rintro i v ys nx I oI C oC D m₂ h tk E' hi ⟨t, rfl⟩ ⟨rfl, zs, hzs, hzl⟩ hC hx F N off ne
    have hi8 : 0 + (i : Int) < 8 := by omega
    have hi0 : 0 ≤ 0 + (i : Int) := by omega
    (try dsimp only)
    k_steps
    unfold Stop
    refine listComp_step F (by with_unfolding_all rfl) (by decide) (by rfl) (by decide) (by rfl) ?_ (by intro _; rfl)
    k_steps
    rename_i _ _ h4 tk4 _ _ _ hR4 F4 N4 _
    obtain ⟨nn, hnn⟩ : ∃ nn : Nat, Builtin.Range.rangeSize (0 + (i : Int)) (ns.length : Int) z = nn := ⟨_, rangeSize_toNat _ _ _⟩
    have hnl : ns.length ≤ 63 := by omega
    have hnn2 := rangeSize_toNat_le (0 + (i : Int)) (ns.length : Int) z
    rw [hnn] at hnn2
    refine ⟨_, _, _, _, _, _, _, nn, _, rfl, by rfl, F4, N4, hR4, small_step (by omega) (by omega) (by omega) (by omega) hz5 hz8, hnn, by rw [sizeLine_eq]; omega, ?_⟩
    rintro s5 ⟨h5, rfl⟩
    clear F4 N4 hR4
    refine compRest_inv (fun i ys nx => nx = _ ∧ ∃ zs, IntsAre ys zs ∧ zs.length = i) ⟨rfl, [], .nil, rfl⟩ ?_ ?_
    · rintro j v us nx I2 oI2 C2 oC2 D2 m₃ h6 tk6 E6 hj ⟨t6, rfl⟩ ⟨rfl, qs, hqs, hql⟩ hC2 hx2 F6 N6 off2 ne2
      have hj0 : 0 ≤ 0 + (i : Int) + (j : Int) * z := by
        have := Int.mul_nonneg (Int.natCast_nonneg j) (show 0 ≤ z by omega)
        omega
      have hj1 := step_in hz5 hz8 hnn hj
      generalize 0 + (i : Int) + (j : Int) * z = jx at hj0 hj1 hx2
      (try dsimp only)
      k_steps
      unfold Stop
      exact LCg.CompEnd.intro F6 N6 _ (fun _ h => h) off2 trivial ⟨rfl, _, IntsAre.append hqs (.cons _ _ .nil), by simp [hql]⟩
    · rintro us nx ⟨rfl, qs, hqs, _⟩
      intro D2 h7 tk7 F7 N7 off7
      (try dsimp only)
      k_steps
      unfold Stop
      refine sumK (by rfl) F7 N7 (isList_of N7 (.head _)) hqs ?_
      intro h8 tk8 t8 F8 N8
      (try dsimp only)
      k_steps
      unfold Stop
      exact LCg.CompEnd.intro F8 N8 _ (fun _ h => .tail _ h) off trivial ⟨rfl, _, IntsAre.append hzs (.cons _ _ .nil), by simp [hzl]⟩
  · rintro ys nx ⟨rfl, cells, hcells, hclen⟩
    intro cD h9 tk9 F9 N9 off9
    (try dsimp only)
    k_steps
    unfold Stop
    have hyl : ys.length ≤ 8 := by rw [hcells.length, hclen]; omega
    refine LCg.ListComp_U F9 (by with_unfolding_all rfl) (by decide) (by rfl) (by decide) (by rfl) ?_
    k_steps
    unfold Stop
    (rename Fr _ _ _ _ => F10); (rename News _ _ _ _ => N10)
    refine LCg.CompSrc.ledger (k := ys.length) (by rfl) F10 N10 (.head _) (by rw [sizeLine_eq, List.size_toArray]; omega) ?_
    intro g11
    refine compRest_inv (fun i us nx => nx = _ ∧ ∃ ts, StrsAre us ts ∧ ts.length = i ∧ ∀ x ∈ ts, x.length ≤ 2 ∧ VZ x) ⟨rfl, [], .nil, rfl, fun _ h => nomatch h⟩ ?_ ?_
    · rintro i v us nx I oI C oC D m₂ h tk E' hi hv ⟨rfl, ts, hts, htl, hto⟩ hC hx F N off ne
      obtain ⟨cx, tx, rfl, hcx⟩ := hcells.at i v (by simpa using hv)
      clear F10 N10
      (try dsimp only)
      k_steps
      unfold Stop
      obtain ⟨p1, p2, p3⟩ := piece_ok cx
      refine SB.mul p1 ?_
      intro t8 k8
      rw [← piece.eq_1]
      k_steps
      unfold Stop
      exact LCg.CompEnd.intro F N _ (fun _ h => h) off (.inr ⟨_, .head _, rfl, _, rfl⟩) ⟨rfl, ts ++ [piece cx], strs_append hts (.cons _ _ .nil), by simp [htl], fun x hx => (List.mem_append.mp hx).elim (hto x) fun h => by rw [List.mem_singleton.mp h]; exact ⟨p2, p3⟩⟩
    · rintro us nx ⟨rfl, ts, hts, htl, hto⟩
      intro tD h12 tk12 F12 N12 off12
      (try dsimp only)
      k_steps
      unfold Stop
      obtain ⟨hvz, hln⟩ := tjoin_vz ts hto
      have htl8 : ts.length ≤ 8 := by rw [htl, List.size_toArray]; exact hyl
      have hsum : (ts.map (·.length)).sum ≤ 2 * ts.length := sum_le2 ts fun x hx => (hto x hx).1
      refine join_list (isList_of N12 (.head _)) hts (by rw [show (Str.ofString "").length = 0 from by decide +kernel, Nat.mul_zero]; omega) ?_
      generalize Txt.join (Str.ofString "") ts = sp at hvz hln
      have hsp : sp.length ≤ 16 := by omega
      intro tsp ksp
      (try dsimp only)
      k_steps
      unfold Stop
      rename_i _ oP F13 N13 dP
      refine assignComp_str F13 (by rfl) (by with_unfolding_all rfl) (by with_unfolding_all rfl) (by decide) (by rfl) (by decide) (by rfl) (by rfl) (by rfl) ?_ (by intro _; rfl)
      k_steps
      refine ⟨Str.ofString "vwxyz", _, _, rfl, by decide +kernel, by rfl, F13, N13, by decide +kernel, ?_⟩
      rintro s14 ⟨h14, rfl⟩
      refine compRest_inv (fun i us nx => nx = _ ∧ IntsAre us ((List.range i).map fun j => Txt.count sp ⟨#[118 + j]⟩)) ⟨rfl, .nil⟩ ?_ ?_
      · rintro i v us nx I oI C oC D m₂ h tk E' hi hv ⟨rfl, hus⟩ hC hx F N off ne
        obtain ⟨ck, uk, hck, rfl⟩ := hv
        have hck := sign_at hi hck
        subst hck
        clear F13 N13
        (try dsimp only)
        k_steps
        unfold Stop
        exact LCg.CompEnd.intro F N _ (fun _ h => h) off trivial ⟨rfl, by rw [List.range_succ, List.map_append]; exact IntsAre.append hus (.cons _ _ .nil)⟩
      · rintro wus nx ⟨rfl, hwus⟩
        rw [show (Str.ofString "vwxyz").cps.size = 5 from by decide +kernel] at hwus
        intro wD h15 tk15 F15 N15 off15
        clear F13 N13
        have hbase : News (ghostOf s₁.heap [(34, 30)]) s₁.heap.objs.size h15 [(wD, LCg.lst wus), (s₁.heap.objs.size + 1 + 1 + 1, oP), (30, tabObj #[])] := fun q hq => N15 q (by
          simp only [List.mem_cons, List.mem_append, List.not_mem_nil, or_false] at hq ⊢
          rcases hq with h | h | h <;> simp [h])
        clear N15
        (try dsimp only)
        k_steps
        unfold Stop
        refine assignComp_str F15 (by rfl) (by with_unfolding_all rfl) (by with_unfolding_all rfl) (by decide) (by rfl) (by decide) (by rfl) (by rfl) (by rfl) ?_ (by intro _; rfl)
        k_steps
        refine ⟨Str.ofString "vwxyz", _, _, rfl, by decide +kernel, by rfl, F15, hbase, by decide +kernel, ?_⟩
        rintro s16 ⟨h16, rfl⟩
        refine compRest_inv (fun i us nx => (∀ q ∈ [(wD, LCg.lst wus), (s₁.heap.objs.size + 1 + 1 + 1, oP), (30, tabObj #[])], q ∈ nx) ∧ DatAll nx us ((List.range i).map fun j => nodeDat (Txt.count sp ⟨#[118 + j]⟩, .leaf ⟨#[118 + j]⟩))) ⟨fun _ h => h, .nil⟩ ?_ ?_
        · rintro i v us nx I oI C oC D m₂ h tk E' hi hv ⟨hnx, hus⟩ hC hx F N off ne
          obtain ⟨ck, uk, hck, rfl⟩ := hv
          have hck := sign_at hi hck
          subst hck
          have hPm : (s₁.heap.objs.size + 1 + 1 + 1, oP) ∈ nx := hnx _ (.tail _ (.head _))
          clear F15 hbase
          (try dsimp only)
          k_steps
          unfold Stop
          rename_i _ TD _ F17 N17 l17
          refine' LCg.CompEnd.intro F17 N17 ((TD, _) :: nx) (fun q hq => ?sub) ⟨⟨Nat.ne_of_gt l17.1, Nat.ne_of_gt l17.2.1, Nat.ne_of_gt l17.2.2.1⟩, off⟩ trivial ⟨fun q hq => .tail _ (hnx q hq), ?dat⟩
          case sub =>
            rcases List.mem_cons.mp hq with rfl | hq
            · exact .tail _ (.head _)
            · rcases List.mem_cons.mp hq with rfl | hq
              · exact .tail _ (.tail _ (.head _))
              · rcases List.mem_cons.mp hq with rfl | hq
                · exact .tail _ (.tail _ (.tail _ (.head _)))
                · rcases List.mem_cons.mp hq with rfl | hq
                  · exact .head _
                  · exact .tail _ (.tail _ (.tail _ (.tail _ hq)))
          case dat =>
            rw [List.range_succ, List.map_append]
            exact DatAll.append (DatAll.mono (fun q hq => .tail _ hq) hus) (.cons (.tuple (n := 0) (.head _) (.cons (.int _ _) (.cons (.str _ _) .nil))) .nil)
        · rintro hus nx ⟨hnx, hhus⟩
          rw [show (Str.ofString "vwxyz").cps.size = 5 from by decide +kernel] at hhus
          intro hD h18 tk18 F18 N18 off18
          clear F15 hbase
          (try dsimp only)
          k_steps
          unfold Stop
          obtain ⟨t0, t1, t2, t3, t4, rfl⟩ : ∃ t0 t1 t2 t3 t4 : Tok, wus = [.int (Txt.count sp ⟨#[118]⟩) t0, .int (Txt.count sp ⟨#[119]⟩) t1, .int (Txt.count sp ⟨#[120]⟩) t2, .int (Txt.count sp ⟨#[121]⟩) t3, .int (Txt.count sp ⟨#[122]⟩) t4] := by
            rw [show List.range 5 = [0, 1, 2, 3, 4] from rfl] at hwus
            simp only [List.map_cons, List.map_nil] at hwus
            cases hwus with
            | cons _ a0 hwus =>
            cases hwus with
            | cons _ a1 hwus =>
            cases hwus with
            | cons _ a2 hwus =>
            cases hwus with
            | cons _ a3 hwus =>
            cases hwus with
            | cons _ a4 hwus =>
            cases hwus
            exact ⟨a0, a1, a2, a3, a4, rfl⟩
          have h30 : (30, tabObj #[]) ∈ (hD, LCg.lst hus) :: nx := .tail _ (hnx _ (.tail _ (.tail _ (.head _))))
          have hcl := off30_cls N18 h30
          have hPm : (s₁.heap.objs.size + 1 + 1 + 1, oP) ∈ off30 ((hD, LCg.lst hus) :: nx) := off30_mem (.tail _ (hnx _ (.tail _ (.head _)))) (Nat.ne_of_gt (by omega))
          have hHD : DatIn ((hD, LCg.lst hus) :: nx) (.ref hD) (nodesDat (start sp)) := DatIn.list (List.mem_cons_self (a := (hD, LCg.lst hus)) (l := nx)) (DatAll.mono (fun q hq => .tail _ hq) hhus)
          refine' law_tail w _ _ _ mg mb _ _ _ _ _ _ _ _ fa cd _ _ _ _ B F18 X T #[] (off30 ((hD, LCg.lst hus) :: nx)) (off30_news N18 h30) (.inl rfl) off30_ne ?hd ?hu sp tsp hvz hsp oP dP hPm wD 5 t0 t1 t2 t3 t4 (hcl _ (.tail _ (hnx _ (.head _))) (fun e => by cases e)) ?hmw (.ref hD) (datIn_off hcl hHD) ?hm ?hE ?hret
          case hd => first | decide | ktr_room
          case hu => first | ktr_units | decide
          case hmw => with_unfolding_all rfl
          case hm => with_unfolding_all rfl
          case hE => passes_own
          case hret =>
            intro m' ps' news' h' tk' F' N'
            (try dsimp only)
            k_steps
end Mine

set_option maxRecDepth 100000 in
set_option maxHeartbeats 100000000 in
theorem PySem.Challenge.cw_rl0157_01_holds : PySem.Challenge.rw_rl0157_01.Holds :=
  Mine.law_walk
