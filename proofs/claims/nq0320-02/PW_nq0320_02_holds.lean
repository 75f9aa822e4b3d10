import PyProof.Rows.All
import Wide.All
import OpenK.AllK
import Wide.FinOn
import PySem.Challenge.RW_nq0320_02
set_option Elab.async false
section PartTop2
open PySem PySem.W PyProof.Rows
set_option Elab.async false
set_option maxRecDepth 100000
set_option maxHeartbeats 8000000
namespace Mine
open_top hd for PySem.Challenge.rw_nq0320_02
end Mine
end PartTop2

section PartBaseA
open PySem PySem.W PyProof.Rows
set_option Elab.async false
set_option maxRecDepth 100000
namespace Mine
theorem freshBaseA : True := by
  w_top off
  trivial

/-- what a turn of one of my loops must leave -/
def TurnPost (h₀ : Heap) (L I : Addr) (io : Obj) (J : (Str → Option Value) → List (Addr × Obj) → Prop) (Q : Flow → Shared → Prop) (s : Shared) (f : Flow) (s₂ : Shared) : Prop :=
  match f with
  | .ret v => Q (.ret v) s₂
  | .brk => Q .next s₂
  | _ => ∃ h' tk m' nx, s₂ = { s with heap := h', toks := tk } ∧ Fr h₀ L h' m' ∧ News h₀ L h' ((I, io) :: nx) ∧ (∀ p ∈ nx, p.1 ≠ I) ∧ J m' nx

theorem TurnPost.next {h₀ : Heap} {L I : Addr} {io : Obj} {J : (Str → Option Value) → List (Addr × Obj) → Prop} {Q : Flow → Shared → Prop} {s : Shared} {h' : Heap} {tk : Nat} {m' : Str → Option Value} {nx all : List (Addr × Obj)}
    (F : Fr h₀ L h' m') (N : News h₀ L h' all) (hs : ∀ p ∈ (I, io) :: nx, p ∈ all) (hne : ∀ p ∈ nx, p.1 ≠ I) (hj : J m' nx) : TurnPost h₀ L I io J Q s .next { s with heap := h', toks := tk } :=
  ⟨h', tk, m', nx, rfl, F, fun p hp => N p (hs p hp), hne, hj⟩
theorem TurnPost.cont {h₀ : Heap} {L I : Addr} {io : Obj} {J : (Str → Option Value) → List (Addr × Obj) → Prop} {Q : Flow → Shared → Prop} {s : Shared} {h' : Heap} {tk : Nat} {m' : Str → Option Value} {nx all : List (Addr × Obj)}
    (F : Fr h₀ L h' m') (N : News h₀ L h' all) (hs : ∀ p ∈ (I, io) :: nx, p ∈ all) (hne : ∀ p ∈ nx, p.1 ≠ I) (hj : J m' nx) : TurnPost h₀ L I io J Q s .cont { s with heap := h', toks := tk } :=
  ⟨h', tk, m', nx, rfl, F, fun p hp => N p (hs p hp), hne, hj⟩

section
variable {prog : Program} {w : World} {A : Around} {E : Value → Shared → Prop} {s : Shared} {env : Env} {h₀ : Heap}

theorem letOwned_listiter {target : Expr} {I l : Addr} {i : Nat} {v : Value} {Q : Unit → Shared → Prop} (hit : s.heap.IsListIter I l i) (h : Q () s) :
    wpAny (model prog w) A (letOwnedTupleGo target (.ref I) v) Q E s := by
  obtain ⟨o, ho, hc, hd⟩ := hit
  unfold letOwnedTupleGo
  split
  · cases v <;> first | exact wpAny_pure h | skip
    dsimp only
    refine wpAny_bind (wpAny_load ho ?_)
    rw [hc, hd]
    dsimp only
    rw [if_neg (by simp)]
    exact wpAny_pure h
  · cases v <;> first | exact wpAny_pure h | skip
    dsimp only
    refine wpAny_bind (wpAny_load ho ?_)
    rw [hc, hd]
    dsimp only
    rw [if_neg (by simp)]
    exact wpAny_pure h
  · exact wpAny_pure h

/-- a for over a list of the ledger's -/
theorem for_list {target : Expr} {body : List Stmt} {l : Addr} {vs : List Value} {nn : Nat} {m₀ : Str → Option Value} {news : List (Addr × Obj)} {Q : Flow → Shared → Prop}
    (J : Nat → (Str → Option Value) → List (Addr × Obj) → Prop)
    (hh : A.handled = none) (hJl : ∀ i m nx, J i m nx → (l, listOf vs.toArray nn) ∈ nx)
    (F : Fr h₀ env.locals s.heap m₀) (N : News h₀ env.locals s.heap news) (h0 : J 0 m₀ news) (hE : PassesOwn (model prog w) A env E)
    (turn : ∀ i v m₁ nx h tk I io, vs[i]? = some v → J i m₁ nx → (∀ p ∈ nx, p.1 ≠ I) → Fr h₀ env.locals h m₁ → News h₀ env.locals h ((I, io) :: nx) →
      wpAny (model prog w) A (assign target env v) (fun _ s₂ => wpAny (model prog w) A (execs body env) (TurnPost h₀ env.locals I io (J (i + 1)) Q s) E s₂) E { s with heap := h, toks := tk })
    (done : ∀ m₁ nx h tk, J vs.length m₁ nx → Fr h₀ env.locals h m₁ → News h₀ env.locals h nx → Q .next { s with heap := h, toks := tk }) :
    wpAny (model prog w) A (pyIter (.ref l)) (fun it s₂ => codeAny (model prog w) A (.forLoop target it body [] env) (fun r s' => match r with | .ok f => Q f s' | .error e => cameBackBy (model prog w) A env E e s') s₂) E s := by
  have hol : s.heap.get? l = some (listOf vs.toArray nn) := (N _ (hJl _ _ _ h0)).1
  have hls : s.heap.IsList l vs.toArray := ⟨_, hol, rfl, nn, rfl⟩
  refine wpAny_pyIter_list hls ?_
  -- the invariant over the measure
  let Inv : Nat → Shared → Prop := fun k s' => ∃ i h tk m₁ nx io, s' = { s with heap := h, toks := tk } ∧ i ≤ vs.length ∧ k = vs.length + 1 - i ∧ J i m₁ nx ∧ (∀ p ∈ nx, p.1 ≠ s.heap.objs.size) ∧
    Fr h₀ env.locals h m₁ ∧ News h₀ env.locals h ((s.heap.objs.size, io) :: nx) ∧ h.IsListIter s.heap.objs.size l i
  refine codeAny_loop' rfl Inv (fun k s' hI => ?_) (vs.length + 1) ?_
  · obtain ⟨i, h, tk, m₁, nx, io, rfl, hi, rfl, hj, hne, F₁, N₁, hit⟩ := hI
    show wpAny _ _ ((forTurn target (.ref s.heap.objs.size) body [] env).onRaise (fun x => do noteFrame x env; theTreesLotGoes x)) _ _ _
    refine wpAny_noted ?_
    simp only [forTurn]
    have hl₁ : h.IsList l vs.toArray := ⟨_, (N₁ _ (.tail _ (hJl _ _ _ hj))).1, rfl, nn, rfl⟩
    have hIn := N₁ _ (.head _)
    by_cases hlt : i < vs.length
    · refine wpAny_bind (wpAny_standAt (wpAny_bind (wpAny_onRaise (wpAny_pyNext_list_item (x := vs[i]) hit hl₁ (by simp [hlt]) fun h' hit' hs' => ?_))))
      dsimp only
      refine wpAny_bind (letOwned_listiter (s := { s with heap := h', toks := tk }) hit' ?_)
      obtain ⟨io', hio', _⟩ := id hit'
      have F₂ : Fr h₀ env.locals h' m₁ := by
        refine ⟨F₁.ns.sameBut hs' (Ne.symm hIn.2.1), fun b o e => (hs'.2 b fun q => ?_).trans (F₁.keep b o e), F₁.above⟩
        have := hIn.2.2; rw [← q] at this; rw [this] at e; cases e
      have N₂ : News h₀ env.locals h' ((s.heap.objs.size, io') :: nx) := by
        intro p hp
        rcases List.mem_cons.mp hp with rfl | hp
        · exact ⟨hio', hIn.2⟩
        · have := N₁ p (.tail _ hp)
          exact ⟨(hs'.2 _ (hne p hp)).trans this.1, this.2⟩
      have t := turn i vs[i] m₁ nx h' tk s.heap.objs.size io' (by simp [hlt]) hj hne F₂ N₂
      refine wpAny_bind (wpAny_mono (wpAny_passesOwn hE t) (fun _ s₂ h₂ => ?_) fun _ _ x => x)
      refine wpAny_bind (wpAny_mono (wpAny_passesOwn hE h₂) (fun f s₃ h₃ => ?_) fun _ _ x => x)
      have fin : (∃ h' tk m' nx, s₃ = { s with heap := h', toks := tk } ∧ Fr h₀ env.locals h' m' ∧ News h₀ env.locals h' ((s.heap.objs.size, io') :: nx) ∧ (∀ p ∈ nx, p.1 ≠ s.heap.objs.size) ∧ J (i + 1) m' nx) → ∃ m, m < vs.length + 1 - i ∧ Inv m s₃ := by
        rintro ⟨g₃, tk₃, m₃, nx₃, rfl, F₃, N₃, ne₃, j₃⟩
        have hit₃ : g₃.IsListIter s.heap.objs.size l (i + 1) := by
          obtain ⟨o, ho, hc, hd⟩ := hit'
          have e1 : o = io' := Option.some.inj (ho.symm.trans hio')
          exact ⟨io', (N₃ _ (.head _)).1, e1 ▸ hc, e1 ▸ hd⟩
        exact ⟨vs.length + 1 - (i + 1), by omega, i + 1, g₃, tk₃, m₃, nx₃, io', rfl, hlt, rfl, j₃, ne₃, F₃, N₃, hit₃⟩
      cases f with
      | ret v => exact wpAny_pure h₃
      | brk => exact wpAny_pure h₃
      | next => exact wpAny_pure (.inl ⟨rfl, fin h₃⟩)
      | cont => exact wpAny_pure (.inl ⟨rfl, fin h₃⟩)
    · have hie : i = vs.length := by omega
      subst hie
      refine wpAny_bind (wpAny_standAt (wpAny_bind (wpAny_onRaise (wpAny_pyNext_list_end hh hit hl₁ (by simp) fun h' he' => ?_))))
      refine wpAny_pure (.inr ⟨rfl, codeAny_block (wpAny_execs_nil ?_)⟩)
      refine done m₁ nx h' tk hj ?_ ?_
      · refine ⟨?_, fun b o e => he' b o (fun q => ?_) (F₁.keep b o e), F₁.above⟩
        · obtain ⟨oL, es, ep, hL, r⟩ := F₁.ns
          exact ⟨oL, es, ep, he' _ _ (Ne.symm hIn.2.1) hL, r⟩
        · have := hIn.2.2; rw [← q] at this; rw [this] at e; cases e
      · intro p hp
        have := N₁ p (.tail _ hp)
        exact ⟨he' _ _ (hne p hp) this.1, this.2⟩
  · refine ⟨0, _, _, m₀, news, _, rfl, Nat.zero_le _, rfl, h0, fun p hp => Nat.ne_of_lt (Heap.lt_size (N p hp).1), F.push _, N.push F _ rfl, ⟨_, Heap.get?_push_size _ rfl, rfl, rfl⟩⟩
end
end Mine
end PartBaseA

section PartBaseB
open PySem PySem.W PyProof.Rows
set_option Elab.async false
set_option maxRecDepth 100000
namespace Mine
theorem freshBaseB : True := by
  w_top off
  trivial

/-- what a turn must leave: one list of texts changed, no name stored but the loop's own -/
def StrsPost (h₀ : Heap) (L I : Addr) (io : Obj) (x : Str) (m₀ : Str → Option Value) (d : Addr) (rest : List (Addr × Obj)) (want : List Str) (i : Nat) (Q : Flow → Shared → Prop) (s : Shared) (f : Flow) (s₂ : Shared) : Prop :=
  match f with
  | .ret v => Q (.ret v) s₂
  | .brk => Q .next s₂
  | _ => ∃ h' tk m' acc n, s₂ = { s with heap := h', toks := tk } ∧ Fr h₀ L h' m' ∧ News h₀ L h' ((d, listOf (strValues acc).toArray n) :: (I, io) :: rest) ∧ (∀ y, y ≠ x → m' y = m₀ y) ∧ acc.map (·.1) = want ∧ acc.length ≤ i
theorem StrsPost.of {h₀ : Heap} {L I : Addr} {io : Obj} {x : Str} {m₀ : Str → Option Value} {d : Addr} {rest : List (Addr × Obj)} {want : List Str} {i : Nat} {Q : Flow → Shared → Prop} {s : Shared} {h' : Heap} {tk : Nat} {m' : Str → Option Value} {acc : List (Str × Tok)} {n : Nat} {f : Flow}
    (hf : f = .next ∨ f = .cont) (F : Fr h₀ L h' m') (N : News h₀ L h' ((d, listOf (strValues acc).toArray n) :: (I, io) :: rest)) (hm : ∀ y, y ≠ x → m' y = m₀ y) (hw : acc.map (·.1) = want) (hl : acc.length ≤ i) :
    StrsPost h₀ L I io x m₀ d rest want i Q s f { s with heap := h', toks := tk } := by
  rcases hf with rfl | rfl <;> exact ⟨h', tk, m', acc, n, rfl, F, N, hm, hw, hl⟩

section
variable {prog : Program} {w : World} {A : Around} {E : Value → Shared → Prop} {s : Shared} {env : Env} {h₀ : Heap}
theorem for_strs {x : Str} {px : Pos} {body : List Stmt} {l d : Addr} {items : List (Str × Tok)} {nn n₀ : Nat} {m₀ : Str → Option Value} {rest : List (Addr × Obj)} {Q : Flow → Shared → Prop} {its : Array Value}
    (g : List Str → Str → List Str)
    (hh : A.handled = none) (hl : (l, listOf (strValues items).toArray nn) ∈ rest) (hits : its = #[])
    (F : Fr h₀ env.locals s.heap m₀) (N : News h₀ env.locals s.heap ((d, listOf its n₀) :: rest)) (hne : ∀ p ∈ rest, p.1 ≠ d) (hE : PassesOwn (model prog w) A env E)
    (turn : ∀ i c tc acc n (u : Str → Option Value) h tk I io, items[i]? = some (c, tc) → acc.length ≤ i → acc.map (·.1) = ((items.take i).map (·.1)).foldl g [] → (∀ p ∈ (I, io) :: rest, p.1 ≠ d) → i < items.length →
      Fr h₀ env.locals h (fun y => if y = x then u y else m₀ y) → News h₀ env.locals h ((d, listOf (strValues acc).toArray n) :: (I, io) :: rest) →
      wpAny (model prog w) A (assign (.Name x px) env (.str c tc)) (fun _ s₂ => wpAny (model prog w) A (execs body env) (StrsPost h₀ env.locals I io x m₀ d rest (g (acc.map (·.1)) c) (i + 1) Q s) E s₂) E { s with heap := h, toks := tk })
    (done : ∀ acc n (u : Str → Option Value) h tk, acc.length ≤ items.length → acc.map (·.1) = (items.map (·.1)).foldl g [] → Fr h₀ env.locals h (fun y => if y = x then u y else m₀ y) → News h₀ env.locals h ((d, listOf (strValues acc).toArray n) :: rest) → Q .next { s with heap := h, toks := tk }) :
    wpAny (model prog w) A (pyIter (.ref l)) (fun it s₂ => codeAny (model prog w) A (.forLoop (.Name x px) it body [] env) (fun r s' => match r with | .ok f => Q f s' | .error e => cameBackBy (model prog w) A env E e s') s₂) E s := by
  subst hits
  have split : ∀ m₁ : Str → Option Value, (∀ y, y ≠ x → m₁ y = m₀ y) → m₁ = fun y => if y = x then m₁ y else m₀ y := by
    intro m₁ hm
    funext y
    by_cases e : y = x
    · rw [if_pos e]
    · rw [if_neg e, hm y e]
  refine for_list (vs := strValues items) (nn := nn) (news := (d, listOf #[] n₀) :: rest) (m₀ := m₀)
    (fun i m nx => ∃ acc n, nx = (d, listOf (strValues acc).toArray n) :: rest ∧ acc.length ≤ i ∧ acc.map (·.1) = ((items.take i).map (·.1)).foldl g [] ∧ ∀ y, y ≠ x → m y = m₀ y) hh ?_ F N ?_ hE ?_ ?_
  · rintro i m nx ⟨acc, n, rfl, _⟩
    exact .tail _ hl
  · exact ⟨[], n₀, rfl, Nat.le_refl _, rfl, fun _ _ => rfl⟩
  · rintro i v m₁ nx h tk I io hv ⟨acc, n, rfl, hlen, hacc, hm⟩ hI F₁ N₁
    have hlt : i < items.length := by
      have := (List.getElem?_eq_some_iff.mp hv).1
      simpa [strValues] using this
    have hv' : v = .str items[i].1 items[i].2 := by
      simp only [strValues, List.getElem?_map, List.getElem?_eq_getElem hlt, Option.map_some, Option.some.injEq] at hv
      exact hv.symm
    subst hv'
    rw [split m₁ hm] at F₁
    have N₂ : News h₀ env.locals h ((d, listOf (strValues acc).toArray n) :: (I, io) :: rest) := by
      intro p hp
      rcases List.mem_cons.mp hp with rfl | hp
      · exact N₁ _ (.tail _ (.head _))
      · rcases List.mem_cons.mp hp with rfl | hp
        · exact N₁ _ (.head _)
        · exact N₁ _ (.tail _ (.tail _ hp))
    have hI' : ∀ p ∈ (I, io) :: rest, p.1 ≠ d := by
      intro p hp
      rcases List.mem_cons.mp hp with rfl | hp
      · exact Ne.symm (hI _ (.head _))
      · exact hne p hp
    refine wpAny_mono (turn i items[i].1 items[i].2 acc n m₁ h tk I io (by rw [List.getElem?_eq_getElem hlt]) hlen hacc hI' hlt F₁ N₂) (fun _ s₂ h₂ => wpAny_mono h₂ (fun f s₃ h₃ => ?_) fun _ _ e => e) fun _ _ e => e
    have fin : (∃ h' tk m' acc' n, s₃ = { s with heap := h', toks := tk } ∧ Fr h₀ env.locals h' m' ∧ News h₀ env.locals h' ((d, listOf (strValues acc').toArray n) :: (I, io) :: rest) ∧ (∀ y, y ≠ x → m' y = m₀ y) ∧ acc'.map (·.1) = g (acc.map (·.1)) items[i].1 ∧ acc'.length ≤ i + 1) →
        ∃ h' tk m' nx, s₃ = { s with heap := h', toks := tk } ∧ Fr h₀ env.locals h' m' ∧ News h₀ env.locals h' ((I, io) :: nx) ∧ (∀ p ∈ nx, p.1 ≠ I) ∧ ∃ acc n, nx = (d, listOf (strValues acc).toArray n) :: rest ∧ acc.length ≤ i + 1 ∧ acc.map (·.1) = ((items.take (i + 1)).map (·.1)).foldl g [] ∧ ∀ y, y ≠ x → m' y = m₀ y := by
      rintro ⟨h', tk', m', acc', n', rfl, F', N', hm', hw', hl'⟩
      refine ⟨h', tk', m', _, rfl, F', ?_, ?_, acc', n', rfl, hl', ?_, hm'⟩
      · intro p hp
        rcases List.mem_cons.mp hp with rfl | hp
        · exact N' _ (.tail _ (.head _))
        · rcases List.mem_cons.mp hp with rfl | hp
          · exact N' _ (.head _)
          · exact N' _ (.tail _ (.tail _ hp))
      · intro p hp
        rcases List.mem_cons.mp hp with rfl | hp
        · exact hI (d, listOf (strValues acc).toArray n) (.head _)
        · exact hI p (.tail _ hp)
      · rw [hw', hacc, List.take_add_one, List.getElem?_eq_getElem hlt]
        simp only [Option.toList_some, List.map_append, List.map_cons, List.map_nil, List.foldl_append, List.foldl_cons, List.foldl_nil]
    cases f with
    | ret v => exact h₃
    | brk => exact h₃
    | next => exact fin h₃
    | cont => exact fin h₃
  · rintro m₁ nx h tk ⟨acc, n, rfl, hlen, hacc, hm⟩ F₁ N₁
    rw [split m₁ hm] at F₁
    have e : (strValues items).length = items.length := by simp [strValues]
    rw [e] at hlen hacc
    rw [List.take_length] at hacc
    exact done acc n m₁ h tk hlen hacc F₁ N₁
end
end Mine
end PartBaseB

section PartBaseC
open PySem PySem.W PyProof.Rows
set_option Elab.async false
set_option maxRecDepth 100000
namespace Mine
theorem freshBaseC : True := by
  w_top off
  trivial
theorem allLt_out {d : Nat} : ∀ {l : List (Addr × Obj)}, AllLt d l → ∀ p ∈ l, p.1 < d
  | [], _, _, hp => nomatch hp
  | q :: l, h, p, hp => by
    rcases List.mem_cons.mp hp with rfl | hp
    · exact h.1
    · exact allLt_out h.2 p hp
theorem ne_cons {l : Addr} {q : Addr × Obj} {news : List (Addr × Obj)} (h1 : q.1 < l) (h2 : ∀ p ∈ news, p.1 ≠ l) : ∀ p ∈ q :: news, p.1 ≠ l := by
  intro p hp
  rcases List.mem_cons.mp hp with rfl | hp
  · exact Nat.ne_of_lt h1
  · exact h2 p hp
theorem ne_all {l : Addr} {news : List (Addr × Obj)} (h : AllLt l news) : ∀ p ∈ news, p.1 ≠ l := fun p hp => Nat.ne_of_lt (allLt_out h p hp)
theorem strValues_push (acc : List (Str × Tok)) (c : Str) (tc : Tok) : (strValues acc).toArray.push (.str c tc) = (strValues (acc ++ [(c, tc)])).toArray := by
  simp [strValues]
theorem strValues_len (acc : List (Str × Tok)) : (strValues acc).length = acc.length := by simp [strValues]
theorem strValues_dropLast (acc : List (Str × Tok)) : (strValues acc).dropLast = strValues acc.dropLast := by
  simp [strValues, List.map_dropLast]
section
variable {prog : Program} {w : World} {A : Around} {E : Value → Shared → Prop} {s : Shared} {h₀ : Heap} {L D : Addr} {m : Str → Option Value} {news news' : List (Addr × Obj)} {n : Nat} {acc : List (Str × Tok)}
theorem strs_truthy {Q : Bool → Shared → Prop} (N : News h₀ L s.heap news) (hm : (D, listOf (strValues acc).toArray n) ∈ news) (hz : acc.length ≤ 100000)
    (h : ∀ tk, Q (decide (acc ≠ [])) { s with toks := tk }) : wpAny (model prog w) A (truthy (.ref D)) Q E s := by
  refine wpAny_truthy_list (items := (strValues acc).toArray) ⟨_, (N _ hm).1, rfl, n, rfl⟩ (by simp only [List.size_toArray, strValues_len]; omega) ?_
  have e : (!(strValues acc).toArray.isEmpty) = decide (acc ≠ []) := by
    cases acc <;> simp [strValues]
  rw [e]
  exact h _
theorem strs_append {Q : Value → Shared → Prop} {c : Str} {tc : Tok} (F : Fr h₀ L s.heap m) (N : News h₀ L s.heap news) (U : Upd D (listOf (strValues acc).toArray n) (listOf (strValues (acc ++ [(c, tc)])).toArray (n + 1)) news news') (hz : acc.length ≤ 100000)
    (h : ∀ h', Fr h₀ L h' m → News h₀ L h' news' → Q .none { s with heap := h' }) : wpAny (model prog w) A (call (.builtin "list.append") [.ref D, .str c tc]) Q E s := by
  rw [← strValues_push] at U
  exact append_K F N U (fun h' F' N' => h h' F' N') (by rw [List.size_toArray, strValues_len, sizeLine_eq]; omega)
theorem strs_pop {Q : Value → Shared → Prop} (F : Fr h₀ L s.heap m) (N : News h₀ L s.heap news) (U : Upd D (listOf (strValues acc).toArray n) (listOf (strValues acc.dropLast).toArray (n + 1)) news news') (hne : acc ≠ []) (hz : acc.length ≤ 100000)
    (h : ∀ h' c t, Fr h₀ L h' m → News h₀ L h' news' → Q (.str c t) { s with heap := h' }) : wpAny (model prog w) A (call (.builtin "list.pop") [.ref D]) Q E s := by
  obtain ⟨init, ⟨c, t⟩, rfl⟩ : ∃ init x, acc = init ++ [x] := ⟨acc.dropLast, acc.getLast hne, (List.dropLast_concat_getLast hne).symm⟩
  rw [List.dropLast_concat] at U
  have e : strValues (init ++ [(c, t)]) = strValues init ++ [.str c t] := by simp [strValues]
  rw [e] at U
  refine kl_pop F N (its := (strValues init ++ [Value.str c t]).toArray) (p := strValues init) (y := .str c t) (kpa_last _ _) U ?_ fun h' F' N' => h h' c t F' N'
  rw [sizeLine_eq]
  simp only [List.length_append, strValues_len, List.length_cons, List.length_nil] at hz ⊢
  omega
theorem strs_last {Q : Value → Shared → Prop} {value slice : Expr} {u : Tok} (N : News h₀ L s.heap news) (hm : (D, listOf (strValues acc).toArray n) ∈ news) (hne : acc ≠ []) (hz : acc.length ≤ 100000)
    (h : ∀ c t, acc.getLast? = some (c, t) → Q (.str c t) s) (hs : subscripted slice false (.ref D) (.int (-1) u) = operate [.ref D, .int (-1) u] (getItem (.ref D) (.int (-1) u)) := by with_unfolding_all rfl) :
    wpAny (model prog w) A (subscriptTail value slice (.ref D) (.int (-1) u)) Q E s := by
  have hl : s.heap.IsList D (strValues acc).toArray := ⟨_, (N _ hm).1, rfl, n, rfl⟩
  obtain ⟨init, ⟨c, t⟩, rfl⟩ : ∃ init x, acc = init ++ [x] := ⟨acc.dropLast, acc.getLast hne, (List.dropLast_concat_getLast hne).symm⟩
  refine tail_any hl.typeIs slot_list_getitem.lookup (wpAny_getItem_list_neg hl (by omega) ?_ (by omega) (x := .str c t) ?_ (h c t (by simp))) hs
  · simp only [List.size_toArray, strValues_len, List.length_append, List.length_cons, List.length_nil]; omega
  · have e : ((-1 : Int) + ((strValues (init ++ [(c, t)])).toArray.size : Nat)).toNat = init.length := by
      simp only [List.size_toArray, strValues_len, List.length_append, List.length_cons, List.length_nil]; omega
    rw [e]
    simp [strValues]
end
end Mine
end PartBaseC

section PartBaseD
open PySem PySem.W PyProof.Rows
set_option Elab.async false
set_option maxRecDepth 100000
namespace Mine
theorem freshBaseD : True := by
  w_top off
  trivial
theorem third_of {h₀ h : Heap} {L a1 a2 d : Addr} {o1 o2 o : Obj} {news : List (Addr × Obj)} (N : News h₀ L h ((a1, o1) :: (a2, o2) :: (d, o) :: news)) : ∃ d' : Addr, d' = d := ⟨d, rfl⟩
theorem first_of {h₀ h : Heap} {L a1 : Addr} {o1 : Obj} {news : List (Addr × Obj)} (N : News h₀ L h ((a1, o1) :: news)) : ∃ d' : Addr, a1 = d' := ⟨_, rfl⟩
theorem slicePick_strs (l : List (Str × Tok)) : slicePick (strValues l).toArray none none (some (-1)) = (strValues l.reverse).toArray := by
  rw [krv_pick]; simp [strValues]

section
variable {prog : Program} {w : World} {A : Around} {E : Value → Shared → Prop} {s : Shared} {h₀ : Heap} {L l : Addr} {m : Str → Option Value} {news : List (Addr × Obj)} {value slice : PySem.Expr} {acc : List (Str × Tok)} {n : Nat} {vk : Value} {ops : List Value} {Q : Value → Shared → Prop}
theorem krv_strs (F : Fr h₀ L s.heap m) (N : News h₀ L s.heap news) (hm : (l, listOf (strValues acc).toArray n) ∈ news) (pk : IsPart vk (some (-1))) (hz : acc.length ≤ 100000)
    (h : ∀ D h', Fr h₀ L h' m → News h₀ L h' ((D, listOf (strValues acc.reverse).toArray 0) :: news) → (∀ p ∈ news, p.1 < D) → Q (.ref D) { s with heap := h' })
    (hs : subscripted slice false (.ref l) (.ref s.heap.objs.size) = operate ops (getItem (.ref l) (.ref s.heap.objs.size))) (ht : ∀ r, letTemporaryGo value (.ref l) r = pure ()) :
    wpAny (model prog w) A (subscriptTail value slice (.ref l) (.ref s.heap.objs.size)) Q E { s with heap := s.heap.push { cls := .type "slice", data := .fields #[.none, .none, vk] } } :=
  krv_lit (its := (strValues acc).toArray) F N (News.isList N hm) pk (by simp [strValues]) h hs ht (by rw [List.size_toArray, strValues_len, sizeLine_eq]; omega)
end
/-- what a turn must leave: the state is a letter c -/
def ItemsPost {σ : Type} (h₀ : Heap) (L I : Addr) (io : Obj) (x : Str) (m₀ : Str → Option Value) (Led : σ → List (Addr × Obj)) (nm : σ → List (Str × Value)) (P : σ → Prop) (Q : Flow → Shared → Prop) (s : Shared) (f : Flow) (s₂ : Shared) : Prop :=
  match f with
  | .ret v => Q (.ret v) s₂
  | .brk => Q .next s₂
  | _ => ∃ h' tk m' c all, s₂ = { s with heap := h', toks := tk } ∧ Fr h₀ L h' m' ∧ News h₀ L h' all ∧ (∀ p ∈ (I, io) :: Led c, p ∈ all) ∧ (∀ p ∈ nm c, m' p.1 = some p.2) ∧ (∀ y, y ≠ x → (∀ p ∈ nm c, y ≠ p.1) → m' y = m₀ y) ∧ P c
theorem ItemsPost.of {σ : Type} {h₀ : Heap} {L I : Addr} {io : Obj} {x : Str} {m₀ : Str → Option Value} {Led : σ → List (Addr × Obj)} {nm : σ → List (Str × Value)} {P : σ → Prop} {Q : Flow → Shared → Prop} {s : Shared} {h' : Heap} {tk : Nat} {m' : Str → Option Value} {all : List (Addr × Obj)} {f : Flow}
    (c : σ) (hf : f = .next ∨ f = .cont) (F : Fr h₀ L h' m') (N : News h₀ L h' all) (hs : ∀ p ∈ (I, io) :: Led c, p ∈ all) (hn : ∀ p ∈ nm c, m' p.1 = some p.2) (hm : ∀ y, y ≠ x → (∀ p ∈ nm c, y ≠ p.1) → m' y = m₀ y) (hp : P c) :
    ItemsPost h₀ L I io x m₀ Led nm P Q s f { s with heap := h', toks := tk } := by
  rcases hf with rfl | rfl <;> exact ⟨h', tk, m', c, all, rfl, F, N, hs, hn, hm, hp⟩

section
variable {prog : Program} {w : World} {A : Around} {E : Value → Shared → Prop} {s : Shared} {env : Env} {h₀ : Heap}
theorem for_items {σ : Type} {x : Str} {px : Pos} {body : List Stmt} {l : Addr} {vs : List Value} {nn : Nat} {m₀ : Str → Option Value} {news : List (Addr × Obj)} {Q : Flow → Shared → Prop}
    (Led : σ → List (Addr × Obj)) (nm : σ → List (Str × Value)) (P : Nat → σ → Prop) (c₀ : σ)
    (hh : A.handled = none) (hl : ∀ c, (l, listOf vs.toArray nn) ∈ Led c) (hadr : ∀ c c', (Led c).map (·.1) = (Led c').map (·.1))
    (F : Fr h₀ env.locals s.heap m₀) (N : News h₀ env.locals s.heap news) (hN : ∀ p ∈ Led c₀, p ∈ news) (hn : ∀ p ∈ nm c₀, m₀ p.1 = some p.2) (h0 : P 0 c₀) (hE : PassesOwn (model prog w) A env E)
    (turn : ∀ i v c (u : Str → Option Value) h tk I io, vs[i]? = some v → P i c → (∀ p ∈ Led c, p.1 ≠ I) → i < vs.length →
      Fr h₀ env.locals h (fun y => if y = x then u y else kstB m₀ (nm c) y) → News h₀ env.locals h ((I, io) :: Led c) →
      wpAny (model prog w) A (assign (.Name x px) env v) (fun _ s₂ => wpAny (model prog w) A (execs body env) (ItemsPost h₀ env.locals I io x m₀ Led nm (P (i + 1)) Q s) E s₂) E { s with heap := h, toks := tk })
    (done : ∀ c (u : Str → Option Value) h tk, P vs.length c → Fr h₀ env.locals h (fun y => if y = x then u y else kstB m₀ (nm c) y) → News h₀ env.locals h (Led c) → Q .next { s with heap := h, toks := tk }) :
    wpAny (model prog w) A (pyIter (.ref l)) (fun it s₂ => codeAny (model prog w) A (.forLoop (.Name x px) it body [] env) (fun r s' => match r with | .ok f => Q f s' | .error e => cameBackBy (model prog w) A env E e s') s₂) E s := by
  have split : ∀ (m₁ : Str → Option Value) (c : σ), (∀ p ∈ nm c, m₁ p.1 = some p.2) → (∀ y, y ≠ x → (∀ p ∈ nm c, y ≠ p.1) → m₁ y = m₀ y) → m₁ = fun y => if y = x then m₁ y else kstB m₀ (nm c) y := by
    intro m₁ c hn hm
    funext y
    by_cases e : y = x
    · rw [if_pos e]
    · rw [if_neg e]
      exact (kstB_eq hn fun hz => (hm y e hz).symm).symm
  refine for_list (vs := vs) (nn := nn) (news := Led c₀) (m₀ := m₀)
    (fun i m nx => ∃ c, nx = Led c ∧ (∀ p ∈ nm c, m p.1 = some p.2) ∧ (∀ y, y ≠ x → (∀ p ∈ nm c, y ≠ p.1) → m y = m₀ y) ∧ P i c) hh ?_ F (fun p hp => N p (hN p hp)) ⟨c₀, rfl, hn, fun _ _ _ => rfl, h0⟩ hE ?_ ?_
  · rintro i m nx ⟨c, rfl, _⟩
    exact hl c
  · rintro i v m₁ nx h tk I io hv ⟨c, rfl, hnc, hmc, hp⟩ hI F₁ N₁
    have hlt : i < vs.length := (List.getElem?_eq_some_iff.mp hv).1
    rw [split m₁ c hnc hmc] at F₁
    refine wpAny_mono (turn i v c m₁ h tk I io hv hp hI hlt F₁ N₁) (fun _ s₂ h₂ => wpAny_mono h₂ (fun f s₃ h₃ => ?_) fun _ _ e => e) fun _ _ e => e
    have fin : (∃ h' tk m' c all, s₃ = { s with heap := h', toks := tk } ∧ Fr h₀ env.locals h' m' ∧ News h₀ env.locals h' all ∧ (∀ p ∈ (I, io) :: Led c, p ∈ all) ∧ (∀ p ∈ nm c, m' p.1 = some p.2) ∧ (∀ y, y ≠ x → (∀ p ∈ nm c, y ≠ p.1) → m' y = m₀ y) ∧ P (i + 1) c) →
        ∃ h' tk m' nx, s₃ = { s with heap := h', toks := tk } ∧ Fr h₀ env.locals h' m' ∧ News h₀ env.locals h' ((I, io) :: nx) ∧ (∀ p ∈ nx, p.1 ≠ I) ∧ ∃ c, nx = Led c ∧ (∀ p ∈ nm c, m' p.1 = some p.2) ∧ (∀ y, y ≠ x → (∀ p ∈ nm c, y ≠ p.1) → m' y = m₀ y) ∧ P (i + 1) c := by
      rintro ⟨h', tk', m', c', all, rfl, F', N', hs', hn', hm', hp'⟩
      refine ⟨h', tk', m', Led c', rfl, F', fun p hp => N' p (hs' p hp), ?_, c', rfl, hn', hm', hp'⟩
      intro p hp e
      have h1 : p.1 ∈ (Led c').map (·.1) := List.mem_map.mpr ⟨p, hp, rfl⟩
      rw [hadr c' c] at h1
      obtain ⟨q, hq, hqe⟩ := List.mem_map.mp h1
      exact hI q hq (hqe.trans e)
    cases f with
    | ret v => exact h₃
    | brk => exact h₃
    | next => exact fin h₃
    | cont => exact fin h₃
  · rintro m₁ nx h tk ⟨c, rfl, hnc, hmc, hp⟩ F₁ N₁
    rw [split m₁ c hnc hmc] at F₁
    exact done c m₁ h tk hp F₁ N₁
end
end Mine
end PartBaseD

section PartBaseE
open PySem PySem.W PyProof.Rows
set_option Elab.async false
set_option maxRecDepth 100000
namespace Mine
theorem freshBaseE : True := by
  w_top off
  trivial

/-- an element of a comprehension that leaves the ledger as it is -/
def ElPost (h₀ : Heap) (L : Addr) (m : Str → Option Value) (s : Shared) (led : List (Addr × Obj)) (R : Value → Prop) (y : Value) (s₂ : Shared) : Prop :=
  ∃ h' tk', s₂ = { s with heap := h', toks := tk' } ∧ Fr h₀ L h' m ∧ News h₀ L h' led ∧ R y
theorem ElPost.of {h₀ : Heap} {L : Addr} {m : Str → Option Value} {s : Shared} {led all : List (Addr × Obj)} {R : Value → Prop} {y : Value} {h' : Heap} {tk' : Nat}
    (F : Fr h₀ L h' m) (N : News h₀ L h' all) (hs : ∀ p ∈ led, p ∈ all) (r : R y) : ElPost h₀ L m s led R y { s with heap := h', toks := tk' } := ⟨h', tk', rfl, F, fun p hp => N p (hs p hp), r⟩

def TestPost (h₀ : Heap) (L : Addr) (m : Str → Option Value) (s : Shared) (led : List (Addr × Obj)) (b ok : Bool) (s₂ : Shared) : Prop :=
  ∃ h' tk', s₂ = { s with heap := h', toks := tk' } ∧ Fr h₀ L h' m ∧ News h₀ L h' led ∧ ok = b
theorem TestPost.of {h₀ : Heap} {L : Addr} {m : Str → Option Value} {s : Shared} {led all : List (Addr × Obj)} {b ok : Bool} {h' : Heap} {tk' : Nat}
    (F : Fr h₀ L h' m) (N : News h₀ L h' all) (hs : ∀ p ∈ led, p ∈ all) (r : ok = b) : TestPost h₀ L m s led b ok { s with heap := h', toks := tk' } := ⟨h', tk', rfl, F, fun p hp => N p (hs p hp), r⟩
section
variable {prog : Program} {w : World} {A : Around} {h₀ : Heap} {L : Addr} {m : Str → Option Value} {env : Env} {elt ct : Expr} {x : Str} {scope : Scope} {cl : List (Str × Addr)} {s : Shared} {S : List (Addr × Obj) → Prop} {P : Nat → Value → Prop} {Fin : List Value → List (Addr × Obj) → Prop} {news : List (Addr × Obj)} {n : Nat}
theorem rest_map (R : Nat → Value → Prop) (hS : S news)
    (turn : ∀ i v I oI C oC D m₂ ys h tk (E' : Value → Shared → Prop), i < n → P i v → LCg.NsObj oC m₂ → m₂ x = some v → Fr h₀ L h m → News h₀ L h ((I, oI) :: (C, oC) :: (D, LCg.lst ys) :: news) → LCg.Off3 I C D news → ((@Ne Nat I C) ∧ (@Ne Nat I D) ∧ (@Ne Nat C D)) →
      wpAny (model prog w) A (eval elt (compEnvC scope cl C env)) (ElPost h₀ L m { s with heap := h, toks := tk } ((I, oI) :: (C, oC) :: (D, LCg.lst ys) :: news) (R i)) E' { s with heap := h, toks := tk })
    (fin : ∀ ys : List Value, ys.length = n → (∀ i y, ys[i]? = some y → R i y) → Fin ys news) : LCg.CompRest prog w A h₀ L m env elt x scope cl s S P Fin n 0 [] news := by
  have key : ∀ (j i : Nat) (ys : List Value), i + j = n → ys.length = i → (∀ i y, ys[i]? = some y → R i y) → LCg.CompRest prog w A h₀ L m env elt x scope cl s S P Fin j i ys news := by
    intro j
    induction j with
    | zero =>
      intro i ys hi hl hy
      exact LCg.CompRest.zero (fin ys (by omega) hy)
    | succ j ih =>
      intro i ys hi hl hy
      refine LCg.CompRest.succ ?_
      intro v I oI C oC D m₂ h tk E' hv hC hx F N off ne
      refine wpAny_mono (turn i v I oI C oC D m₂ ys h tk E' (by omega) hv hC hx F N off ne) (fun y s₂ hq => ?_) fun _ _ e => e
      obtain ⟨h', tk', rfl, F', N', hr⟩ := hq
      refine ⟨h', tk', news, rfl, F', N', off, hS, ih (i + 1) _ (by omega) (by simp [hl]) ?_⟩
      intro k y' hk
      rw [List.getElem?_append] at hk
      split at hk
      · exact hy k y' hk
      · rename_i hge
        have : k - ys.length = 0 := by
          cases hq : k - ys.length with
          | zero => rfl
          | succ q => rw [hq] at hk; simp at hk
        rw [this] at hk
        simp at hk
        subst hk
        have : k = i := by omega
        rw [this]; exact hr
  exact key n 0 [] (by omega) rfl (fun i y h => by simp at h)
/-- with one test -/
theorem rest_filter (b : Nat → Bool) (R : Nat → Value → Prop) (hS : S news)
    (test : ∀ i v I oI C oC D m₂ ys h tk (E' : Value → Shared → Prop), i < n → P i v → LCg.NsObj oC m₂ → m₂ x = some v → Fr h₀ L h m → News h₀ L h ((I, oI) :: (C, oC) :: (D, LCg.lst ys) :: news) → LCg.Off3 I C D news → ((@Ne Nat I C) ∧ (@Ne Nat I D) ∧ (@Ne Nat C D)) →
      wpAny (model prog w) A (isTrue ct (compEnvC scope cl C env) (eval ct (compEnvC scope cl C env))) (TestPost h₀ L m { s with heap := h, toks := tk } ((I, oI) :: (C, oC) :: (D, LCg.lst ys) :: news) (b i)) E' { s with heap := h, toks := tk })
    (turn : ∀ i v I oI C oC D m₂ ys h tk (E' : Value → Shared → Prop), i < n → b i = true → P i v → LCg.NsObj oC m₂ → m₂ x = some v → Fr h₀ L h m → News h₀ L h ((I, oI) :: (C, oC) :: (D, LCg.lst ys) :: news) → LCg.Off3 I C D news → ((@Ne Nat I C) ∧ (@Ne Nat I D) ∧ (@Ne Nat C D)) →
      wpAny (model prog w) A (eval elt (compEnvC scope cl C env)) (ElPost h₀ L m { s with heap := h, toks := tk } ((I, oI) :: (C, oC) :: (D, LCg.lst ys) :: news) (R i)) E' { s with heap := h, toks := tk })
    (fin : ∀ (ys : List Value) (ks : List Nat), ks = (List.range n).filter b → ys.length = ks.length → (∀ (j i : Nat) (y : Value), ks[j]? = some i → ys[j]? = some y → R i y) → Fin ys news) : LCt.CompRestT prog w A h₀ L m env ct elt x scope cl s S P Fin n 0 [] news := by
  have key : ∀ (j i : Nat) (ys : List Value) (ks : List Nat), i + j = n → ks = (List.range i).filter b → ys.length = ks.length → (∀ (j i : Nat) (y : Value), ks[j]? = some i → ys[j]? = some y → R i y) → LCt.CompRestT prog w A h₀ L m env ct elt x scope cl s S P Fin j i ys news := by
    intro j
    induction j with
    | zero =>
      intro i ys ks hi hk hl hy
      have : i = n := by omega
      subst this
      exact LCt.CompRestT.zero (fin ys ks hk hl hy)
    | succ j ih =>
      intro i ys ks hi hk hl hy
      refine LCt.CompRestT.succ ?_
      intro v I oI C oC D m₂ h tk E' hv hC hx F N off ne
      refine wpAny_mono (test i v I oI C oC D m₂ ys h tk E' (by omega) hv hC hx F N off ne) (fun ok s₂ hq => ?_) fun _ _ e => e
      obtain ⟨h', tk', rfl, F', N', rfl⟩ := hq
      cases hb : b i with
      | true =>
        rw [if_pos rfl]
        refine wpAny_mono (turn i v I oI C oC D m₂ ys h' tk' E' (by omega) hb hv hC hx F' N' off ne) (fun y s₃ hq => ?_) fun _ _ e => e
        obtain ⟨h'', tk'', rfl, F'', N'', hr⟩ := hq
        refine ⟨h'', tk'', news, rfl, F'', N'', off, hS, ih (i + 1) _ (ks ++ [i]) (by omega) ?_ (by simp [hl]) ?_⟩
        · rw [List.range_succ, List.filter_append, hk]; simp [hb]
        · intro q i' y' h1 h2
          by_cases hlt : q < ks.length
          · rw [List.getElem?_append_left hlt] at h1
            rw [List.getElem?_append_left (by omega)] at h2
            exact hy q i' y' h1 h2
          · have hq : q = ks.length := by
              have := (List.getElem?_eq_some_iff.mp h1).1
              simp at this
              omega
            subst hq
            simp at h1
            rw [← hl] at h2
            simp at h2
            subst h1; subst h2; exact hr
      | false =>
        rw [if_neg (by simp)]
        refine ⟨h', tk', news, rfl, F', N', off, hS, ih (i + 1) ys ks (by omega) ?_ hl hy⟩
        rw [List.range_succ, List.filter_append, hk]; simp [hb]
  exact key n 0 [] [] (by omega) rfl rfl (fun j i y h _ => by simp at h)
end
/-- texts out of a map -/
theorem strs_of {g : Nat → Str} : ∀ {n : Nat} {ys : List Value}, ys.length = n → (∀ i y, ys[i]? = some y → ∃ t, y = Value.str (g i) t) → ∃ l : List (Str × Tok), ys = strValues l ∧ l.map (·.1) = (List.range n).map g := by
  intro n
  induction n with
  | zero =>
    intro ys hl _
    have : ys = [] := List.eq_nil_of_length_eq_zero hl
    subst this
    exact ⟨[], rfl, rfl⟩
  | succ n ih =>
    intro ys hl hy
    have hne : ys ≠ [] := by intro h; subst h; simp at hl
    obtain ⟨init, z, rfl⟩ : ∃ init z, ys = init ++ [z] := ⟨ys.dropLast, ys.getLast hne, (List.dropLast_concat_getLast hne).symm⟩
    have hli : init.length = n := by simpa using hl
    obtain ⟨l, h1, h2⟩ := ih hli (fun i y h => hy i y (by rw [List.getElem?_append_left (List.getElem?_eq_some_iff.mp h).1]; exact h))
    obtain ⟨t, ht⟩ := hy n z (by rw [← hli]; simp)
    refine ⟨l ++ [(g n, t)], ?_, ?_⟩
    · rw [h1, ht]; simp [strValues]
    · rw [List.range_succ, List.map_append, List.map_append, h2]; rfl
section
variable {prog : Program} {w : World} {A : Around} {h₀ : Heap} {L : Addr} {m : Str → Option Value} {env : Env} {elt ct : Expr} {x : Str} {scope : Scope} {cl : List (Str × Addr)} {s : Shared} {S : List (Addr × Obj) → Prop} {P : Nat → Value → Prop} {Fin : List Value → List (Addr × Obj) → Prop} {news : List (Addr × Obj)} {n : Nat}
theorem rest_strs (g : Nat → Str) (hS : S news)
    (turn : ∀ i v I oI C oC D m₂ ys h tk (E' : Value → Shared → Prop), i < n → P i v → LCg.NsObj oC m₂ → m₂ x = some v → Fr h₀ L h m → News h₀ L h ((I, oI) :: (C, oC) :: (D, LCg.lst ys) :: news) → LCg.Off3 I C D news → ((@Ne Nat I C) ∧ (@Ne Nat I D) ∧ (@Ne Nat C D)) →
      wpAny (model prog w) A (eval elt (compEnvC scope cl C env)) (ElPost h₀ L m { s with heap := h, toks := tk } ((I, oI) :: (C, oC) :: (D, LCg.lst ys) :: news) (fun y => ∃ t, y = Value.str (g i) t)) E' { s with heap := h, toks := tk })
    (fin : ∀ l : List (Str × Tok), l.map (·.1) = (List.range n).map g → l.length = n → Fin (strValues l) news) : LCg.CompRest prog w A h₀ L m env elt x scope cl s S P Fin n 0 [] news :=
  rest_map (fun i y => ∃ t, y = Value.str (g i) t) hS turn (fun ys hl hy => by
    obtain ⟨l, rfl, h2⟩ := strs_of hl hy
    exact fin l h2 (by have := congrArg List.length h2; simpa using this))
end
end Mine
end PartBaseE

section PartBaseF
open PySem PySem.W PyProof.Rows
set_option Elab.async false
set_option maxRecDepth 100000
namespace Mine
theorem freshBaseF : True := by
  w_top off
  trivial
theorem strsAre_values : ∀ l : List (Str × Tok), StrsAre (strValues l) (l.map (·.1))
  | [] => .nil
  | p :: l => .cons p.1 p.2 (strsAre_values l)
theorem sum_le {xs : List Str} {b : Nat} (h : ∀ a ∈ xs, a.length ≤ b) : (xs.map (·.length)).sum ≤ xs.length * b := by
  induction xs with
  | nil => simp
  | cons a r ih =>
    have h1 := ih fun a ha => h a (.tail _ ha)
    have h2 := h a (.head _)
    simp only [List.map_cons, List.sum_cons, List.length_cons, Nat.add_mul, Nat.one_mul]
    omega
theorem joinOk_all {l : List (Str × Tok)} {sep : Str} (hn : l.length ≤ 5000) (h : ∀ p ∈ l, p.1.length ≤ 1000) (hs : sep.length ≤ 4) : JoinOk sep (l.map (·.1)) = true := by
  refine joinOk_of ?_
  have h1 := sum_le (xs := l.map (·.1)) (b := 1000) (fun a ha => by obtain ⟨p, hp, rfl⟩ := List.mem_map.mp ha; exact h p hp)
  rw [List.length_map] at h1 ⊢
  have h2 : l.length * sep.length ≤ l.length * 4 := Nat.mul_le_mul_left _ hs
  omega
theorem join_all_len {l : List (Str × Tok)} {sep : Str} (hn : l.length ≤ 5000) (h : ∀ p ∈ l, p.1.length ≤ 1000) (hs : sep.length ≤ 4) : (Txt.join sep (l.map (·.1))).length ≤ 6000000 := by
  have h1 := sum_le (xs := l.map (·.1)) (b := 1000) (fun a ha => by obtain ⟨p, hp, rfl⟩ := List.mem_map.mp ha; exact h p hp)
  have h2 := StrLaws.join_length_le sep (l.map (·.1))
  show (Builtin.Str.glued sep _).length ≤ _
  rw [StrLaws.glued_eq_join]
  rw [List.length_map] at h1 h2
  have h3 : l.length * sep.length ≤ l.length * 4 := Nat.mul_le_mul_left _ hs
  omega
section
variable {prog : Program} {w : World} {A : Around} {E : Value → Shared → Prop} {s : Shared} {h₀ : Heap} {L a b : Addr} {m : Str → Option Value} {news : List (Addr × Obj)} {l l2 : List (Str × Tok)} {n n2 : Nat} {Q : Value → Shared → Prop} {its : Array Value}
theorem strs_add (F : Fr h₀ L s.heap m) (N : News h₀ L s.heap news) (ha : (a, listOf (strValues l).toArray n) ∈ news) (hb : (b, listOf (strValues l2).toArray n2) ∈ news) (hz : l.length ≤ 100000 ∧ l2.length ≤ 100000)
    (h : ∀ D h', Fr h₀ L h' m → News h₀ L h' ((D, listOf (strValues (l ++ l2)).toArray 0) :: news) → (∀ p ∈ news, p.1 < D) → Q (.ref D) { s with heap := h' }) :
    wpAny (model prog w) A (binaryOp .Add (.ref a) (.ref b)) Q E s :=
  kmk_add_lit F N (News.isList N ha) (News.isList N hb) (by simp [strValues]) h (by simp only [strValues_len, sizeLine_eq]; omega)
theorem strs_join {sep : Str} {t : Tok} (N : News h₀ L s.heap news) (ha : (a, listOf (strValues l).toArray n) ∈ news) (hn : l.length ≤ 5000) (hl : ∀ p ∈ l, p.1.length ≤ 1000) (hs : sep.length ≤ 4)
    (h : ∀ t' k, (Txt.join sep (l.map (·.1))).length ≤ 6000000 → Q (.str (Txt.join sep (l.map (·.1))) t') { s with toks := k }) : wpAny (model prog w) A (call (.builtin "str.join") [.str sep t, .ref a]) Q E s :=
  SC.join (News.isList N ha) rfl (joinOk_all hn hl hs) fun t' k => h t' k (join_all_len hn hl hs)
theorem strs_ne_nil (N : News h₀ L s.heap news) (ha : (a, listOf (strValues l).toArray n) ∈ news) (hb : (b, listOf its n2) ∈ news) (hi : its = #[]) (hu : A.units < cLine)
    (h : Q (.bool (decide (l ≠ []))) s) : wpAny (model prog w) A (compareOp .NotEq (.ref a) (.ref b)) Q E s := by
  subst hi
  refine cmp_ofNotEq ?_
  cases l with
  | nil => exact PySem.SeqAt.RcNeAt.lists (items := #[]) (items2 := #[]) (e := fun _ => true) (News.isList N ha) (News.isList N hb) rfl hu (fun j h1 _ => absurd h1 (Nat.not_lt_zero _)) prog w E Q (by simpa using h)
  | cons p l => exact PySem.SeqAt.RcNeAt.lists_lengths (News.isList N ha) (News.isList N hb) (by simp [strValues]) hu prog w E Q (by simpa using h)
end
end Mine
end PartBaseF

section PartBaseG
open PySem PySem.W PyProof.Rows
set_option Elab.async false
set_option maxRecDepth 100000
namespace Mine
theorem freshBaseG : True := by
  w_top off
  trivial
theorem cps_eq {a b : Str} : (a.cps.toList == b.cps.toList) = decide (a = b) := by
  by_cases h : a = b
  · subst h; simp
  · have : a.cps.toList ≠ b.cps.toList := fun e => h (by cases a; cases b; simp only [Str.mk.injEq]; exact Array.ext' e)
    rw [decide_eq_false h]
    simpa using this
def isT (c : Str) : Value → Bool
  | .str a _ => decide (a = c)
  | _ => false
theorem pow4_pos (k : Nat) : (0 : Int) < 4 ^ k := Int.pow_pos (by decide)
theorem pow4_ne (k : Nat) : (4 : Int) ^ k ≠ 0 := Int.ne_of_gt (pow4_pos k)
theorem pow4_small {k : Nat} (h : k < 8) : ((4 : Int) ^ k).natAbs < 1073741824 := by
  have : ∀ j, j < 8 → ((4 : Int) ^ j).natAbs < 1073741824 := by decide
  exact this k h
section
variable {prog : Program} {w : World} {A : Around} {E : Value → Shared → Prop} {s : Shared} {h₀ : Heap} {L a b D : Addr} {m : Str → Option Value} {news : List (Addr × Obj)} {l l2 : List (Str × Tok)} {n n2 : Nat} {Q : Value → Shared → Prop} {its : Array Value} {value slice : Expr} {c : Str} {t : Tok}
theorem strs_index (N : News h₀ L s.heap news) (hm : (D, listOf (strValues l).toArray n) ∈ news) (hc : c ∈ l.map (·.1)) (hz : l.length ≤ 100000)
    (h : ∀ t' tk, Q (.int ((l.map (·.1)).idxOf c : Nat) t') { s with toks := tk }) : wpAny (model prog w) A (call (.builtin "list.index") [.ref D, .str c t]) Q E s := by
  have hj : (l.map (·.1)).idxOf c < (l.map (·.1)).length := List.idxOf_lt_length_of_mem hc
  have hj' : (l.map (·.1)).idxOf c < l.length := by simpa using hj
  have gi : ∀ (i : Nat) (hi : i < (strValues l).toArray.size), (strValues l).toArray[i] = .str (l[i]'(by simpa [strValues] using hi)).1 (l[i]'(by simpa [strValues] using hi)).2 := by
    intro i hi; simp [strValues]
  refine call_meets PySem.F.slot_list_index ⟨_, (N _ hm).1, rfl⟩ PySem.F.entry_list_index (PySem.F.args_list_index_2 _ _)
    (MeetsSeq.list_index D (strValues l).toArray n (.str c t) (isT c) (fun y hy => ?_) ((l.map (·.1)).idxOf c) (by simpa [strValues] using hj) (by omega) ?_ (fun i hi hlt => ?_)) ⟨(N _ hm).1, h _ _⟩
  · obtain ⟨p, _, rfl⟩ : ∃ p ∈ l, Value.str p.1 p.2 = y := by simpa [strValues] using hy
    have e := SeqRoads2.EqGives.str p.1 c p.2 t
    rw [cps_eq] at e
    exact e
  · rw [gi]
    have : (l.map (·.1))[(l.map (·.1)).idxOf c] = c := List.getElem_idxOf hj
    simp only [List.getElem_map] at this
    simp only [isT, this, decide_true]
  · rw [gi]
    have : (l.map (·.1))[i]'(by simpa [strValues] using hi) ≠ c := fun e => by
      have hlt' : i < (l.map (fun x : Str × Tok => x.1)).findIdx (fun y => y == c) := hlt
      have := List.not_of_lt_findIdx hlt'
      rw [e] at this
      simp at this
    simp only [List.getElem_map] at this
    simp only [isT, decide_eq_false this]
theorem strs_upto (F : Fr h₀ L s.heap m) (N : News h₀ L s.heap news) (hm : (D, listOf (strValues l).toArray n) ∈ news) {j : Int} (h0 : 0 ≤ j) (hz : l.length ≤ 100000)
    (h : ∀ D' h', Fr h₀ L h' m → News h₀ L h' ((D', listOf (strValues (l.take j.toNat)).toArray 0) :: news) → (∀ p ∈ news, p.1 < D') → Q (.ref D') { s with heap := h' })
    (hs : subscripted slice false (.ref D) (.ref s.heap.objs.size) = operate [.ref s.heap.objs.size, .ref D] (getItem (.ref D) (.ref s.heap.objs.size))) (ht : ∀ r, letTemporaryGo value (.ref D) r = pure ()) :
    wpAny (model prog w) A (subscriptTail value slice (.ref D) (.ref s.heap.objs.size)) Q E { s with heap := s.heap.push { cls := .type "slice", data := .fields #[.none, .int j t, .none] } } := by
  refine kmk_slice_lit F N (News.isList N hm) .none (IsPart.int _ _) ?_ h hs ht (by rw [List.size_toArray, strValues_len, sizeLine_eq]; omega)
  rw [kms_pick_eq]
  show List.take ((if j < 0 then _ else _) - 0) (List.drop 0 _) = _
  rw [if_neg (by omega)]
  simp only [List.drop_zero, Nat.sub_zero, strValues]
  rw [← List.map_take]
  by_cases hq : j.toNat ≤ l.length
  · simp [Nat.min_eq_left hq]
  · rw [List.length_map, Nat.min_eq_right (by omega), List.take_of_length_le (Nat.le_refl _), List.take_of_length_le (by omega)]
theorem strs_add1 (F : Fr h₀ L s.heap m) (N : News h₀ L s.heap news) (ha : (a, listOf (strValues l).toArray n) ∈ news) (hb : (b, listOf its n2) ∈ news) (hi : its = #[.str c t]) (hz : l.length ≤ 100000)
    (h : ∀ D h', Fr h₀ L h' m → News h₀ L h' ((D, listOf (strValues (l ++ [(c, t)])).toArray 0) :: news) → (∀ p ∈ news, p.1 < D) → Q (.ref D) { s with heap := h' }) :
    wpAny (model prog w) A (binaryOp .Add (.ref a) (.ref b)) Q E s := by
  subst hi
  exact kmk_add_lit F N (News.isList N ha) (News.isList N hb) (by simp [strValues]) h (by simp only [strValues_len, sizeLine_eq, List.length_cons, List.length_nil]; omega)
theorem four_at {a0 a1 a2 a3 : Str} {t0 t1 t2 t3 u : Tok} {j : Int} (N : News h₀ L s.heap news) (hm : (D, listOf its n) ∈ news) (hi : its = #[.str a0 t0, .str a1 t1, .str a2 t2, .str a3 t3]) (h0 : 0 ≤ j) (h1 : j < 4)
    (h : ∀ t, Q (.str ([a0, a1, a2, a3].getD j.toNat a0) t) s) (hs : subscripted slice false (.ref D) (.int j u) = operate [.ref D, .int j u] (getItem (.ref D) (.int j u))) :
    wpAny (model prog w) A (subscriptTail value slice (.ref D) (.int j u)) Q E s := by
  subst hi
  have hl : s.heap.IsList D #[.str a0 t0, .str a1 t1, .str a2 t2, .str a3 t3] := News.isList N hm
  obtain ⟨t, ht⟩ : ∃ t, (#[Value.str a0 t0, .str a1 t1, .str a2 t2, .str a3 t3] : Array Value)[j.toNat]? = some (.str ([a0, a1, a2, a3].getD j.toNat a0) t) := by
    have : j.toNat = 0 ∨ j.toNat = 1 ∨ j.toNat = 2 ∨ j.toNat = 3 := by omega
    rcases this with e | e | e | e <;> rw [e] <;> exact ⟨_, rfl⟩
  exact tail_any hl.typeIs slot_list_getitem.lookup (wpAny_getItem_list hl h0 (by omega) ht (h t)) hs
end
end Mine
end PartBaseG

section PartBaseH
open PySem PySem.W PyProof.Rows
set_option Elab.async false
set_option maxRecDepth 100000
set_option linter.unusedVariables false
namespace Mine
theorem freshBaseH : True := by
  w_top off
  trivial
def Stop (p : Prop) : Prop := p
theorem of_stop {p : Prop} (h : Stop p) : p := h
theorem to_stop {p : Prop} (h : p) : Stop p := h
theorem range_getD {α β : Type} (f : α → β) (d : α) (l : List α) {n : Nat} (hn : n = l.length) : (List.range n).map (fun i => f (l.getD i d)) = l.map f := by
  subst hn
  apply List.ext_getElem
  · simp
  · intro i h1 h2
    simp at h1
    simp [h1]
section
variable {prog : Program} {w : World} {A : Around} {h₀ : Heap} {L ax : Addr} {m : Str → Option Value} {env : Env} {elt ct : Expr} {x : Str} {scope : Scope} {cl : List (Str × Addr)} {s₁ : Shared} {Fin : Shared → List Value → List (Addr × Obj) → Prop} {news : List (Addr × Obj)} {n k : Nat} {ws : List Value} {xs : List Int} {l : List (Str × Tok)}
/-- texts made of each int of a ledger list -/
theorem src_ints (f : Int → Str) (hh : A.handled = none) (F : Fr h₀ L s₁.heap m) (N : News h₀ L s₁.heap news) (hm : (ax, listOf ws.toArray k) ∈ news) (hI : IntsAre ws xs) (hz : xs.length ≤ 100000)
    (turn : ∀ z t I oI C oC D m₂ ys h tk (E' : Value → Shared → Prop), z ∈ xs → LCg.NsObj oC m₂ → m₂ x = some (.int z t) → Fr h₀ L h m → News h₀ L h ((I, oI) :: (C, oC) :: (D, LCg.lst ys) :: news) → LCg.Off3 I C D news → ((@Ne Nat I C) ∧ (@Ne Nat I D) ∧ (@Ne Nat C D)) →
      wpAny (model prog w) A (eval elt (compEnvC scope cl C env)) (ElPost h₀ L m { s₁ with heap := h, toks := tk } ((I, oI) :: (C, oC) :: (D, LCg.lst ys) :: news) (fun y => ∃ t, y = Value.str (f z) t)) E' { s₁ with heap := h, toks := tk })
    (fin : ∀ g (l : List (Str × Tok)), l.map (·.1) = xs.map f → l.length = xs.length → Fin { s₁ with heap := g } (strValues l) news) : LCg.CompSrc prog w A h₀ L m env elt x scope cl Fin (.ref ax) s₁ := by
  have hlen : ws.length = xs.length := by
    clear hm hz turn fin
    induction hI with
    | nil => rfl
    | cons n t h ih => simp [ih]
  refine LCg.CompSrc.ledger hh F N hm (by rw [List.size_toArray, hlen, sizeLine_eq]; omega) fun g => ?_
  refine rest_strs (fun i => f (xs.getD i 0)) (.inr ⟨_, hm, rfl, _, rfl⟩) ?_ ?_
  · intro i v I oI C oC D m₂ ys h tk E' hi hv hC hx F' N' off ne
    rw [List.getElem?_toArray] at hv
    obtain ⟨z, t, rfl, hz2⟩ := IntsAre.at hI i v hv
    have e : xs.getD i 0 = z := by rw [List.getD_eq_getElem?_getD, hz2]; rfl
    dsimp only
    rw [e]
    exact turn z t I oI C oC D m₂ ys h tk E' (List.mem_of_getElem? hz2) hC hx F' N' off ne
  · intro l h1 h2
    have e : ws.toArray.size = xs.length := by rw [List.size_toArray, hlen]
    rw [range_getD f 0 xs e] at h1
    exact fin g l h1 (by rw [h2, e])
/-- texts made of each text of a ledger list -/
theorem src_strs (f : Str → Str) (hh : A.handled = none) (F : Fr h₀ L s₁.heap m) (N : News h₀ L s₁.heap news) (hm : (ax, listOf (strValues l).toArray k) ∈ news) (hz : l.length ≤ 100000)
    (turn : ∀ z t I oI C oC D m₂ ys h tk (E' : Value → Shared → Prop), (z, t) ∈ l → LCg.NsObj oC m₂ → m₂ x = some (.str z t) → Fr h₀ L h m → News h₀ L h ((I, oI) :: (C, oC) :: (D, LCg.lst ys) :: news) → LCg.Off3 I C D news → ((@Ne Nat I C) ∧ (@Ne Nat I D) ∧ (@Ne Nat C D)) →
      wpAny (model prog w) A (eval elt (compEnvC scope cl C env)) (ElPost h₀ L m { s₁ with heap := h, toks := tk } ((I, oI) :: (C, oC) :: (D, LCg.lst ys) :: news) (fun y => ∃ t, y = Value.str (f z) t)) E' { s₁ with heap := h, toks := tk })
    (fin : ∀ g (l2 : List (Str × Tok)), l2.map (·.1) = (l.map (·.1)).map f → l2.length = l.length → Fin { s₁ with heap := g } (strValues l2) news) : LCg.CompSrc prog w A h₀ L m env elt x scope cl Fin (.ref ax) s₁ := by
  refine LCg.CompSrc.ledger hh F N hm (by rw [List.size_toArray, strValues_len, sizeLine_eq]; omega) fun g => ?_
  refine rest_strs (fun i => f ((l.map (·.1)).getD i (Str.ofString ""))) (.inr ⟨_, hm, rfl, _, rfl⟩) ?_ ?_
  · intro i v I oI C oC D m₂ ys h tk E' hi hv hC hx F' N' off ne
    rw [List.getElem?_toArray, strValues, List.getElem?_map] at hv
    cases hq : l[i]? with
    | none => rw [hq] at hv; cases hv
    | some q =>
      rw [hq] at hv
      obtain rfl := Option.some.inj hv
      have e : (l.map (·.1)).getD i (Str.ofString "") = q.1 := by rw [List.getD_eq_getElem?_getD, List.getElem?_map, hq]; rfl
      dsimp only
      rw [e]
      exact turn q.1 q.2 I oI C oC D m₂ ys h tk E' (List.mem_of_getElem? hq) hC hx F' N' off ne
  · intro l2 h1 h2
    have e : (strValues l).toArray.size = (l.map (·.1)).length := by rw [List.size_toArray, strValues_len, List.length_map]
    rw [range_getD f _ _ e] at h1
    exact fin g l2 h1 (by rw [h2, e, List.length_map])
end
end Mine
end PartBaseH

section PartBaseI
open PySem PySem.W PyProof.Rows
set_option Elab.async false
set_option maxRecDepth 100000
set_option linter.unusedVariables false
namespace Mine
theorem freshBaseI : True := by
  w_top off
  trivial
def EnumPost (h₀ : Heap) (L I : Addr) (o1 o2 : Obj) (J : (Str → Option Value) → List (Addr × Obj) → Prop) (Q : Flow → Shared → Prop) (s : Shared) (f : Flow) (s₂ : Shared) : Prop :=
  match f with
  | .ret v => Q (.ret v) s₂
  | .brk => Q .next s₂
  | _ => ∃ h' tk m' nx, s₂ = { s with heap := h', toks := tk } ∧ Fr h₀ L h' m' ∧ News h₀ L h' ((I + 1, o1) :: (I, o2) :: nx) ∧ (∀ p ∈ nx, p.1 ≠ I ∧ p.1 ≠ I + 1) ∧ J m' nx
theorem EnumPost.next {h₀ : Heap} {L I : Addr} {o1 o2 : Obj} {J : (Str → Option Value) → List (Addr × Obj) → Prop} {Q : Flow → Shared → Prop} {s : Shared} {h' : Heap} {tk : Nat} {m' : Str → Option Value} {nx all : List (Addr × Obj)}
    (F : Fr h₀ L h' m') (N : News h₀ L h' all) (hs : ∀ p ∈ (I + 1, o1) :: (I, o2) :: nx, p ∈ all) (hne : ∀ p ∈ nx, p.1 ≠ I ∧ p.1 ≠ I + 1) (hj : J m' nx) : EnumPost h₀ L I o1 o2 J Q s .next { s with heap := h', toks := tk } :=
  ⟨h', tk, m', nx, rfl, F, fun p hp => N p (hs p hp), hne, hj⟩
section
variable {prog : Program} {w : World} {A : Around} {E : Value → Shared → Prop} {s : Shared} {env : Env} {h₀ : Heap} {body : List Stmt} {Q : Flow → Shared → Prop}
theorem enum_list {elts : List Expr} {k : Nat} {pos : Pos} {l : Addr} {vs : List Value} {n : Nat} {m₀ : Str → Option Value} {news : List (Addr × Obj)}
    (J : Nat → (Str → Option Value) → List (Addr × Obj) → Prop)
    (hh : A.handled = none) (hJl : ∀ i m nx, J i m nx → (l, listOf vs.toArray n) ∈ nx)
    (F : Fr h₀ env.locals s.heap m₀) (N : News h₀ env.locals s.heap news) (h0 : J 0 m₀ news)
    (turn : ∀ i v T t m₁ nx h tk I o1 o2, vs[i]? = some v → J i m₁ nx → (∀ p ∈ nx, p.1 ≠ I ∧ p.1 ≠ I + 1) → IsTup h T #[.int (i : Int) t, v] → Fr h₀ env.locals h m₁ → News h₀ env.locals h ((I + 1, o1) :: (I, o2) :: nx) →
      wpAny (model prog w) A (assign (.Tuple elts k pos) env (.ref T)) (fun _ s₂ => wpAny (model prog w) A (execs body env) (EnumPost h₀ env.locals I o1 o2 (J (i + 1)) Q s) E s₂) E { s with heap := h, toks := tk })
    (done : ∀ m₁ nx h tk, J vs.length m₁ nx → Fr h₀ env.locals h m₁ → News h₀ env.locals h nx → Q .next { s with heap := h, toks := tk }) :
    wpAny (model prog w) A (call (.type "enumerate") [.ref l]) (fun xv s₁ => wpAny (model prog w) A (pyIter xv) (fun it s₂ => TurnsAt prog w A h₀ env (.Tuple elts k pos) body Q E it s₂) E s₁) E s := by
  refine ktu_enum (lo := listOf vs.toArray n) hh F N (hJl _ _ _ h0) rfl rfl rfl fun I hI => ?_
  have key : ∀ (r : List Value) (a : Nat), vs.drop a = r → a + r.length = vs.length → ∀ m nx, J a m nx → (∀ p ∈ nx, p.1 ≠ I ∧ p.1 ≠ I + 1) →
      ItemsRest prog w A E h₀ env (.Tuple elts k pos) body Q s [(I + 1, "enumerate"), (I, "list_iterator")] [(l, listOf vs.toArray n)] (enumItems a r) m nx := by
    intro r
    induction r with
    | nil =>
      intro a hd hl m nx hj hne
      refine ItemsRest.zero fun h tk F' N' => ?_
      have e : a = vs.length := by simpa using hl
      subst e
      exact done m nx h tk hj F' N'
    | cons v r ih =>
      intro a hd hl m nx hj hne
      have hv : vs[a]? = some v := by
        have := congrArg (·[0]?) hd
        simpa using this
      have hd' : vs.drop (a + 1) = r := by
        have := congrArg List.tail hd
        simpa using this
      refine ItemsRest.pair fun T t h tk hT F' => ?_
      intro o1 _ o2 _ N'
      have tt := turn a v T t m nx h tk I o1 o2 hv hj hne hT F' N'
      refine wpAny_mono tt (fun _ s₂ h₂ => wpAny_mono h₂ (fun f s₃ p => ?_) fun _ _ e => e) fun _ _ e => e
      have fin : (∃ h' tk m' nx, s₃ = { s with heap := h', toks := tk } ∧ Fr h₀ env.locals h' m' ∧ News h₀ env.locals h' ((I + 1, o1) :: (I, o2) :: nx) ∧ (∀ p ∈ nx, p.1 ≠ I ∧ p.1 ≠ I + 1) ∧ J (a + 1) m' nx) →
          UnrEndW h₀ env.locals { s with heap := h, toks := tk } [(I + 1, o1), (I, o2)] (fun m' n' => SubL [(l, listOf vs.toArray n)] n' ∧ ItemsRest prog w A E h₀ env (.Tuple elts k pos) body Q s [(I + 1, "enumerate"), (I, "list_iterator")] [(l, listOf vs.toArray n)] (enumItems (a + 1) r) m' n') s₃ := by
        rintro ⟨h', tk', m', nx', rfl, F₃, N₃, ne₃, j₃⟩
        refine ⟨h', tk', m', nx', rfl, F₃, N₃, ?_, ⟨hJl _ _ _ j₃, trivial⟩, ih (a + 1) hd' (by simp at hl; omega) m' nx' j₃ ne₃⟩
        intro p hp q hq
        rcases List.mem_cons.mp hq with rfl | hq
        · exact (ne₃ p hp).2
        · rcases List.mem_singleton.mp hq with rfl
          exact (ne₃ p hp).1
      cases f with
      | ret v => exact p
      | brk => exact p
      | next => exact fin p
      | cont => exact fin p
  exact key vs 0 (by simp) (by simp) m₀ news h0 fun p hp => ⟨Nat.ne_of_lt (hI p hp), Nat.ne_of_lt (Nat.lt_succ_of_lt (hI p hp))⟩
end
end Mine
end PartBaseI

section PartBaseJ
open PySem PySem.W PyProof.Rows
set_option Elab.async false
set_option maxRecDepth 100000
set_option linter.unusedVariables false
namespace Mine
theorem freshBaseJ : True := by
  w_top off
  trivial
theorem own_setit : Manifest.owners.lookup (String.ofList ['r', 'o', 't', 'a', 'r', 'e', 't', 'i', '_', 't', 'e', 's'].reverse) = some Manifest.sig_set_iterator := by kernel_rfl
theorem slot_setit_next : Slot "set_iterator" "__next__" "set_iterator.__next__" :=
  .of (owner := "set_iterator") (n := "__next__") (by rw [typeLookup_type, builtinLookup_eq_fast]; kernel_rfl) (by decide +kernel) (by decide +kernel) (by decide +kernel)
    (by first | exact .inl (by decide +kernel) | exact .inr (by decide +kernel)) (by rw [isSubtype_type]; kernel_rfl)
theorem entry_setit_next : entryFor table "set_iterator.__next__" = some Builtin.«set_iterator.__next__» := entryFor_of_tree (by kernel_rfl)
theorem args_setit_next (a : Value) : argsOk "set_iterator.__next__" ⟨[a], []⟩ := by
  unfold argsOk; rw [signature?_of (id := "set_iterator.__next__") (n := ['_', '_', 't', 'x', 'e', 'n', '_', '_']) (o := ['r', 'o', 't', 'a', 'r', 'e', 't', 'i', '_', 't', 'e', 's']) (by kernel_rfl) own_setit]; kernel_rfl
theorem entry_set_iter : entryFor table "set.__iter__" = some Builtin.«frozenset.__iter__» :=
  entryFor_alias (id' := "frozenset.__iter__") (by kernel_rfl) rfl (by decide +kernel) (by kernel_rfl)
section
variable {prog : Program} {w : World} {A : Around} {E : Value → Shared → Prop} {s : Shared} {env : Env} {h₀ : Heap} {D I : Addr} {led : Bool}
def set0 (led : Bool) : Obj := { cls := Value.type "set", data := Data.set #[] 0 (SetTable.fresh 0 0 led) }
def setit0 (D : Addr) : Obj := { cls := .type "set_iterator", data := .fields #[.int 0 0, .int 0 0, .ref D, .int 0 0, .int 0 0] }
theorem set0_iter {Q : Value → Shared → Prop} (ho : s.heap.get? D = some (set0 led)) (hQ : Q (.ref s.heap.objs.size) { s with heap := s.heap.push (setit0 D) }) :
    wpAny (model prog w) A (pyIter (.ref D)) Q E s := by
  have hT : s.TypeIs (.ref D) "set" := ⟨_, ho, rfl⟩
  refine wpAny_pyIter_slot hT F.slot_set_iter (wpAny_call_entry F.slot_set_iter hT entry_set_iter ?_ (F.args_set_iter_1 _))
  unfold Builtin.«frozenset.__iter__» Builtin.Frozenset.slot0
  refine wpAny_bind (wpAny_bind (wpAny_pure ?_))
  refine wpAny_pure ?_
  unfold Builtin.Frozenset.sizeOf
  refine wpAny_bind (wpAny_bind (wpAny_setEntries_of ho rfl rfl (wpAny_pure ?_)))
  unfold setDrawn
  refine wpAny_bind (wpAny_bind (wpAny_setState_of ho rfl rfl ?_))
  unfold setsByText
  refine wpAny_bind (wpAny_bind (wpAny_askSetting (wpAny_pure ?_)))
  refine wpAny_pure ?_
  dsimp only
  rw [if_neg (fun h => by rw [Bool.and_eq_true] at h; exact absurd h.2 Bool.false_ne_true)]
  refine wpAny_bind (wpAny_pure ?_)
  refine wpAny_bind (wpAny_setEpoch_of ho rfl rfl ?_)
  refine wpAny_bind (wpAny_newObj_type (wpAny_pure ⟨_, rfl, "set_iterator", _, ⟨_, Heap.get?_push_size _ rfl, rfl⟩, slot_setit_next.lookup, ?_⟩))
  exact hQ
theorem set0_none {Q : Option (Value × Nat) → Shared → Prop} (ho : s.heap.get? D = some (set0 led)) (hQ : Q none s) : wpAny (model prog w) A (setNext D 0 0 0) Q E s := by
  unfold setNext
  refine wpAny_bind (wpAny_setState_of ho rfl rfl ?_)
  dsimp only
  unfold setsByText
  refine wpAny_bind (wpAny_bind (wpAny_askSetting (wpAny_pure ?_)))
  show wpAny _ _ (if w.params.followText "set-order" = true then _ else _) _ _ _
  by_cases hb : w.params.followText "set-order" = true
  · rw [if_pos hb, if_neg (by decide)]
    unfold setWalk
    refine wpAny_bind (wpAny_bind (wpAny_setState_of ho rfl rfl ?_))
    dsimp only
    unfold setsByText
    refine wpAny_bind (wpAny_bind (wpAny_askSetting (wpAny_pure ?_)))
    show wpAny _ _ (if w.params.followText "set-order" = true then _ else _) _ _ _
    rw [if_pos hb]
    refine wpAny_bind (wpAny_askSetting (wpAny_pure ?_))
    exact wpAny_pure hQ
  · rw [if_neg hb]
    rw [if_neg (by exact Bool.false_ne_true)]
    refine wpAny_bind (wpAny_of_eq (a := ()) (by cases led <;> rfl) ?_)
    exact wpAny_pure hQ
theorem set0_end {Q : Option Value → Shared → Prop} (hh : A.handled = none) (hi : s.heap.get? I = some (setit0 D)) (ho : s.heap.get? D = some (set0 led))
    (hQ : ∀ h', Heap.ExtBut I s.heap h' → Q none { s with heap := h' }) : wpAny (model prog w) A (pyNext (.ref I)) Q E s := by
  have hT : s.TypeIs (.ref I) "set_iterator" := ⟨_, hi, rfl⟩
  unfold pyNext
  refine wpAny_bind (wpAny_attempt (wpAny_callSpecial?_slot (name := Str.ofString "__next__") hT slot_setit_next
    (wpAny_call_entry slot_setit_next hT entry_setit_next ?_ (args_setit_next _))))
  unfold Builtin.«set_iterator.__next__»
  refine wpAny_bind (wpAny_pure ?_)
  refine wpAny_bind (wpAny_fieldsOf hi rfl ?_)
  dsimp only
  refine wpAny_bind (wpAny_setEntries_of ho rfl rfl ?_)
  rw [if_neg (by decide)]
  refine wpAny_bind (set0_none ho ?_)
  dsimp only
  refine wpAny_bind (wpAny_setField hi rfl (show 2 < 5 by decide) ?_)
  refine wpAny_bind ?_
  simp only [newExc, newTuple]
  refine wpAny_bind (wpAny_newObj_type ?_ (by size_fits))
  refine wpAny_bind (m := firstArgMember _ _) (wpAny_of_eq (a := Value.none) (by first | rfl | (simp only [firstArgMember]; rfl)) ?_)
  refine wpAny_newObj_type ?_ (by size_fits)
  simp only [raiseNew]
  refine wpAny_bind (wpAny_handled ?_)
  rw [show A.in1.handled = none from hh]
  refine wpAny_bind (wpAny_pure (wpAny_throw ?_))
  refine wpAny_bind (wpAny_isInstance (T := "StopIteration") (b := true) ⟨_, Heap.get?_push_size _ rfl, rfl⟩ isSubtype_stop ?_)
  exact wpAny_pure (hQ _ (((Heap.SameBut.update ..).extBut.push _).push _))
/-- a for over an empty set of the ledger's -/
theorem for_set0 {target : Expr} {body : List Stmt} {m : Str → Option Value} {news : List (Addr × Obj)} {Q : Flow → Shared → Prop}
    (hh : A.handled = none) (hm : (D, set0 led) ∈ news)
    (F : Fr h₀ env.locals s.heap m) (N : News h₀ env.locals s.heap news)
    (done : ∀ h, Fr h₀ env.locals h m → News h₀ env.locals h news → Q .next { s with heap := h }) :
    wpAny (model prog w) A (pyIter (.ref D)) (fun it s₂ => codeAny (model prog w) A (.forLoop target it body [] env) (fun r s' => match r with | .ok f => Q f s' | .error e => cameBackBy (model prog w) A env E e s') s₂) E s := by
  refine set0_iter (N _ hm).1 ?_
  have F₁ := F.push (setit0 D)
  have N₁ := N.push F (setit0 D) rfl
  refine codeAny_loop' rfl (fun k s' => s' = { s with heap := s.heap.push (setit0 D) }) (fun k s' hI => ?_) 0 rfl
  subst hI
  show wpAny _ _ ((forTurn target (.ref s.heap.objs.size) body [] env).onRaise (fun x => do noteFrame x env; theTreesLotGoes x)) _ _ _
  refine wpAny_noted ?_
  simp only [forTurn]
  have hIn := N₁ _ (.head _)
  refine wpAny_bind (wpAny_standAt (wpAny_bind (wpAny_onRaise (set0_end (s := { s with heap := s.heap.push (setit0 D) }) hh hIn.1 (N₁ _ (.tail _ hm)).1 fun h' he' => ?_))))
  refine wpAny_pure (.inr ⟨rfl, codeAny_block (wpAny_execs_nil ?_)⟩)
  refine done h' ?_ ?_
  · refine ⟨?_, fun b o e => he' b o (fun q => ?_) (F₁.keep b o e), F₁.above⟩
    · obtain ⟨oL, es, ep, hL, r⟩ := F₁.ns
      exact ⟨oL, es, ep, he' _ _ (Ne.symm hIn.2.1) hL, r⟩
    · have := hIn.2.2; rw [← q] at this; rw [this] at e; cases e
  · intro p hp
    have := N₁ p (.tail _ hp)
    exact ⟨he' _ _ (Nat.ne_of_lt (Heap.lt_size (N p hp).1)) this.1, this.2⟩
end
end Mine
end PartBaseJ

section PartBaseK
open PySem PySem.W PyProof.Rows
set_option Elab.async false
set_option maxRecDepth 100000
set_option linter.unusedVariables false
namespace Mine
theorem freshBaseK : True := by
  w_top off
  trivial
structure Row where
  T1 : Addr
  T2 : Addr
  p : Str
  a : Tok
  b : Tok
  c : Tok
  d : Tok
  u : Int
  v : Int
def tup3 (p : Str) (a : Tok) (u : Int) (b : Tok) : Obj := { cls := .type "tuple", data := .seq #[.str p a, .int u b, .bool true] }
def Row.o1 (r : Row) : Obj := tup3 r.p r.a r.u r.b
def Row.o2 (r : Row) : Obj := tup3 r.p r.c r.v r.d
def refs1 (rows : List Row) : List Value := rows.map fun r => .ref r.T1
def refs2 (rows : List Row) : List Value := rows.map fun r => .ref r.T2
theorem refs1_len (rows : List Row) : (refs1 rows).length = rows.length := by simp [refs1]
theorem refs2_len (rows : List Row) : (refs2 rows).length = rows.length := by simp [refs2]
def rowsLed : List Row → List (Addr × Obj)
  | [] => []
  | r :: rs => (r.T1, r.o1) :: (r.T2, r.o2) :: rowsLed rs
theorem rowsLed_mem : ∀ {rows : List Row} {r : Row}, r ∈ rows → (r.T1, r.o1) ∈ rowsLed rows ∧ (r.T2, r.o2) ∈ rowsLed rows
  | _ :: _, _, .head _ => ⟨.head _, .tail _ (.head _)⟩
  | _ :: _, _, .tail _ h => ⟨.tail _ (.tail _ (rowsLed_mem h).1), .tail _ (.tail _ (rowsLed_mem h).2)⟩
theorem all_t (n : Nat) : ((List.range n).all fun _ => true) = true := List.all_eq_true.mpr fun _ _ => rfl
section
variable {prog : Program} {w : World} {A : Around} {E : Value → Shared → Prop} {s : Shared} {h₀ : Heap} {L a b D ax : Addr} {m : Str → Option Value} {news news' : List (Addr × Obj)} {l : List (Str × Tok)} {n n2 k : Nat} {Q : Value → Shared → Prop} {value slice : Expr} {vs : List Value} {u : Tok}
theorem vals_append {v : Value} (F : Fr h₀ L s.heap m) (N : News h₀ L s.heap news) (U : Upd D (listOf vs.toArray n) (listOf (vs ++ [v]).toArray (n + 1)) news news') (hz : vs.length ≤ 100000)
    (h : ∀ h', Fr h₀ L h' m → News h₀ L h' news' → Q .none { s with heap := h' }) : wpAny (model prog w) A (call (.builtin "list.append") [.ref D, v]) Q E s := by
  have e : (vs ++ [v]).toArray = vs.toArray.push v := by simp
  rw [e] at U
  exact append_K F N U h (by rw [List.size_toArray, sizeLine_eq]; omega)
theorem vals_len (N : News h₀ L s.heap news) (hm : (D, listOf vs.toArray n) ∈ news) (hz : vs.length ≤ 100000)
    (h : ∀ t tk, Q (.int (vs.length : Int) t) { s with toks := tk }) : wpAny (model prog w) A (call (.builtin "len") [.ref D]) Q E s := by
  refine Calls.call_len_list (News.isList N hm) (by rw [List.size_toArray]; omega) ?_
  rw [List.size_toArray]
  exact h _ _
theorem strs_at {j : Int} (N : News h₀ L s.heap news) (hm : (D, listOf (strValues l).toArray n) ∈ news) (h0 : 0 ≤ j) (h1 : j < l.length) (hz : l.length ≤ 100000)
    (h : ∀ q t, l[j.toNat]? = some (q, t) → Q (.str q t) s) (hs : subscripted slice false (.ref D) (.int j u) = operate [.ref D, .int j u] (getItem (.ref D) (.int j u))) :
    wpAny (model prog w) A (subscriptTail value slice (.ref D) (.int j u)) Q E s := by
  have hl : s.heap.IsList D (strValues l).toArray := News.isList N hm
  have hj : j.toNat < l.length := by omega
  have hq : l[j.toNat]? = some (l[j.toNat].1, l[j.toNat].2) := by simp [hj]
  have ht : (strValues l).toArray[j.toNat]? = some (.str l[j.toNat].1 l[j.toNat].2) := by simp [strValues, hj]
  exact tail_any hl.typeIs slot_list_getitem.lookup (wpAny_getItem_list hl h0 (by omega) ht (h _ _ hq)) hs
theorem rows_eq {rows : List Row} (N : News h₀ L s.heap news) (ha : (a, listOf (refs1 rows).toArray n) ∈ news) (hb : (b, listOf (refs2 rows).toArray n2) ∈ news)
    (hr : ∀ r ∈ rows, (r.T1, r.o1) ∈ news ∧ (r.T2, r.o2) ∈ news ∧ r.T1 ≠ r.T2 ∧ r.u = r.v) (hu : A.units + 8 < cLine) (h : Q (.bool true) s) :
    wpAny (model prog w) A (compareOp .Eq (.ref a) (.ref b)) Q E s := by
  have hu1 : A.in1.units < cLine := by rw [units_in1]; omega
  refine SeqAt.eq_listAt (e := fun _ => true) (News.isList N ha) (News.isList N hb) (by simp [refs1, refs2]) (by omega) (fun j h1 h2 => ?_) (by rw [all_t]; exact h)
  have hj : j < rows.length := by simpa [refs1] using h1
  have e1 : (refs1 rows).toArray[j] = .ref rows[j].T1 := by simp [refs1]
  have e2 : (refs2 rows).toArray[j] = .ref rows[j].T2 := by simp [refs2]
  rw [e1, e2]
  obtain ⟨m1, m2, hne, huv⟩ := hr rows[j] (List.getElem_mem hj)
  have t1 : s.heap.IsTuple rows[j].T1 #[.str rows[j].p rows[j].a, .int rows[j].u rows[j].b, .bool true] := ⟨_, (N _ m1).1, rfl, _, rfl⟩
  have t2 : s.heap.IsTuple rows[j].T2 #[.str rows[j].p rows[j].c, .int rows[j].v rows[j].d, .bool true] := ⟨_, (N _ m2).1, rfl, _, rfl⟩
  refine SeqAt.EqAt.of_refs hne ?_
  have := SeqAt.RcAt.tuples (e := fun _ => true) t1 t2 hu1 (fun i g1 g2 => ?_)
  · rw [all_t] at this
    exact this
  · have : i = 0 ∨ i = 1 ∨ i = 2 := by simp at g1; omega
    rcases this with rfl | rfl | rfl
    · have := SeqAt.EqAt.str_str (A := A.in1.in1) (s := s) rows[j].p rows[j].a rows[j].p rows[j].c
      simpa using this
    · have := SeqAt.EqAt.int_int (A := A.in1.in1) (s := s) rows[j].u rows[j].b rows[j].v rows[j].d
      rw [huv] at this ⊢
      simpa using this
    · have := SeqAt.EqAt.bool_bool (A := A.in1.in1) (s := s) true true
      simpa using this
end
section
variable {prog : Program} {w : World} {A : Around} {h₀ : Heap} {L ax : Addr} {m : Str → Option Value} {env : Env} {elt ct : Expr} {x : Str} {scope : Scope} {cl : List (Str × Addr)} {s₁ : Shared} {Fin : Shared → List Value → List (Addr × Obj) → Prop} {news : List (Addr × Obj)} {k : Nat} {l : List (Str × Tok)}
theorem strs_back : ∀ ys : List Value, (∀ (j : Nat) (y : Value), ys[j]? = some y → ∃ a t, y = Value.str a t) → ∃ l : List (Str × Tok), ys = strValues l
  | [], _ => ⟨[], rfl⟩
  | y :: ys, h => by
    obtain ⟨a, t, rfl⟩ := h 0 y rfl
    obtain ⟨l, e⟩ := strs_back ys fun j z hz => h (j + 1) z (by simpa using hz)
    exact ⟨(a, t) :: l, by rw [e]; rfl⟩
/-- the texts of a ledger list that pass a test -/
theorem src_pick (f : Str → Bool) (hh : A.handled = none) (F : Fr h₀ L s₁.heap m) (N : News h₀ L s₁.heap news) (hm : (ax, listOf (strValues l).toArray k) ∈ news) (hz : l.length ≤ 100000)
    (test : ∀ z t I oI C oC D m₂ ys h tk (E' : Value → Shared → Prop), (z, t) ∈ l → LCg.NsObj oC m₂ → m₂ x = some (.str z t) → Fr h₀ L h m → News h₀ L h ((I, oI) :: (C, oC) :: (D, LCg.lst ys) :: news) → LCg.Off3 I C D news → ((@Ne Nat I C) ∧ (@Ne Nat I D) ∧ (@Ne Nat C D)) →
      wpAny (model prog w) A (isTrue ct (compEnvC scope cl C env) (eval ct (compEnvC scope cl C env))) (TestPost h₀ L m { s₁ with heap := h, toks := tk } ((I, oI) :: (C, oC) :: (D, LCg.lst ys) :: news) (f z)) E' { s₁ with heap := h, toks := tk })
    (turn : ∀ z t I oI C oC D m₂ ys h tk (E' : Value → Shared → Prop), (z, t) ∈ l → LCg.NsObj oC m₂ → m₂ x = some (.str z t) → Fr h₀ L h m → News h₀ L h ((I, oI) :: (C, oC) :: (D, LCg.lst ys) :: news) → LCg.Off3 I C D news → ((@Ne Nat I C) ∧ (@Ne Nat I D) ∧ (@Ne Nat C D)) →
      wpAny (model prog w) A (eval elt (compEnvC scope cl C env)) (ElPost h₀ L m { s₁ with heap := h, toks := tk } ((I, oI) :: (C, oC) :: (D, LCg.lst ys) :: news) (fun y => ∃ a t, y = Value.str a t)) E' { s₁ with heap := h, toks := tk })
    (fin : ∀ g (l2 : List (Str × Tok)), l2.length ≤ l.length → (l2 ≠ [] ↔ (l.map (·.1)).any f = true) → Fin { s₁ with heap := g } (strValues l2) news) : LCt.CompSrcT prog w A h₀ L m env ct elt x scope cl Fin (.ref ax) s₁ := by
  have pick : ∀ (i : Nat) (v : Value), (strValues l).toArray[i]? = some v → ∃ q : Str × Tok, l[i]? = some q ∧ v = Value.str q.1 q.2 := by
    intro i v hv
    rw [List.getElem?_toArray, strValues, List.getElem?_map] at hv
    cases hq : l[i]? with
    | none => rw [hq] at hv; cases hv
    | some q => rw [hq] at hv; exact ⟨q, rfl, (Option.some.inj hv).symm⟩
  have at_is : ∀ (i : Nat) (q : Str × Tok), l[i]? = some q → (l.map (·.1)).getD i (Str.ofString "") = q.1 := fun i q h => by rw [List.getD_eq_getElem?_getD, List.getElem?_map, h]; rfl
  refine LCt.CompSrcT.ledger hh F N hm (by rw [List.size_toArray, strValues_len, sizeLine_eq]; omega) fun g => ?_
  refine rest_filter (fun i => f ((l.map (·.1)).getD i (Str.ofString ""))) (fun _ y => ∃ a t, y = Value.str a t) (.inr ⟨_, hm, rfl, _, rfl⟩) ?_ ?_ ?_
  · intro i v I oI C oC D m₂ ys h tk E' hi hv hC hx F' N' off ne
    obtain ⟨q, hq, rfl⟩ := pick i v hv
    dsimp only
    rw [at_is i q hq]
    exact test q.1 q.2 I oI C oC D m₂ ys h tk E' (List.mem_of_getElem? hq) hC hx F' N' off ne
  · intro i v I oI C oC D m₂ ys h tk E' hi _ hv hC hx F' N' off ne
    obtain ⟨q, hq, rfl⟩ := pick i v hv
    exact turn q.1 q.2 I oI C oC D m₂ ys h tk E' (List.mem_of_getElem? hq) hC hx F' N' off ne
  · intro ys ks hks hl hR
    obtain ⟨l2, rfl⟩ := strs_back ys fun j y hy => by
      have hj : j < ks.length := by rw [← hl]; exact (List.getElem?_eq_some_iff.mp hy).1
      exact hR j ks[j] y (by simp [hj]) hy
    rw [strValues_len] at hl
    refine fin g l2 ?_ ?_
    · rw [hl, hks]
      refine Nat.le_trans (List.length_filter_le _ _) ?_
      simp [strValues]
    · have e : l2 ≠ [] ↔ ks ≠ [] := by
        constructor
        · intro h h2; rw [h2] at hl; exact h (List.eq_nil_of_length_eq_zero hl)
        · intro h h2; rw [h2] at hl; exact h (List.eq_nil_of_length_eq_zero hl.symm)
      rw [e, hks, List.any_eq_true]
      constructor
      · intro h
        obtain ⟨i, hi⟩ := List.exists_mem_of_ne_nil _ h
        obtain ⟨h1, h2⟩ := List.mem_filter.mp hi
        have hlt : i < l.length := by simpa [strValues] using h1
        refine ⟨(l.map (·.1)).getD i (Str.ofString ""), ?_, h2⟩
        rw [List.getD_eq_getElem?_getD, List.getElem?_map]
        simp [hlt]
        exact ⟨_, List.getElem_mem hlt⟩
      · rintro ⟨z, hz, hf⟩ h
        obtain ⟨q, hq, rfl⟩ := List.mem_map.mp hz
        obtain ⟨i, hi, rfl⟩ := List.mem_iff_getElem.mp hq
        have : i ∈ (List.range (strValues l).toArray.size).filter (fun i => f ((l.map (·.1)).getD i (Str.ofString ""))) :=
          List.mem_filter.mpr ⟨by simpa [strValues] using hi, by rw [at_is i l[i] (by simp [hi])]; exact hf⟩
        rw [h] at this
        cases this
end
end Mine
end PartBaseK

section PartN2a
open PySem PySem.W PyProof.Rows
set_option Elab.async false
set_option maxRecDepth 100000
set_option maxHeartbeats 4000000
set_option linter.unusedVariables false
namespace Mine
theorem freshN2a : True := by
  w_top off
  trivial

/-- a def's contract: called from a def's frame, upon any ledger -/
def Spec2 (bd : Nat) (f : Addr) (w : World) (vs : List Value) (news : List (Addr × Obj)) (Post : Value → List (Addr × Obj) → Prop) : Prop :=
  ∀ (mean : ExcName → Option Value) (mg mb : Str → Option Value) (dp un : Nat) (gd : Option (List Code)) (cn : Str) (cs : Scope) (a : Addr) (ccd : Value) (cl : List (Str × Addr)) (outer : List Env) (A₀ : Around) (base h₀ : Heap) (L : Addr) (m : Str → Option Value) (s : Shared) (Q E : Value → Shared → Prop)
    (B : Below A₀ base outer h₀) (F : Fr h₀ L s.heap m) (X : (hd.heap_39 w.params).In h₀) (N : News h₀ L s.heap news) (T : Top hd.view_39 (looseW hd.view_39 []) mean mg mb h₀) (hk : cs.kind = .function)
    (hd1 : dp + bd < recursionLimit) (hu1 : un + 8 * bd + 100 < cLine)
    (hret : ∀ v h' tk' news', Fr h₀ L h' m → News h₀ L h' news' → Post v news' → Q v { s with heap := h', toks := tk' }),
    wpAny (model PySem.Challenge.rw_nq0320_02.row.prog w) (ktrTop dp un gd cn cs L a ccd cl outer) (call (.ref f) vs) Q E s

def rootOf (p : Str) : Str :=
  if (Txt.slice p none (some 1) != Str.ofString "/") = true then Str.ofString ""
  else if (Txt.slice p (some 1) (some 2) != Str.ofString "/") = true then Str.ofString "/"
  else if (Txt.slice p (some 2) (some 3) == Str.ofString "/") = true then Str.ofString "/"
  else Txt.slice p none (some 2)
def tailOf (p : Str) : Str :=
  if (Txt.slice p none (some 1) != Str.ofString "/") = true then p
  else if (Txt.slice p (some 1) (some 2) != Str.ofString "/") = true then Txt.slice p (some 1) none
  else if (Txt.slice p (some 2) (some 3) == Str.ofString "/") = true then Txt.slice p (some 1) none
  else Txt.slice p (some 2) none

theorem root1 {p : Str} (h : (Txt.slice p none (some 1) != Str.ofString "/") = true) : rootOf p = Str.ofString "" ∧ tailOf p = p := by
  simp only [rootOf, tailOf, h, if_true, and_self]
theorem root2 {p : Str} (h : (Txt.slice p none (some 1) != Str.ofString "/") = false) (h2 : (Txt.slice p (some 1) (some 2) != Str.ofString "/") = true) : rootOf p = Str.ofString "/" ∧ tailOf p = Txt.slice p (some 1) none := by
  simp only [rootOf, tailOf, h, h2, Bool.false_eq_true, if_false, if_true, and_self]
theorem root3 {p : Str} (h : (Txt.slice p none (some 1) != Str.ofString "/") = false) (h2 : (Txt.slice p (some 1) (some 2) != Str.ofString "/") = false) (h3 : (Txt.slice p (some 2) (some 3) == Str.ofString "/") = true) : rootOf p = Str.ofString "/" ∧ tailOf p = Txt.slice p (some 1) none := by
  simp only [rootOf, tailOf, h, h2, h3, Bool.false_eq_true, if_false, if_true, and_self]
theorem root4 {p : Str} (h : (Txt.slice p none (some 1) != Str.ofString "/") = false) (h2 : (Txt.slice p (some 1) (some 2) != Str.ofString "/") = false) (h3 : (Txt.slice p (some 2) (some 3) == Str.ofString "/") = false) : rootOf p = Txt.slice p none (some 2) ∧ tailOf p = Txt.slice p (some 2) none := by
  simp only [rootOf, tailOf, h, h2, h3, Bool.false_eq_true, if_false, if_true, and_self]

theorem splitroot_spec : ∀ (w : World) (news : List (Addr × Obj)) (p : Str) (tp : Tok), p.length ≤ 1000 →
    Spec2 1 42 w [.str p tp] news (fun v news' => ∃ D t1 t2 t3, v = .ref D ∧ (∀ q ∈ news, q.1 < D) ∧ (rootOf p).length ≤ 1000 ∧ (tailOf p).length ≤ 1000 ∧
      news' = (D, { cls := .type "tuple", data := .seq #[.str (Str.ofString "") t1, .str (rootOf p) t2, .str (tailOf p) t3] }) :: news) := by
  unfold Spec2
  k_fill
  intro w news p tp hp mean mg mb dp un gd cn cs a ccd cl outer A₀ base h₀ L m s Q E B F X N T hk hd1 hu1 hret
  refine wpAny_call ?_
  k_dflt cell_enter
  k_steps
  all_goals refine hret _ _ _ _ (by assumption) (by assumption) ?_
  · have r := root1 (p := p) (by assumption)
    exact ⟨_, _, _, _, rfl, by assumption, by rw [r.1]; decide, by rw [r.2]; assumption, by rw [r.1, r.2]⟩
  · have r := root2 (p := p) (by assumption) (by assumption)
    exact ⟨_, _, _, _, rfl, by assumption, by rw [r.1]; decide, by rw [r.2]; omega, by rw [r.1, r.2]⟩
  · have r := root3 (p := p) (by assumption) (by assumption) (by assumption)
    exact ⟨_, _, _, _, rfl, by assumption, by rw [r.1]; decide, by rw [r.2]; omega, by rw [r.1, r.2]⟩
  · have r := root4 (p := p) (by assumption) (by assumption) (by assumption)
    exact ⟨_, _, _, _, rfl, by assumption, by rw [r.1]; omega, by rw [r.2]; omega, by rw [r.1, r.2]⟩
end Mine
end PartN2a

section PartN2b
open PySem PySem.W PyProof.Rows
set_option Elab.async false
set_option maxRecDepth 100000
set_option maxHeartbeats 4000000
set_option linter.unusedVariables false
namespace Mine
theorem freshN2b : True := by
  w_top off
  trivial

theorem Spec2.use {bd : Nat} {f : Addr} {w : World} {vs : List Value} {news : List (Addr × Obj)} {Post : Value → List (Addr × Obj) → Prop} (h : Spec2 bd f w vs news Post)
    {mean : ExcName → Option Value} {mg mb : Str → Option Value} {dp un : Nat} {gd : Option (List Code)} {cn : Str} {cs : Scope} {a : Addr} {ccd : Value} {cl : List (Str × Addr)} {outer : List Env} {A₀ : Around} {base h₀ : Heap} {L : Addr} {m : Str → Option Value} {s : Shared} {Q E : Value → Shared → Prop}
    (B : Below A₀ base outer h₀) (F : Fr h₀ L s.heap m) (X : (hd.heap_39 w.params).In h₀) (N : News h₀ L s.heap news) (T : Top hd.view_39 (looseW hd.view_39 []) mean mg mb h₀) (hk : cs.kind = .function)
    (hd1 : dp + bd < recursionLimit) (hu1 : un + 8 * bd + 100 < cLine)
    (hret : ∀ v h' tk' news', Fr h₀ L h' m → News h₀ L h' news' → Post v news' → Q v { s with heap := h', toks := tk' }) :
    wpAny (model PySem.Challenge.rw_nq0320_02.row.prog w) (ktrTop dp un gd cn cs L a ccd cl outer) (call (.ref f) vs) Q E s :=
  h mean mg mb dp un gd cn cs a ccd cl outer A₀ base h₀ L m s Q E B F X N T hk hd1 hu1 hret

/-- one turn of the loop of _normpath -/
def stepN (ini : Str) (acc : List Str) (c : Str) : List Str :=
  if c.length = 0 ∨ c = Str.ofString "." then acc
  else if c ≠ Str.ofString ".." ∨ (ini.length = 0 ∧ acc = []) ∨ (acc.getLast? = some (Str.ofString "..")) then acc ++ [c]
  else acc.dropLast

def normOf (x : Str) : Str :=
  if x.length = 0 then Str.ofString "."
  else
    let p := rootOf x ++ Txt.join (Str.ofString "/") ((Txt.split (tailOf x) (Str.ofString "/")).foldl (stepN (rootOf x)) [])
    if p.length = 0 then Str.ofString "." else p

local macro_rules | `(tactic| walk_at "call ref") => `(tactic| (k_here; (with_reducible show wpAny _ _ (call (Value.ref 42) [Value.str _ _]) _ _ _); k_dflt (refine' Spec2.use (splitroot_spec _ _ _ _ ?hp) ?B ?F ?X ?N ?T ?hk ?d ?u ?_; (case B => k_asm); (case F => k_asm); (case X => k_asm); (case N => k_asm); (case T => k_asm); (case hk => first | exact rfl | assumption); (case d => ktr_room); (case u => ktr_units); (case hp => assumption); k_whole; intro v9 h' tk' news9 F' N9 ⟨D', t1, t2, t3, e9, l1, z1, z2, e8⟩; subst e9; subst e8; (try dsimp only); (try k_fold))))


section
variable {ini c : Str} {acc : List (Str × Tok)} {tc : Tok}
theorem bne_dd {c d : Str} (h : (c != d) = false) : c = d := by simpa using h
theorem bne_dt {c d : Str} (h : (c != d) = true) : c ≠ d := by simpa using h
theorem beq_t {c d : Str} (h : (c == d) = true) : c = d := by simpa using h
theorem beq_f {c d : Str} (h : (c == d) = false) : c ≠ d := by simpa using h
theorem step_skip1 (h : (c.length : Int) = 0) : acc.map (·.1) = stepN ini (acc.map (·.1)) c := by
  unfold stepN; rw [if_pos (.inl (by omega))]
theorem step_skip2 (h : (c == Str.ofString ".") = true) : acc.map (·.1) = stepN ini (acc.map (·.1)) c := by
  unfold stepN; rw [if_pos (.inr (beq_t h))]
theorem step_push1 (h1 : (c.length : Int) ≠ 0) (h2 : (c == Str.ofString ".") = false) (h3 : (c != Str.ofString "..") = true) : (acc ++ [(c, tc)]).map (·.1) = stepN ini (acc.map (·.1)) c := by
  unfold stepN; rw [if_neg (by rintro (h | h); omega; exact beq_f h2 h), if_pos (.inl (bne_dt h3))]; simp
theorem getLast_map (h : acc ≠ []) : ∃ a t, acc.getLast? = some (a, t) ∧ (acc.map (·.1)).getLast? = some a := by
  obtain ⟨init, ⟨a, t⟩, rfl⟩ : ∃ init x, acc = init ++ [x] := ⟨acc.dropLast, acc.getLast h, (List.dropLast_concat_getLast h).symm⟩
  exact ⟨a, t, by simp, by simp⟩
theorem step_push2 {a : Str} {t : Tok} (h1 : (c.length : Int) ≠ 0) (h2 : (c == Str.ofString ".") = false) (h4 : acc ≠ []) (h5 : acc.getLast? = some (a, t)) (h6 : (a == Str.ofString "..") = true) : (acc ++ [(c, tc)]).map (·.1) = stepN ini (acc.map (·.1)) c := by
  obtain ⟨a', t', e1, e2⟩ := getLast_map h4
  rw [h5] at e1
  cases e1
  unfold stepN; rw [if_neg (by rintro (h | h); omega; exact beq_f h2 h), if_pos (.inr (.inr (by rw [e2, beq_t h6])))]; simp
theorem step_push3 (h1 : (c.length : Int) ≠ 0) (h2 : (c == Str.ofString ".") = false) (h3 : (ini.length : Int) = 0) (h4 : ¬ acc ≠ []) : (acc ++ [(c, tc)]).map (·.1) = stepN ini (acc.map (·.1)) c := by
  have h4 : acc = [] := Decidable.not_not.mp h4
  subst h4
  unfold stepN; rw [if_neg (by rintro (h | h); omega; exact beq_f h2 h), if_pos (.inr (.inl ⟨by omega, rfl⟩))]; simp
theorem step_pop {a : Str} {t : Tok} (h1 : (c.length : Int) ≠ 0) (h2 : (c == Str.ofString ".") = false) (h3 : (c != Str.ofString "..") = false) (h4 : acc ≠ []) (h5 : acc.getLast? = some (a, t)) (h6 : (a == Str.ofString "..") = false) : acc.dropLast.map (·.1) = stepN ini (acc.map (·.1)) c := by
  obtain ⟨a', t', e1, e2⟩ := getLast_map h4
  rw [h5] at e1
  cases e1
  unfold stepN; rw [if_neg (by rintro (h | h); omega; exact beq_f h2 h), if_neg (by
    rintro (h | ⟨_, h⟩ | h)
    · exact h (bne_dd h3)
    · exact h4 (List.map_eq_nil_iff.mp h)
    · rw [e2] at h; exact beq_f h6 (Option.some.inj h))]
  rw [List.map_dropLast]
theorem step_none (h1 : (c.length : Int) ≠ 0) (h2 : (c == Str.ofString ".") = false) (h3 : (c != Str.ofString "..") = false) (h0 : (ini.length : Int) ≠ 0) (h4 : ¬ acc ≠ []) : acc.map (·.1) = stepN ini (acc.map (·.1)) c := by
  have h4 : acc = [] := Decidable.not_not.mp h4
  subst h4
  unfold stepN; rw [if_neg (by rintro (h | h); omega; exact beq_f h2 h), if_neg (by
    rintro (h | ⟨h, _⟩ | h)
    · exact h (bne_dd h3)
    · exact h0 (by omega)
    · cases h)]
  rfl
end
theorem stepN_weight (ini c : Str) (acc : List Str) : ((stepN ini acc c).map (·.length)).sum + (stepN ini acc c).length ≤ (acc.map (·.length)).sum + acc.length + (c.length + 1) := by
  unfold stepN
  split
  · omega
  · split
    · simp only [List.map_append, List.map_cons, List.map_nil, List.sum_append, List.sum_cons, List.sum_nil, List.length_append, List.length_cons, List.length_nil]; omega
    · rcases List.eq_nil_or_concat acc with rfl | ⟨i, x, rfl⟩
      · simp
      · simp only [List.concat_eq_append, List.dropLast_concat, List.map_append, List.map_cons, List.map_nil, List.sum_append, List.sum_cons, List.sum_nil, List.length_append, List.length_cons, List.length_nil]; omega
theorem fold_weight (ini : Str) : ∀ (cs acc : List Str), ((cs.foldl (stepN ini) acc).map (·.length)).sum + (cs.foldl (stepN ini) acc).length ≤ (acc.map (·.length)).sum + acc.length + ((cs.map (·.length)).sum + cs.length)
  | [], acc => by simp
  | c :: cs, acc => by
    have h1 := fold_weight ini cs (stepN ini acc c)
    have h2 := stepN_weight ini c acc
    simp only [List.foldl_cons, List.map_cons, List.sum_cons, List.length_cons]
    omega
theorem fold_weighs {ini x : Str} : Weighs ((Txt.split x (Str.ofString "/")).foldl (stepN ini) []) x.length := by
  have h1 := fold_weight ini (Txt.split x (Str.ofString "/")) []
  have h2 := split_weight x (Str.ofString "/") (by decide)
  show _ ≤ _
  simp only [List.map_nil, List.sum_nil, List.length_nil] at h1
  omega

theorem norm0 {x : Str} (h : (x.length : Int) = 0) : normOf x = Str.ofString "." := by
  unfold normOf; rw [if_pos (by omega)]
theorem norm1 {x : Str} {fin : List Str} (h : (x.length : Int) ≠ 0) (hf : (Txt.split (tailOf x) (Str.ofString "/")).foldl (stepN (rootOf x)) [] = fin) (h2 : ((rootOf x ++ Txt.join (Str.ofString "/") fin).length : Int) ≠ 0) : normOf x = rootOf x ++ Txt.join (Str.ofString "/") fin := by
  unfold normOf; rw [if_neg (by omega)]; dsimp only; rw [hf, if_neg (by omega)]
theorem norm2 {x : Str} {fin : List Str} (h : (x.length : Int) ≠ 0) (hf : (Txt.split (tailOf x) (Str.ofString "/")).foldl (stepN (rootOf x)) [] = fin) (h2 : ((rootOf x ++ Txt.join (Str.ofString "/") fin).length : Int) = 0) : normOf x = Str.ofString "." := by
  unfold normOf; rw [if_neg (by omega)]; dsimp only; rw [hf, if_pos (by omega)]

local macro_rules | `(tactic| walk_at "truthy ref") => `(tactic| (k_here; (with_reducible show wpAny _ _ (truthy (Value.ref _)) _ _ _); k_dflt (refine' strs_truthy ?N ?m ?z ?_; (case N => k_asm); (case m => k_mem); (case z => omega); k_whole; intro tk9)))
local macro_rules | `(tactic| walk_at "call builtin:list.append") => `(tactic| (k_here; (with_reducible show wpAny _ _ (call (Value.builtin "list.append") [Value.ref _, Value.str _ _]) _ _ _); k_dflt (refine' strs_append ?F ?N (Upd.head ?ne) ?z ?_; (case F => k_asm); (case N => k_asm); (case ne => assumption); (case z => omega); k_whole; intro h' F' N')))
local macro_rules | `(tactic| walk_at "call builtin:list.pop") => `(tactic| (k_here; (with_reducible show wpAny _ _ (call (Value.builtin "list.pop") [Value.ref _]) _ _ _); k_dflt (refine' strs_pop ?F ?N (Upd.head ?ne) ?nz ?z ?_; (case F => k_asm); (case N => k_asm); (case ne => assumption); (case nz => first | assumption | exact of_decide_eq_true (by assumption)); (case z => omega); k_whole; intro h' c9 t9 F' N')))
local macro_rules | `(tactic| walk_at "subscriptTail Name UnaryOp ref int") => `(tactic| (k_here; (with_reducible show wpAny _ _ (subscriptTail _ _ (Value.ref _) (Value.int _ _)) _ _ _); k_dflt (refine' strs_last ?N ?m ?nz ?z ?_ ?hs; (case N => k_asm); (case m => k_mem); (case nz => first | assumption | exact of_decide_eq_true (by assumption)); (case z => omega); (case hs => with_unfolding_all rfl); k_whole; intro c9 t9 hlast9)))
local macro_rules | `(tactic| walk_at "call builtin:str.join") => `(tactic| (k_here; (with_reducible show wpAny _ _ (call (Value.builtin "str.join") [Value.str _ _, Value.ref _]) _ _ _); k_dflt (refine' SC.join (News.isList ?N ?m) ?ht ?ok ?_; (case N => k_asm); (case m => k_mem); (case ht => assumption); (case ok => assumption); k_whole; intro t9 k9)))
set_option maxHeartbeats 8000000 in
theorem normpath_spec : ∀ (w : World) (news : List (Addr × Obj)) (x : Str) (tx : Tok), x.length ≤ 1000 →
    Spec2 2 49 w [.str x tx] news (fun v news' => (∃ t, v = .str (normOf x) t) ∧ (normOf x).length ≤ 6000 ∧ news' = news) := by
  unfold Spec2
  k_fill
  intro w news x tx hx mean mg mb dp un gd cn cs a ccd cl outer A₀ base h₀ L m s Q E B F X N T hk hd1 hu1 hret
  refine wpAny_call ?_
  k_dflt cell_enter
  k_steps
  · refine wpAny_For ?_ (by intro _; rfl)
    k_steps
    (rename Fr _ _ _ _ => kF)
    (rename News _ _ _ _ => kN)
    (rename List.map _ _ = Txt.split _ _ => hsp)
    (rename ∀ (a : Str), a ∈ _ → a.length ≤ _ => hall)
    (rename (tailOf x).length ≤ _ => htl)
    have hlenL := (congrArg List.length hsp)
    have hsw := split_weight (tailOf x) (Str.ofString "/") (by decide)
    refine for_strs (stepN (rootOf x)) rfl (.head _) rfl kF kN ?ne ?hE ?turn ?done
    case ne =>
      (rename _ ∧ _ ∧ AllLt _ _ => hlt9)
      exact ne_cons hlt9.1 (ne_cons hlt9.2.1 (ne_all hlt9.2.2))
    case hE => first | passes_own | with_unfolding_all passes_own
    case turn =>
      intro i c tc acc n u h tk I io hi hlen hacc hI hlt F' N'
      have hc : c.length ≤ 1000 := Nat.le_trans (hall c (List.mem_map.mpr ⟨_, List.mem_of_getElem? hi, rfl⟩)) htl
      have hal : acc.length ≤ 2000 := by
        rw [List.length_map] at hlenL
        omega
      clear hsp hall hsw hlenL
      k_steps
      all_goals refine StrsPost.of (by first | exact .inl rfl | exact .inr rfl) (by assumption) (by assumption) (fun y hy => by simp only [if_neg hy]) ?_ ?_
      all_goals first
        | ((try simp only [List.length_append, List.length_cons, List.length_nil, List.length_dropLast]); omega)
        | exact step_skip1 (by assumption)
        | exact step_skip2 (by assumption)
        | exact step_push1 (by assumption) (by assumption) (by assumption)
        | exact step_push2 (by assumption) (by assumption) (by assumption) (by assumption) (by assumption)
        | exact step_push3 (by assumption) (by assumption) (by assumption) (by assumption)
        | exact step_pop (by assumption) (by assumption) (by assumption) (by assumption) (by assumption) (by assumption)
        | exact step_none (by assumption) (by assumption) (by assumption) (by assumption) (by assumption)
    case done =>
      intro acc n u h tk hlen hacc F' N'
      rw [hsp] at hacc
      have hW : Weighs ((Txt.split (tailOf x) (Str.ofString "/")).foldl (stepN (rootOf x)) []) (tailOf x).length := fold_weighs
      have hjl := len_join_le (sep := Str.ofString "/") hW (by decide)
      have hok : JoinOk (Str.ofString "/") ((Txt.split (tailOf x) (Str.ofString "/")).foldl (stepN (rootOf x)) []) = true := joinOk_of_weight (Nat.le_trans hW (by omega)) (by decide)
      clear hsp hall hsw hlenL hW
      generalize hgen : (Txt.split (tailOf x) (Str.ofString "/")).foldl (stepN (rootOf x)) [] = fin at *
      k_steps
      · have e := norm1 (x := x) (fin := fin) (by assumption) hgen (by assumption)
        refine hret _ _ _ _ (by assumption) (cb_drop (by assumption) (fun p hp => .tail _ (.tail _ (.tail _ hp)))) ⟨⟨_, by rw [e]⟩, ?_, rfl⟩
        rw [e, Str.length_append]; omega
      · have e := norm2 (x := x) (fin := fin) (by assumption) hgen (by assumption)
        refine hret _ _ _ _ (by assumption) (cb_drop (by assumption) (fun p hp => .tail _ (.tail _ (.tail _ hp)))) ⟨⟨_, by rw [e]⟩, ?_, rfl⟩
        rw [e]; decide
  · have e := norm0 (x := x) (by assumption)
    refine hret _ _ _ _ (by assumption) (by assumption) ⟨⟨_, by rw [e]⟩, ?_, rfl⟩
    rw [e]; decide
end Mine
end PartN2b

section PartN2c
open PySem PySem.W PyProof.Rows
set_option Elab.async false
set_option maxRecDepth 100000
set_option maxHeartbeats 4000000
set_option linter.unusedVariables false
namespace Mine
theorem freshN2c : True := by
  w_top off
  trivial
local macro_rules | `(tactic| k_room) => `(tactic| ktr_room)
local macro_rules | `(tactic| walk_at "call ref") => `(tactic| (k_here; (with_reducible show wpAny _ _ (call (Value.ref 49) [Value.str _ _]) _ _ _); k_dflt (refine' Spec2.use (normpath_spec _ _ _ _ ?hp) ?B ?F ?X ?N ?T ?hk ?d ?u ?_; (case B => k_asm); (case F => k_asm); (case X => k_asm); (case N => k_asm); (case T => k_asm); (case hk => first | exact rfl | assumption); (case d => ktr_room); (case u => ktr_units); (case hp => assumption); k_whole; intro v9 h' tk' news9 F' N9 ⟨⟨t1, e9⟩, z1, e8⟩; subst e9; subst e8; (try dsimp only); (try k_fold))))
theorem osnorm_spec : ∀ (w : World) (news : List (Addr × Obj)) (x : Str) (tx : Tok), x.length ≤ 1000 →
    Spec2 4 56 w [.str x tx] news (fun v news' => (∃ t, v = .str (normOf x) t) ∧ (normOf x).length ≤ 6000 ∧ news' = news) := by
  unfold Spec2
  k_fill
  intro w news x tx hx mean mg mb dp un gd cn cs a ccd cl outer A₀ base h₀ L m s Q E B F X N T hk hd1 hu1 hret
  refine wpAny_call ?_
  k_dflt (refine' kp_both ?k1 ?k2 ?k3 ?k4 ?k5 ?kA ?kF ?kK ?k6 ?k7 ?k8 ?kV ?kX ?kQ ?kM ?kN ?kD ?kR ?kP ?kS ?kT ?kB ?_ ?c2 ?c3 ?c4 ?c5; (case kA => exact rfl); (case kF => exact rfl); (case kK => assumption); (case k1 => k_asm); (case k2 => k_asm); (case k3 => k_asm); (case k4 => k_asm); (case k5 => k_asm); (case k6 => k_is); (case k7 => k_is); (case k8 => k_room); (case kV => kp_lit); (case kX => kp_lit); (case kQ => exact rfl); (case kM => exact rfl); (case kN => exact rfl); (case kD => kp_flats); (case kR => exact rfl); (case kP => exact rfl); (case kS => exact fun _ => rfl); (case kT => exact fun _ _ => rfl); (case kB => exact fun _ _ => locs rfl); (case c5 => decide); (case c2 => exact rfl); (case c3 => exact rfl); (case c4 => exact rfl); k_whole; intro C' D' o' g' L' h' tk' l1 l2 lo' hs' fs' FG' F' N' B' X' T'; (try k_lt l1); (try k_lt2 l2); (try dsimp only); (try k_lift B'); (try k_fold))
  k_steps
  all_goals refine hret _ _ _ _ (by assumption) (cb_drop (by assumption) (fun p hp => .tail _ (.tail _ hp))) ⟨⟨_, rfl⟩, by assumption, rfl⟩
end Mine
end PartN2c

section PartN2d
open PySem PySem.W PyProof.Rows
set_option Elab.async false
set_option maxRecDepth 100000
set_option maxHeartbeats 1500000
set_option linter.unusedVariables false
namespace Mine
theorem freshN2d : True := by
  w_top off
  trivial
def stepP (st : List Str × Int) (c : Str) : List Str × Int :=
  if c = Str.ofString ".." then (st.1, st.2 + 1)
  else if c = Str.ofString "" ∨ c = Str.ofString "." then st
  else if 0 < st.2 then (st.1, st.2 - 1)
  else (st.1 ++ [c], st.2)
structure PlainSt where
  acc : List (Str × Tok)
  n : Nat
  k : Int
  t : Tok
theorem short_rev {acc : List (Str × Tok)} (h : ∀ p ∈ acc, p.1.length ≤ 1000) : ∀ p ∈ acc.reverse, p.1.length ≤ 1000 := fun p hp => h p (List.mem_reverse.mp hp)
theorem short_app {l9 acc : List (Str × Tok)} {n : Nat} (h9 : l9.map (·.1) = (List.range n).map (fun _ => Str.ofString "..")) (h : ∀ p ∈ acc, p.1.length ≤ 1000) : ∀ p ∈ l9 ++ acc.reverse, p.1.length ≤ 1000 := by
  intro p hp
  rcases List.mem_append.mp hp with hp | hp
  · have h1 : p.1 ∈ l9.map (·.1) := List.mem_map.mpr ⟨p, hp, rfl⟩
    rw [h9] at h1
    obtain ⟨_, _, e⟩ := List.mem_map.mp h1
    rw [← e]
    exact Nat.le_of_ble_eq_true rfl
  · exact short_rev h p hp
theorem foldP_step {l : List (Str × Tok)} {a : List Str} {k : Int} {i : Nat} {c : Str} {tc : Tok} (hst : (a, k) = ((l.take i).map (·.1)).foldl stepP ([], 0)) (hc : l[i]? = some (c, tc)) :
    ((l.take (i + 1)).map (·.1)).foldl stepP ([], 0) = stepP (a, k) c := by
  rw [List.take_add_one, hc, hst]
  simp only [Option.toList_some, List.map_append, List.map_cons, List.map_nil, List.foldl_append, List.foldl_cons, List.foldl_nil]
theorem stepP1 {a : List Str} {k : Int} {c : Str} (h : (c == Str.ofString "..") = true) : stepP (a, k) c = (a, k + 1) := by
  unfold stepP; rw [if_pos (beq_t h)]
theorem anyT {c : Str} (h : ([Str.ofString "", Str.ofString "."].any fun x => x == c) = true) : c = Str.ofString "" ∨ c = Str.ofString "." := by
  simp only [List.any_cons, List.any_nil, Bool.or_false, Bool.or_eq_true] at h
  exact h.imp (fun h => (beq_t h).symm) (fun h => (beq_t h).symm)
theorem anyF {c : Str} (h : ([Str.ofString "", Str.ofString "."].any fun x => x == c) = false) : ¬ (c = Str.ofString "" ∨ c = Str.ofString ".") := by
  simp only [List.any_cons, List.any_nil, Bool.or_false, Bool.or_eq_false_iff] at h
  rintro (e | e)
  · exact beq_f h.1 e.symm
  · exact beq_f h.2 e.symm
theorem stepP2 {a : List Str} {k : Int} {c : Str} (h : (c == Str.ofString "..") = false) (h2 : ([Str.ofString "", Str.ofString "."].any fun x => x == c) = true) : stepP (a, k) c = (a, k) := by
  unfold stepP; rw [if_neg (beq_f h), if_pos (anyT h2)]
theorem stepP3 {a : List Str} {k : Int} {c : Str} (h : (c == Str.ofString "..") = false) (h2 : ([Str.ofString "", Str.ofString "."].any fun x => x == c) = false) (h3 : 0 < k) : stepP (a, k) c = (a, k - 1) := by
  unfold stepP; rw [if_neg (beq_f h), if_neg (anyF h2), if_pos h3]
theorem stepP4 {a : List Str} {k : Int} {c : Str} (h : (c == Str.ofString "..") = false) (h2 : ([Str.ofString "", Str.ofString "."].any fun x => x == c) = false) (h3 : ¬ 0 < k) : stepP (a, k) c = (a ++ [c], k) := by
  unfold stepP; rw [if_neg (beq_f h), if_neg (anyF h2), if_neg h3]
def foldP (x : Str) : List Str × Int := ((Txt.split x (Str.ofString "/")).reverse).foldl stepP ([], 0)
def slashesOf (x : Str) : Int := (x.length : Int) - ((Txt.lstripChars x (Str.ofString "/")).length : Int)
def plainOf (x : Str) : Str :=
  if slashesOf x = 0 then
    if List.replicate (foldP x).2.toNat (Str.ofString "..") ++ (foldP x).1.reverse ≠ [] then Txt.join (Str.ofString "/") (List.replicate (foldP x).2.toNat (Str.ofString "..") ++ (foldP x).1.reverse) else Str.ofString "."
  else (if slashesOf x = 2 then Str.ofString "//" else Str.ofString "/") ++ Txt.join (Str.ofString "/") (foldP x).1.reverse
section
variable {x : Str} {l l9 acc : List (Str × Tok)} {k : Int} {n : Nat}
theorem foldP_is (hsp : l.map (·.1) = Txt.split x (Str.ofString "/")) (hst : (acc.map (·.1), k) = ((l.reverse.take (strValues l.reverse).length).map (·.1)).foldl stepP ([], 0)) : foldP x = (acc.map (·.1), k) := by
  rw [hst, strValues_len, List.take_length, List.map_reverse, hsp]; rfl
theorem l9_rep (h9 : l9.map (·.1) = (List.range (k - 0).toNat).map (fun _ => Str.ofString "..")) : l9.map (·.1) = List.replicate k.toNat (Str.ofString "..") := by
  rw [h9, Int.sub_zero, List.map_const']
  simp
theorem plain1 (hf : foldP x = (acc.map (·.1), k)) (h0 : (x.length : Int) - ((Txt.lstripChars x (Str.ofString "/")).length : Int) = 0) (h9 : l9.map (·.1) = (List.range (k - 0).toNat).map (fun _ => Str.ofString "..")) (hne : l9 ++ acc.reverse ≠ []) :
    plainOf x = Txt.join (Str.ofString "/") ((l9 ++ acc.reverse).map (·.1)) := by
  unfold plainOf slashesOf
  have e : List.replicate k.toNat (Str.ofString "..") ++ (acc.map (·.1)).reverse = (l9 ++ acc.reverse).map (·.1) := by rw [List.map_append, l9_rep h9, List.map_reverse]
  rw [if_pos h0, hf]
  dsimp only
  rw [e, if_pos (fun h => hne (List.map_eq_nil_iff.mp h))]
theorem plain2 (hf : foldP x = (acc.map (·.1), k)) (h0 : (x.length : Int) - ((Txt.lstripChars x (Str.ofString "/")).length : Int) = 0) (h9 : l9.map (·.1) = (List.range (k - 0).toNat).map (fun _ => Str.ofString "..")) (hne : ¬ l9 ++ acc.reverse ≠ []) :
    plainOf x = Str.ofString "." := by
  unfold plainOf slashesOf
  have e : List.replicate k.toNat (Str.ofString "..") ++ (acc.map (·.1)).reverse = (l9 ++ acc.reverse).map (·.1) := by rw [List.map_append, l9_rep h9, List.map_reverse]
  rw [if_pos h0, hf]
  dsimp only
  rw [e, if_neg (fun h => h (by rw [Decidable.not_not.mp hne]; rfl))]
theorem plain3 (hf : foldP x = (acc.map (·.1), k)) (h0 : (x.length : Int) - ((Txt.lstripChars x (Str.ofString "/")).length : Int) ≠ 0) (h2 : (x.length : Int) - ((Txt.lstripChars x (Str.ofString "/")).length : Int) = 2) :
    plainOf x = Str.ofString "//" ++ Txt.join (Str.ofString "/") (acc.reverse.map (·.1)) := by
  unfold plainOf slashesOf
  rw [if_neg h0, hf, if_pos h2, List.map_reverse]
theorem plain4 (hf : foldP x = (acc.map (·.1), k)) (h0 : (x.length : Int) - ((Txt.lstripChars x (Str.ofString "/")).length : Int) ≠ 0) (h2 : (x.length : Int) - ((Txt.lstripChars x (Str.ofString "/")).length : Int) ≠ 2) :
    plainOf x = Str.ofString "/" ++ Txt.join (Str.ofString "/") (acc.reverse.map (·.1)) := by
  unfold plainOf slashesOf
  rw [if_neg h0, hf, if_neg h2, List.map_reverse]
end
local macro_rules | `(tactic| k_all) => `(tactic| assumption)
local macro_rules | `(tactic| walk_at "call builtin:list.append") => `(tactic| (k_here; (with_reducible show wpAny _ _ (call (Value.builtin "list.append") [Value.ref _, Value.str _ _]) _ _ _); k_dflt (refine' strs_append ?F ?N ?U ?z ?_; (case F => k_asm); (case N => k_asm); (case U => k_upd); (case z => omega); k_whole; intro h' F' N')))
local macro_rules | `(tactic| walk_at "subscriptTail Name Slice ref ref") => `(tactic| (k_here; (with_reducible show wpAny _ _ (subscriptTail _ (PySem.Expr.Slice none none (some _) _) (Value.ref _) (Value.ref _)) _ _ _); k_dflt (refine' krv_strs ?F ?N ?m ?k ?z ?_ ?s ?t; (case F => k_asm); (case N => k_asm); (case m => k_mem); (case k => exact IsPart.int _ _); (case z => omega); (case s => with_unfolding_all rfl); (case t => kmk_pure); k_whole; intro D' h' F' N' l1; (try k_lt l1))))
local macro_rules | `(tactic| walk_at "exec For Name Subscript cons nil") => `(tactic| (refine wpAny_For ?_ (by intro _; rfl)))
local macro_rules | `(tactic| walk_at "binaryOp Add ref ref") => `(tactic| (k_here; (with_reducible show wpAny _ _ (binaryOp Operator.Add (Value.ref _) (Value.ref _)) _ _ _); k_dflt (refine' strs_add ?F ?N ?a ?b ?z ?_; (case F => k_asm); (case N => k_asm); (case a => k_mem); (case b => k_mem); (case z => (constructor <;> (try simp only [List.length_reverse]) <;> omega)); k_whole; intro D' h' F' N' l1; (try k_lt l1))))
local macro_rules | `(tactic| walk_at "compareOp NotEq ref ref") => `(tactic| (k_here; (with_reducible show wpAny _ _ (compareOp CmpOp.NotEq (Value.ref _) (Value.ref _)) _ _ _); k_dflt (refine' strs_ne_nil ?N ?a ?b ?i ?u ?_; (case N => k_asm); (case a => k_mem); (case b => k_mem); (case i => exact rfl); (case u => ktr_units); k_whole)))
local macro_rules | `(tactic| walk_at "CompSrc") => `(tactic| (k_here; k_dflt (refine' LCg.CompSrc.range ?hh ?F ?N ?r ?sm ?n ?z ?_; (case hh => exact rfl); (case F => k_asm); (case N => k_asm); (case r => assumption); (case sm => exact small_one (by l_bnd) (by l_bnd) (by l_bnd) (by l_bnd)); (case n => exact rangeSize_nat _ _); (case z => (rw [PySem.sizeLine_eq]; omega)); intro g9; (refine' rest_strs (fun _ => Str.ofString "..") True.intro ?turn9 ?fin9; (case' turn9 => (intro i9 v9 I9 oI9 C9 oC9 D9 m9 ys9 h9 tk9 E9 hi9 hv9 hC9 hx9 F9 N9 off9 ne9)); (case' fin9 => (intro l9 hl9 hn9 D9 h9 tk9 F9 N9 o9))))))
local macro_rules | `(tactic| walk_at "call builtin:str.join") => `(tactic| (k_here; (with_reducible show wpAny _ _ (call (Value.builtin "str.join") [Value.str _ _, Value.ref _]) _ _ _); k_dflt (refine' strs_join ?N ?a ?n ?l ?s ?_; (case N => k_asm); (case a => k_mem); (case n => ((try simp only [List.length_append, List.length_reverse]); omega)); (case l => first | exact short_rev (by assumption) | exact short_app (by assumption) (by assumption)); (case s => decide); k_whole; intro t9 k9 hj9)))
theorem lawplain_spec : ∀ (w : World) (news : List (Addr × Obj)) (x : Str) (tx : Tok), x.length ≤ 1000 →
    Spec2 2 93 w [.str x tx] news (fun v news' => (∃ t, v = .str (plainOf x) t) ∧ news' = news) := by
  unfold Spec2
  k_fill
  intro w news x tx hx mean mg mb dp un gd cn cs a ccd cl outer A₀ base h₀ L m s Q E B F X N T hk hd1 hu1 hret
  refine wpAny_call ?_
  k_dflt cell_enter
  k_steps
  (rename Fr _ _ _ _ => kF)
  (rename News _ _ _ _ => kN)
  (rename List.map _ _ = Txt.split _ _ => hsp)
  (rename ∀ (a : Str), a ∈ _ → a.length ≤ _ => hall)
  (rename ∀ (p : Addr × Obj), p ∈ news → p.fst < _ => hlt9)
  rename_i l _ _ _ _ _ _ _
  dsimp only at kN kF ⊢
  rw [slicePick_strs] at kN
  (rename News _ _ _ (_ :: (_, W.listOf #[] 0) :: news) => kN1)
  obtain ⟨l', hl'⟩ := third_of kN
  subst hl'
  obtain ⟨lr, hlr⟩ := first_of kN
  rw [hlr] at kN ⊢
  have hl1 : l' < _ := Heap.lt_size (kN1 _ (.tail _ (.head _))).1
  have hl2 : l' < lr := hlr ▸ Nat.lt_succ_of_lt hl1
  have hll : l.length ≤ 1001 := by
    have h1 := congrArg List.length hsp
    have h2 := split_weight x (Str.ofString "/") (by decide)
    rw [List.length_map] at h1
    omega
  refine for_items (σ := PlainSt) (fun c => (l', listOf (strValues c.acc).toArray c.n) :: (lr, { cls := Value.type "list", data := Data.seq (strValues l.reverse).toArray }) :: news) (fun c => [(Str.ofString "ups", .int c.k c.t)])
    (fun i c => (c.acc.map (·.1), c.k) = ((l.reverse.take i).map (·.1)).foldl stepP ([], 0) ∧ c.acc.length ≤ i ∧ 0 ≤ c.k ∧ c.k ≤ i ∧ ∀ p ∈ c.acc, p.1.length ≤ 1000) ⟨[], 0, 0, ?t0⟩ rfl (fun c => .tail _ (.head _)) (fun c c' => rfl) kF kN ?sub ?nm ⟨rfl, Nat.le_refl _, Int.le_refl _, Int.le_refl _, fun _ hp => nomatch hp⟩ ?hE ?turn ?done
  case nm =>
    intro p hp
    rcases List.mem_singleton.mp hp with rfl
    rfl
  case sub =>
    intro p hp
    rcases List.mem_cons.mp hp with rfl | hp
    · exact .tail _ (.tail _ (.head _))
    · rcases List.mem_cons.mp hp with rfl | hp
      · exact .head _
      · exact .tail _ (.tail _ (.tail _ hp))
  case hE => first | passes_own | with_unfolding_all passes_own
  case turn =>
    rintro i v ⟨acc, n, k, t⟩ u h tk I io hv ⟨hst, hlen, hk0, hk1, hsh⟩ hI hlt F' N'
    dsimp only at hst hlen hk0 hk1 hsh hI F' N'
    have hne1 := neN (Ne.symm (hI _ (.head _)))
    have hne : ∀ p ∈ (lr, ({ cls := Value.type "list", data := Data.seq (strValues l.reverse).toArray } : Obj)) :: news, p.1 ≠ l' := by
      intro p hp
      rcases List.mem_cons.mp hp with rfl | hp
      · exact Nat.ne_of_gt hl2
      · exact Nat.ne_of_lt (hlt9 p hp)
    obtain ⟨c, tc, hc, rfl⟩ : ∃ c tc, l.reverse[i]? = some (c, tc) ∧ v = .str c tc := by
      simp only [strValues, List.getElem?_map] at hv
      cases hq : l.reverse[i]? with
      | none => rw [hq] at hv; cases hv
      | some q => rw [hq] at hv; exact ⟨q.1, q.2, rfl, (Option.some.inj hv).symm⟩
    have hil : i < l.length := by rw [strValues_len, List.length_reverse] at hlt; exact hlt
    have hcl : c.length ≤ 1000 := Nat.le_trans (hall c (List.mem_map.mpr ⟨_, List.mem_reverse.mp (List.mem_of_getElem? hc), rfl⟩)) hx
    clear hsp hall kN kN1
    k_steps
    · refine ItemsPost.of ⟨acc, n, k + 1, ?t1⟩ (.inl rfl) (by assumption) (by assumption) (fun p hp => hp) ?nm1 ?m1 ⟨?_, ?_, ?_, ?_, ?_⟩
      case nm1 => intro p hp; rcases List.mem_singleton.mp hp with rfl; rfl
      case m1 => intro y hy hn; have hy2 := hn _ (.head _); simp only [if_neg hy, kstB]; simp only [if_neg hy2]
      · dsimp only; rw [foldP_step hst hc, stepP1 (by assumption)]
      · dsimp only; omega
      · dsimp only; omega
      · dsimp only; omega
      · exact hsh
    · refine ItemsPost.of ⟨acc, n, k, ?t2⟩ (.inl rfl) (by assumption) (by assumption) (fun p hp => .tail _ hp) ?nm2 ?m2 ⟨?_, ?_, ?_, ?_, ?_⟩
      case nm2 => intro p hp; rcases List.mem_singleton.mp hp with rfl; rfl
      case m2 => intro y hy hn; have hy2 := hn _ (.head _); simp only [if_neg hy, kstB]; simp only [if_neg hy2]
      · dsimp only; rw [foldP_step hst hc, stepP2 (by assumption) (by assumption)]
      · dsimp only; omega
      · dsimp only; omega
      · dsimp only; omega
      · exact hsh
    · refine ItemsPost.of ⟨acc, n, k - 1, ?t3⟩ (.inl rfl) (by assumption) (by assumption) (fun p hp => .tail _ hp) ?nm3 ?m3 ⟨?_, ?_, ?_, ?_, ?_⟩
      case nm3 => intro p hp; rcases List.mem_singleton.mp hp with rfl; rfl
      case m3 => intro y hy hn; have hy2 := hn _ (.head _); simp only [if_neg hy, kstB]; simp only [if_neg hy2]
      · dsimp only; rw [foldP_step hst hc, stepP3 (by assumption) (by assumption) (by assumption)]
      · dsimp only; omega
      · dsimp only; omega
      · dsimp only; omega
      · exact hsh
    · refine ItemsPost.of ⟨acc ++ [(c, tc)], n + 1, k, ?t4⟩ (.inl rfl) (by assumption) (by assumption) (fun p hp => .tail _ hp) ?nm4 ?m4 ⟨?_, ?_, ?_, ?_, ?_⟩
      case nm4 => intro p hp; rcases List.mem_singleton.mp hp with rfl; rfl
      case m4 => intro y hy hn; have hy2 := hn _ (.head _); simp only [if_neg hy, kstB]; simp only [if_neg hy2]
      · dsimp only; rw [foldP_step hst hc, stepP4 (by assumption) (by assumption) (by assumption), List.map_append]; rfl
      · dsimp only; simp only [List.length_append, List.length_cons, List.length_nil]; omega
      · dsimp only; omega
      · dsimp only; omega
      · intro p hp
        rcases List.mem_append.mp hp with hp | hp
        · exact hsh p hp
        · rcases List.mem_singleton.mp hp with rfl; exact hcl
  case done =>
    rintro ⟨acc, n, k, t⟩ u h tk ⟨hst, hlen, hk0, hk1, hsh⟩ F' N'
    dsimp only at hst hlen hk0 hk1 hsh F' N'
    have hal : acc.length ≤ 2000 := by rw [strValues_len, List.length_reverse] at hlen; omega
    have hkl : k ≤ 2000 := by rw [strValues_len, List.length_reverse] at hk1; omega
    have hf := foldP_is hsp hst
    clear hsp hall
    k_steps
    · have e := plain1 hf (by assumption) (by assumption) (by assumption)
      exact hret _ _ _ _ (by assumption) (cb_drop (by assumption) (fun p hp => .tail _ (.tail _ (.tail _ (.tail _ (.tail _ (.tail _ hp))))))) ⟨⟨_, by rw [e]⟩, rfl⟩
    · have e := plain2 hf (by assumption) (by assumption) (by assumption)
      exact hret _ _ _ _ (by assumption) (cb_drop (by assumption) (fun p hp => .tail _ (.tail _ (.tail _ (.tail _ (.tail _ (.tail _ hp))))))) ⟨⟨_, by rw [e]⟩, rfl⟩
    · exact ElPost.of (by assumption) (by assumption) (fun p hp => hp) ⟨_, rfl⟩
    · have e := plain3 hf (by assumption) (by assumption)
      exact hret _ _ _ _ (by assumption) (cb_drop (by assumption) (fun p hp => .tail _ (.tail _ (.tail _ hp)))) ⟨⟨_, by rw [e]⟩, rfl⟩
    · have e := plain4 hf (by assumption) (by assumption)
      exact hret _ _ _ _ (by assumption) (cb_drop (by assumption) (fun p hp => .tail _ (.tail _ (.tail _ hp)))) ⟨⟨_, by rw [e]⟩, rfl⟩
end Mine
end PartN2d

section PartN2e
open PySem PySem.W PyProof.Rows
set_option Elab.async false
set_option maxRecDepth 100000
set_option maxHeartbeats 1500000
set_option linter.unusedVariables false
namespace Mine
theorem freshN2e : True := by
  w_top off
  trivial
def signOf (x : Int) (i : Nat) : Str := [Str.ofString "", Str.ofString "/", Str.ofString ".", Str.ofString "a"].getD ((x.fdiv (4 ^ i)).fmod 4).toNat (Str.ofString "")
def signsOf (x : Int) : List Str := (List.range 7).map (signOf x) ++ [Str.ofString ""]
def textOf (x : Int) : Str := Txt.join (Str.ofString "") ((signsOf x).take ((signsOf x).idxOf (Str.ofString "")))
local macro_rules | `(tactic| walk_at "CompSrc") => `(tactic| (k_here; k_dflt (refine' LCg.CompSrc.range ?hh ?F ?N ?r ?sm ?n ?z ?_; (case hh => exact rfl); (case F => k_asm); (case N => k_asm); (case r => assumption); (case sm => exact small_one (by l_bnd) (by l_bnd) (by l_bnd) (by l_bnd)); (case n => exact rangeSize_nat _ _); (case z => (rw [PySem.sizeLine_eq]; omega)); intro g9; (refine of_stop ?_))))
section
variable {prog : Program} {w : World} {A : Around} {E : Value → Shared → Prop} {s : Shared} {Q : Value → Shared → Prop} {t u : Tok}
theorem pow4_at {j : Int} {i : Nat} (hj : j = 0 + (i : Int)) (hi : i < 8) (h : ∀ t tk, Q (.int (4 ^ i) t) { s with toks := tk }) : wpAny (model prog w) A (binaryOp .Pow (.int 4 t) (.int j u)) Q E s := by
  subst hj
  refine pow_int_small (by omega) (by omega) (by decide) ?_
  rw [Int.zero_add, Int.toNat_natCast]
  exact h _ _
theorem div4_at {x : Int} {i : Nat} (hi : i < 8) (h : ∀ t tk, Q (.int (x.fdiv (4 ^ i)) t) { s with toks := tk }) : wpAny (model prog w) A (binaryOp .FloorDiv (.int x t) (.int (4 ^ i) u)) Q E s :=
  floordiv_int (pow4_ne _) (h _ _) (Or.inl (PyProof.noPylong_small (pow4_small hi)))
theorem mod4_at {x : Int} (h : ∀ t tk, 0 ≤ x.fmod 4 → x.fmod 4 < 4 → Q (.int (x.fmod 4) t) { s with toks := tk }) : wpAny (model prog w) A (binaryOp .Mod (.int x t) (.int 4 u)) Q E s :=
  mod_int (by decide) (h _ _ (Int.fmod_nonneg_of_pos _ (by decide)) (Int.fmod_lt_of_pos _ (by decide)))
end
local macro_rules | `(tactic| walk_at "binaryOp Pow int int") => `(tactic| (k_here; k_dflt (refine' pow4_at ?a ?b ?_; (case a => exact rfl); (case b => omega); k_whole; intro t9 k9)))
local macro_rules | `(tactic| walk_at "binaryOp FloorDiv int int") => `(tactic| (k_here; k_dflt (refine' div4_at ?b ?_; (case b => omega); k_whole; intro t9 k9)))
local macro_rules | `(tactic| walk_at "binaryOp Mod int int") => `(tactic| (k_here; k_dflt (refine' mod4_at ?_; k_whole; intro t9 k9 b1 b2)))
local macro_rules | `(tactic| walk_at "subscriptTail Name BinOp ref int") => `(tactic| (k_here; k_dflt (refine' four_at ?N ?m ?i ?b ?c ?_ ?s; (case N => k_asm); (case m => k_mem); (case i => exact rfl); (case b => assumption); (case c => assumption); (case s => with_unfolding_all rfl); k_whole; intro t9)))
local macro_rules | `(tactic| walk_at "binaryOp Add ref ref") => `(tactic| (k_here; k_dflt (refine' strs_add1 ?F ?N ?a ?b ?i ?z ?_; (case F => k_asm); (case N => k_asm); (case a => k_mem); (case b => k_mem); (case i => exact rfl); (case z => omega); k_whole; intro D' h' F' N' l1; (try k_lt l1))))
theorem empty_in (l : List (Str × Tok)) (t : Tok) : Str.ofString "" ∈ (l ++ [(Str.ofString "", t)]).map (·.1) := by simp
local macro_rules | `(tactic| walk_at "call builtin:list.index") => `(tactic| (k_here; k_dflt (refine' strs_index ?N ?m ?c ?z ?_; (case N => k_asm); (case m => k_mem); (case c => exact empty_in _ _); (case z => ((try simp only [List.length_append, List.length_cons, List.length_nil]); omega)); k_whole; intro t9 k9)))
local macro_rules | `(tactic| walk_at "subscriptTail Name Slice ref ref") => `(tactic| (k_here; k_dflt (refine' strs_upto ?F ?N ?m ?k ?z ?_ ?s ?t; (case F => k_asm); (case N => k_asm); (case m => k_mem); (case k => exact Int.natCast_nonneg _); (case z => ((try simp only [List.length_append, List.length_cons, List.length_nil]); omega)); (case s => with_unfolding_all rfl); (case t => kmk_pure); k_whole; intro D' h' F' N' l1; (try k_lt l1))))
theorem signOf_short (x : Int) (i : Nat) : (signOf x i).length ≤ 1 := by
  unfold signOf
  generalize ((x.fdiv (4 ^ i)).fmod 4).toNat = n
  match n with
  | 0 => exact Nat.le_of_ble_eq_true rfl
  | 1 => exact Nat.le_of_ble_eq_true rfl
  | 2 => exact Nat.le_of_ble_eq_true rfl
  | 3 => exact Nat.le_of_ble_eq_true rfl
  | n + 4 => exact Nat.le_of_ble_eq_true rfl
theorem short_take {l9 : List (Str × Tok)} {x : Int} {n j : Nat} {t : Tok} (h9 : l9.map (·.1) = (List.range n).map (signOf x)) : ∀ p ∈ (l9 ++ [(Str.ofString "", t)]).take j, p.1.length ≤ 1000 := by
  intro p hp
  rcases List.mem_append.mp (List.mem_of_mem_take hp) with hp | hp
  · have h1 : p.1 ∈ l9.map (·.1) := List.mem_map.mpr ⟨p, hp, rfl⟩
    rw [h9] at h1
    obtain ⟨i, _, e⟩ := List.mem_map.mp h1
    rw [← e]
    have := signOf_short x i
    omega
  · rcases List.mem_singleton.mp hp with rfl
    exact Nat.le_of_ble_eq_true rfl
theorem textOf_is {l9 : List (Str × Tok)} {x : Int} {t : Tok} (h9 : l9.map (·.1) = (List.range (7 - 0 : Int).toNat).map (signOf x)) :
    Txt.join (Str.ofString "") (((l9 ++ [(Str.ofString "", t)]).take (((((l9 ++ [(Str.ofString "", t)]).map (·.1)).idxOf (Str.ofString "") : Nat) : Int)).toNat).map (·.1)) = textOf x := by
  unfold textOf signsOf
  rw [Int.toNat_natCast, List.map_take, List.map_append, h9]
  rfl
local macro_rules | `(tactic| walk_at "call builtin:str.join") => `(tactic| (k_here; (with_reducible show wpAny _ _ (call (Value.builtin "str.join") [Value.str _ _, Value.ref _]) _ _ _); k_dflt (refine' strs_join ?N ?a ?n ?l ?s ?_; (case N => k_asm); (case a => k_mem); (case n => ((try simp only [List.length_take, List.length_append, List.length_cons, List.length_nil]); omega)); (case l => exact short_take (by assumption)); (case s => decide); k_whole; intro t9 k9 hj9)))
theorem lawtext_spec : ∀ (w : World) (news : List (Addr × Obj)) (x : Int) (tx : Tok), 
    Spec2 2 88 w [.int x tx] news (fun v news' => (∃ t, v = .str (textOf x) t) ∧ news' = news) := by
  unfold Spec2
  k_fill
  intro w news x tx mean mg mb dp un gd cn cs a ccd cl outer A₀ base h₀ L m s Q E B F X N T hk hd1 hu1 hret
  refine wpAny_call ?_
  k_dflt (refine' code_defC ?k1 ?k2 ?k3 ?k4 ?k5 ?kA ?kF ?kK ?k6 ?k7 ?k8 ?k9 ?kB ?kD ?_ ?c2 ?c3 ?c4; (case kA => exact rfl); (case kF => exact rfl); (case kK => assumption); (case k1 => k_asm); (case k2 => k_asm); (case k3 => k_asm); (case k4 => k_asm); (case k5 => k_asm); (case k6 => k_is); (case k7 => k_is); (case k8 => ktr_room); (case k9 => exact BindsTo.of_eq rfl); (case kB => exact rfl); (case kD => decide +kernel); (case c2 => exact rfl); (case c3 => exact rfl); (case c4 => exact rfl); k_whole; intro g' L' h' tk' cells' FG' F' N' Y' B' X' T' l1; (try k_lt l1); k_cells Y'; (try simp only [List.cons_append, List.nil_append] at N'); (try dsimp only); (try k_lift B'); (try k_fold))
  k_steps
  refine to_stop ?_
  refine rest_strs (signOf x) True.intro ?turn9 ?fin9
  case turn9 =>
    intro i9 v9 I9 oI9 C9 oC9 D9 m9 ys9 h9 tk9 E9 hi9 hv9 hC9 hx9 F9 N9 off9 ne9
    obtain ⟨t8, rfl⟩ := hv9
    have hi7 : i9 < 7 := hi9
    k_steps
    exact ElPost.of (by assumption) (by assumption) (fun p hp => .tail _ hp) ⟨_, rfl⟩
  case fin9 =>
    intro l9 hl9 hn9 D9 h9 tk9 F9 N9 o9
    k_steps
    exact hret _ _ _ _ (by assumption) (cb_drop (by assumption) (fun p hp => .tail _ (.tail _ (.tail _ (.tail _ (.tail _ hp)))))) ⟨⟨_, by rw [textOf_is hl9]⟩, rfl⟩
theorem textOf_len (x : Int) : (textOf x).length ≤ 8 := by
  have h1 := sum_le (xs := (signsOf x).take ((signsOf x).idxOf (Str.ofString ""))) (b := 1) (fun a ha => by
    rcases List.mem_append.mp (List.mem_of_mem_take ha) with ha | ha
    · obtain ⟨i, _, e⟩ := List.mem_map.mp ha
      rw [← e]
      exact signOf_short x i
    · rcases List.mem_singleton.mp ha with rfl
      exact Nat.le_of_ble_eq_true rfl)
  have h2 := StrLaws.join_length_le (Str.ofString "") ((signsOf x).take ((signsOf x).idxOf (Str.ofString "")))
  have h3 : ((signsOf x).take ((signsOf x).idxOf (Str.ofString ""))).length ≤ 8 := by
    rw [List.length_take]
    have : (signsOf x).length = 8 := by simp [signsOf]
    omega
  show (Builtin.Str.glued (Str.ofString "") _).length ≤ _
  rw [StrLaws.glued_eq_join]
  have h4 : (Str.ofString "").length = 0 := rfl
  rw [h4] at h2
  omega
end Mine
end PartN2e

section PartN2f
open PySem PySem.W PyProof.Rows
set_option Elab.async false
set_option maxRecDepth 100000
set_option maxHeartbeats 1500000
set_option linter.unusedVariables false
namespace Mine
theorem freshN2f : True := by
  w_top off
  trivial
def attrE (w : World) (k : String) (t : Tok) (v : Value) : DictEntry := { hash := PyData.keyHash w.params (Str.ofString k), key := .str (Str.ofString k) t, val := v }
local macro_rules | `(tactic| walk_at "compareOp In str ref") => `(tactic| (k_here; k_dflt (refine' kda_in (knd := PySem.strKind _ _) ?N ?m ?o ?l (strKind_is _ _ _ _) false ?v ?_; (case N => k_asm); (case m => k_mem); (case o => assumption); (case l => assumption); (case v => assumption); k_whole)))
theorem in_set0 {prog : Program} {w : World} {A : Around} {E : Value → Shared → Prop} {s : Shared} {h₀ : Heap} {L D : Addr} {news : List (Addr × Obj)} {led : Bool} {k : Str} {t : Tok} {Q : Value → Shared → Prop} (N : News h₀ L s.heap news) (hm : (D, set0 led) ∈ news)
    (h : Q (.bool false) { s with toks := s.toks + 1 }) : wpAny (model prog w) A (compareOp .In (.str k t) (.ref D)) Q E s :=
  wpAny_inSet_of (knd := PySem.strKind prog w) (S := fun _ => false) (n := 0) (strKind_is _ _ _ _) rfl ⟨_, #[], 0, _, (N _ hm).1, ⟨rfl, rfl, rfl⟩, rfl, fun e he => by simp at he, fun k => by simp, by decide, by rfl, rfl⟩ h
local macro_rules | `(tactic| walk_at "compareOp In str ref") => `(tactic| (k_here; k_dflt (refine' in_set0 (led := _) ?N ?m ?_; (case N => k_asm); (case m => k_mem); k_whole)))
local macro_rules | `(tactic| walk_at "exec For Name Attribute cons nil") => `(tactic| (refine of_stop ?_))
local macro_rules | `(tactic| walk_at "pyIter ref") => `(tactic| (k_here; k_dflt (refine' for_set0 (led := _) ?h ?m ?F ?N ?_; (case h => exact rfl); (case F => k_asm); (case N => k_asm); (case m => k_mem); k_whole; intro h' F' N')))
local macro_rules | `(tactic| walk_at "setItem ref str") => `(tactic| (k_here; k_dflt (refine' kda_set (knd := PySem.strKind _ _) ?F ?N ?U ?d (strKind_is _ _ _ _) ?z ?_; (case F => k_asm); (case N => k_asm); (case U => first | exact UpdF.head (by assumption) | exact UpdF.tail (by assumption) (UpdF.head (by assumption))); (case d => k_asm); (case z => (rw [sizeLine_eq]; omega))); intro h' o' F' N' hd'; (try dsimp only at N')))
def hitOf (p : Str) (ds : List Str) : Bool := ds.any fun d => Txt.startswith p (d ++ Str.ofString "/")
theorem hit_yes {p c : Str} {l : List (Str × Tok)} {i : Nat} {tc : Tok} (hc : l[i]? = some (c, tc)) (h : Txt.startswith p (c ++ Str.ofString "/") = true) : hitOf p (l.map (·.1)) = true :=
  List.any_eq_true.mpr ⟨c, List.mem_map.mpr ⟨_, List.mem_of_getElem? hc, rfl⟩, h⟩
theorem hit_no {p : Str} {l : List (Str × Tok)} (h : ∀ j, j < (strValues l).length → ∀ q, l[j]? = some q → Txt.startswith p (q.1 ++ Str.ofString "/") = false) : hitOf p (l.map (·.1)) = false := by
  cases e : hitOf p (l.map (·.1)) with
  | false => rfl
  | true =>
    obtain ⟨d, hd, hs⟩ := List.any_eq_true.mp e
    obtain ⟨q, hq, rfl⟩ := List.mem_map.mp hd
    obtain ⟨j, hj, rfl⟩ := List.mem_iff_getElem.mp hq
    rw [h j (by rw [strValues_len]; exact hj) _ (by simp [hj])] at hs
    cases hs
theorem names_spec : ∀ (w : World) (rest : List (Addr × Obj)) (dG x dI dM aD : Addr) (o : Obj) (t1 t2 t3 : Tok) (n : Nat) (led : Bool) (l : List (Str × Tok)) (kvs : List (Str × Value)) (p md : Str) (tp tm : Tok),
    o.IsDictOf (strKind PySem.Challenge.rw_nq0320_02.row.prog w) kvs → (dG == sysModules) = false → (valueAt kvs md).isSome = false → kvs.length ≤ 1000 → p.length ≤ 7000 → md.length ≤ 1000 → l.length ≤ 1000 → (∀ q ∈ l, q.1.length ≤ 6000) → (∀ q ∈ (x, instObj 79 dI) :: (dI, dictOf [{ hash := PyData.keyHash w.params (Str.ofString "_mods"), key := .str (Str.ofString "_mods") t1, val := .ref dM }, { hash := PyData.keyHash w.params (Str.ofString "_dirs"), key := .str (Str.ofString "_dirs") t2, val := .ref aD }, { hash := PyData.keyHash w.params (Str.ofString "_ignore"), key := .str (Str.ofString "_ignore") t3, val := .ref dG }] n) ::
        (dM, { cls := Value.type "set", data := Data.set #[] 0 (SetTable.fresh 0 0 led) }) :: (aD, LCg.lst (strValues l)) :: rest, q.1 ≠ dG) →
    Spec2 2 76 w [.ref x, .str p tp, .str md tm] ((dG, o) :: (x, instObj 79 dI) :: (dI, dictOf [{ hash := PyData.keyHash w.params (Str.ofString "_mods"), key := .str (Str.ofString "_mods") t1, val := .ref dM }, { hash := PyData.keyHash w.params (Str.ofString "_dirs"), key := .str (Str.ofString "_dirs") t2, val := .ref aD }, { hash := PyData.keyHash w.params (Str.ofString "_ignore"), key := .str (Str.ofString "_ignore") t3, val := .ref dG }] n) ::
        (dM, { cls := Value.type "set", data := Data.set #[] 0 (SetTable.fresh 0 0 led) }) :: (aD, LCg.lst (strValues l)) :: rest) (fun v news' => ∃ t o' vv, v = .int (if hitOf p (l.map (·.1)) = true then 1 else 0) t ∧ o'.IsDictOf (strKind PySem.Challenge.rw_nq0320_02.row.prog w) (stored kvs md vv) ∧ news' = (dG, o') :: (x, instObj 79 dI) :: (dI, dictOf [{ hash := PyData.keyHash w.params (Str.ofString "_mods"), key := .str (Str.ofString "_mods") t1, val := .ref dM }, { hash := PyData.keyHash w.params (Str.ofString "_dirs"), key := .str (Str.ofString "_dirs") t2, val := .ref aD }, { hash := PyData.keyHash w.params (Str.ofString "_ignore"), key := .str (Str.ofString "_ignore") t3, val := .ref dG }] n) ::
        (dM, { cls := Value.type "set", data := Data.set #[] 0 (SetTable.fresh 0 0 led) }) :: (aD, LCg.lst (strValues l)) :: rest) := by
  unfold Spec2
  k_fill
  intro w rest dG x dI dM aD o t1 t2 t3 n led l kvs p md tp tm ho hgs hmd hkl hpl hml hll hls hne mean mg mb dp un gd cn cs a ccd cl outer A₀ base h₀ L m s Q E B F X N T hk hd1 hu1 hret
  refine wpAny_call ?_
  k_dflt cell_enter
  k_steps
  refine to_stop ?_
  refine wpAny_For ?_ (by intro _; rfl)
  k_steps
  refine to_stop ?_
  refine wpAny_For ?_ (by intro _; rfl)
  k_steps
  (rename Fr _ _ _ _ => kF)
  (rename News _ _ _ _ => kN)
  refine for_items (σ := Unit) (vs := strValues l) (fun _ => _) (fun _ => []) (fun i _ => ∀ j, j < i → ∀ q, l[j]? = some q → Txt.startswith p (q.1 ++ Str.ofString "/") = false) () rfl (fun _ => .tail _ (.tail _ (.tail _ (.tail _ (.head _))))) (fun _ _ => rfl) kF kN (fun p hp => hp) (fun p hp => nomatch hp) (fun j hj => absurd hj (Nat.not_lt_zero _)) ?hE ?turn ?done
  case hE => first | passes_own | with_unfolding_all passes_own
  case turn =>
    intro i v c u h tk I io hv hP hI hlt F' N'
    dsimp only at hI F' N'
    have hne1 := neN (Ne.symm (hI _ (.head _)))
    obtain ⟨c, tc, hc, rfl⟩ : ∃ c tc, l[i]? = some (c, tc) ∧ v = .str c tc := by
      simp only [strValues, List.getElem?_map] at hv
      cases hq : l[i]? with
      | none => rw [hq] at hv; cases hv
      | some q => rw [hq] at hv; exact ⟨q.1, q.2, rfl, (Option.some.inj hv).symm⟩
    have hcl := hls _ (List.mem_of_getElem? hc)
    dsimp only at hcl
    clear kF kN
    k_steps
    · dsimp only [ItemsPost]
      k_steps
      have hyes := hit_yes hc (by assumption)
      exact hret _ _ _ _ (by assumption) (cb_drop (by assumption) (fun p hp => .tail _ hp)) ⟨_, _, _, by rw [if_pos hyes], by assumption, rfl⟩
    · refine ItemsPost.of () (.inl rfl) (by assumption) (by assumption) (fun p hp => hp) (fun p hp => nomatch hp) (fun y hy _ => by simp only [if_neg hy, kstB]) ?_
      intro j hj q hq
      rcases Nat.lt_succ_iff_lt_or_eq.mp hj with hj | rfl
      · exact hP j hj q hq
      · obtain rfl := Option.some.inj (hc.symm.trans hq)
        assumption
  case done =>
    intro c u h tk hP F' N'
    clear kF kN
    have hno := hit_no hP
    k_steps
    exact hret _ _ _ _ (by assumption) (by assumption) ⟨_, _, _, by rw [if_neg (by rw [hno]; exact Bool.false_ne_true)], by assumption, rfl⟩
end Mine
end PartN2f

section PartP2a
open PySem PySem.W PyProof.Rows
set_option Elab.async false
set_option maxRecDepth 100000
set_option linter.unusedVariables false
namespace Mine
theorem freshP2a : True := by
  w_top off
  trivial
def LL (x : Str) : List Nat := x.cps.toList
theorem LL_ext {x y : Str} (h : LL x = LL y) : x = y := by
  cases x; cases y
  simp only [Str.mk.injEq]
  exact Array.ext' h
theorem LL_len (x : Str) : x.length = (LL x).length := by simp [LL, Str.length]
theorem LL_app (x y : Str) : LL (x ++ y) = LL x ++ LL y := by
  show (x.cps ++ y.cps).toList = _
  simp [LL]
theorem clampIdx (a b len : Nat) : Builtin.Str.strSliceIndices (some (a : Int)) (some (b : Int)) 1 len = Builtin.Str.strSliceIndices (some ((min a len : Nat) : Int)) (some ((min b len : Nat) : Int)) 1 len := by
  have h1 : ¬ ((a : Int) < 0) := by omega
  have h2 : ¬ ((b : Int) < 0) := by omega
  have h3 : ¬ (((min a len : Nat) : Int) < 0) := by omega
  have h4 : ¬ (((min b len : Nat) : Int) < 0) := by omega
  have e1 : max (0 : Int) (min (a : Int) (len : Int)) = max (0 : Int) (min ((min a len : Nat) : Int) (len : Int)) := by omega
  have e2 : max (0 : Int) (min (b : Int) (len : Int)) = max (0 : Int) (min ((min b len : Nat) : Int) (len : Int)) := by omega
  simp only [Builtin.Str.strSliceIndices, h1, h2, h3, h4, if_false, e1, e2, show ((1 : Int) > 0) = True from by simp, if_true]
theorem slice_LL (x : Str) (a b : Nat) (hab : a ≤ b) : LL (Txt.slice x (some (a : Int)) (some (b : Int))) = ((LL x).drop a).take (b - a) := by
  have e : Txt.slice x (some (a : Int)) (some (b : Int)) = StrLaws.sliceText x (some ((min a x.length : Nat) : Int)) (some ((min b x.length : Nat) : Int)) := by
    unfold Txt.slice StrLaws.sliceText
    rw [clampIdx]
  rw [e, StrLaws.sliceText_nat x (by omega) (by omega)]
  show ((x.cps.toList.drop (min a x.length)).take (min b x.length - min a x.length)) = _
  rw [LL_len]
  show (((LL x).drop (min a (LL x).length)).take (min b (LL x).length - min a (LL x).length)) = _
  generalize LL x = l
  by_cases h1 : a ≤ l.length
  · rw [Nat.min_eq_left h1]
    by_cases h2 : b ≤ l.length
    · rw [Nat.min_eq_left h2]
    · rw [Nat.min_eq_right (by omega), List.take_of_length_le (by simp), List.take_of_length_le (by simp; omega)]
  · rw [Nat.min_eq_right (by omega), Nat.min_eq_right (by omega), List.drop_of_length_le (Nat.le_refl _), List.drop_of_length_le (by omega)]
    simp
theorem slice_lo (x : Str) (b : Nat) : LL (Txt.slice x none (some (b : Int))) = (LL x).take b := by
  have e : Txt.slice x none (some (b : Int)) = Txt.slice x (some ((0 : Nat) : Int)) (some (b : Int)) := by
    unfold Txt.slice
    rw [StrLaws.sliceIdx_none_lo]
    rfl
  rw [e, slice_LL x 0 b (Nat.zero_le _)]
  simp
theorem slice_hi (x : Str) (a : Nat) : LL (Txt.slice x (some (a : Int)) none) = (LL x).drop a := by
  by_cases h : a ≤ x.length
  · have e : Txt.slice x (some (a : Int)) none = Txt.slice x (some (a : Int)) (some (x.length : Int)) := by
      unfold Txt.slice
      rw [StrLaws.sliceIdx_none_hi]
    rw [e, slice_LL x a x.length h, LL_len]
    rw [List.take_of_length_le (by simp)]
  · have e : Txt.slice x (some (a : Int)) none = Txt.slice x (some (a : Int)) (some (a : Int)) := by
      unfold Txt.slice
      rw [StrLaws.sliceIdx_none_hi, clampIdx a x.length, clampIdx a a]
      rw [Nat.min_eq_right (by omega : x.length ≤ a), Nat.min_self]
    rw [e, slice_LL x a a (Nat.le_refl _), List.drop_of_length_le (by rw [← LL_len]; omega)]
    simp
def joinL : List (List Nat) → List Nat
  | [] => []
  | [p] => p
  | p :: q :: r => p ++ 47 :: joinL (q :: r)
theorem joinL_cons (p : List Nat) (r : List (List Nat)) (h : r ≠ []) : joinL (p :: r) = p ++ 47 :: joinL r := by
  cases r with
  | nil => exact absurd rfl h
  | cons q r => rfl
/-- the parts are known by what they join to -/
theorem joinL_inj : ∀ (k m : List (List Nat)), k ≠ [] → m ≠ [] → (∀ p ∈ k, 47 ∉ p) → (∀ p ∈ m, 47 ∉ p) → joinL k = joinL m → k = m
  | [], _, h, _, _, _, _ => absurd rfl h
  | _, [], _, h, _, _, _ => absurd rfl h
  | [p], [q], _, _, _, _, h => by rw [show p = q from h]
  | [p], q :: q2 :: r, _, _, hk, _, h => by
    have : 47 ∈ joinL [p] := by rw [h, joinL_cons q (q2 :: r) (by simp)]; simp
    exact absurd this (hk p (.head _))
  | p :: p2 :: r, [q], _, _, _, hm, h => by
    have : 47 ∈ joinL [q] := by rw [← h, joinL_cons p (p2 :: r) (by simp)]; simp
    exact absurd this (hm q (.head _))
  | p :: p2 :: r, q :: q2 :: r2, _, _, hk, hm, h => by
    rw [joinL_cons p (p2 :: r) (by simp), joinL_cons q (q2 :: r2) (by simp)] at h
    have key : ∀ (a b c d : List Nat), 47 ∉ a → 47 ∉ b → a ++ 47 :: c = b ++ 47 :: d → a = b ∧ c = d := by
      intro a
      induction a with
      | nil =>
        intro b c d _ hb e
        cases b with
        | nil => exact ⟨rfl, by simpa using e⟩
        | cons y b => simp at e; exact absurd (by rw [e.1]; exact .head _) hb
      | cons x a ih =>
        intro b c d ha hb e
        cases b with
        | nil => simp at e; exact absurd (by rw [← e.1]; exact .head _) ha
        | cons y b =>
          simp at e
          obtain ⟨e1, e2⟩ := ih b c d (fun z => ha (.tail _ z)) (fun z => hb (.tail _ z)) e.2
          exact ⟨by rw [e.1, e1], e2⟩
    obtain ⟨e1, e2⟩ := key p q _ _ (hk p (.head _)) (hm q (.head _)) h
    rw [e1, joinL_inj (p2 :: r) (q2 :: r2) (by simp) (by simp) (fun z hz => hk z (.tail _ hz)) (fun z hz => hm z (.tail _ hz)) e2]
def splitL : List Nat → List (List Nat)
  | [] => [[]]
  | c :: r => if c = 47 then [] :: splitL r else match splitL r with
    | [] => [[c]]
    | p :: q => (c :: p) :: q
theorem splitL_ne (l : List Nat) : splitL l ≠ [] := by
  cases l with
  | nil => simp [splitL]
  | cons c r =>
    unfold splitL
    split
    · simp
    · split <;> simp
theorem splitL_free : ∀ (l : List Nat), ∀ p ∈ splitL l, 47 ∉ p
  | [], p, hp => by simp [splitL] at hp; subst hp; simp
  | c :: r, p, hp => by
    have ih := splitL_free r
    unfold splitL at hp
    split at hp
    · rcases List.mem_cons.mp hp with rfl | hp
      · simp
      · exact ih p hp
    · rename_i hc
      split at hp
      · simp at hp; subst hp; simp; exact fun e => hc e.symm
      · rename_i p' q' e
        rcases List.mem_cons.mp hp with rfl | hp
        · intro h
          rcases List.mem_cons.mp h with h | h
          · exact hc h.symm
          · exact ih p' (by rw [e]; exact .head _) h
        · exact ih p (by rw [e]; exact .tail _ hp)
theorem splitL_join : ∀ (l : List Nat), joinL (splitL l) = l
  | [] => rfl
  | c :: r => by
    have ih := splitL_join r
    unfold splitL
    split
    · rename_i hc
      rw [joinL_cons _ _ (splitL_ne r), ih, hc]; rfl
    · split
      · rename_i e; exact absurd e (splitL_ne r)
      · rename_i p q e
        rw [e] at ih
        cases q with
        | nil => rw [← ih]; rfl
        | cons q1 q2 => rw [← ih]; rfl
theorem join_LL : ∀ (l : List Str), LL (Txt.join (Str.ofString "/") l) = joinL (l.map LL) := by
  intro l
  show LL (Builtin.Str.glued (Str.ofString "/") l) = _
  rw [StrLaws.glued_eq_join]
  induction l with
  | nil => rfl
  | cons p r ih =>
    cases r with
    | nil => rfl
    | cons q r =>
      rw [List.map_cons, joinL_cons _ _ (by simp), ← ih]
      show LL (p ++ Str.ofString "/" ++ Str.join (Str.ofString "/") (q :: r)) = _
      rw [LL_app, LL_app, List.append_assoc]
      rfl
theorem split_ne (x : Str) : Txt.split x (Str.ofString "/") ≠ [] := by
  intro h
  unfold Txt.split at h
  split at h
  · cases h
  · split at h
    · cases h
    · rename_i h1 h2
      have h3 := congrArg List.length h
      simp [Builtin.Str.partsBetween] at h3
theorem split_LL (x : Str) : (Txt.split x (Str.ofString "/")).map LL = splitL (LL x) := by
  refine joinL_inj _ _ (by simpa using split_ne x) (splitL_ne _) ?_ (splitL_free _) ?_
  · intro p hp
    obtain ⟨q, hq, rfl⟩ := List.mem_map.mp hp
    exact StrLaws.split_free x 47 q hq
  · rw [splitL_join, ← join_LL]
    show LL (Builtin.Str.glued (Str.ofString "/") _) = _
    rw [StrLaws.glued_eq_join]
    exact congrArg LL (StrLaws.join_split x (Str.ofString "/"))
end Mine
end PartP2a

section PartP2b
open PySem PySem.W PyProof.Rows
set_option Elab.async false
set_option maxRecDepth 100000
set_option linter.unusedVariables false
namespace Mine
theorem freshP2b : True := by
  w_top off
  trivial
theorem goes_slash (c : Nat) : (Str.ofString "/").cps.contains c = (c == 47) := by
  show (#[47] : Array Nat).contains c = _
  rw [← Array.contains_toList]
  simp only [List.contains_cons, List.contains_nil, Bool.or_false]
theorem slashes_is (x : Str) : slashesOf x = (((LL x).takeWhile (· == 47)).length : Int) := by
  have hg : ((Str.ofString "/").cps.contains : Nat → Bool) = (fun c => c == 47) := funext goes_slash
  have hle : ((LL x).takeWhile (· == 47)).length ≤ (LL x).length := (List.takeWhile_sublist _).length_le
  unfold slashesOf Txt.lstripChars Txt.stripBy
  rw [hg]
  have hlo : stripLo (fun c => c == 47) true x = ((LL x).takeWhile (· == 47)).length := rfl
  split
  · rename_i h
    have : stripLo (fun c => c == 47) true x = 0 := by
      unfold stripSame at h
      simp only [Bool.and_eq_true, beq_iff_eq] at h
      exact h.1
    rw [hlo] at this
    rw [this]
    simp
  · have h2 : (PySem.stripped (fun c => c == 47) true false x).length = (LL x).length - ((LL x).takeWhile (· == 47)).length := by
      rw [LL_len]
      unfold PySem.stripped LL
      rw [StrLaws.strSub_toList]
      show ((x.cps.toList.drop (stripLo (fun c => c == 47) true x)).take (x.length - stripLo (fun c => c == 47) true x)).length = _
      rw [hlo, LL_len, List.length_take, List.length_drop]
      simp only [LL]
      omega
    rw [h2, LL_len]
    omega
def ds : Str := Str.ofString ".."
def right : List Str → List Str × Nat
  | [] => ([], 0)
  | c :: cs => if c = Str.ofString ".." then ((right cs).1, (right cs).2 + 1) else if c = Str.ofString "" ∨ c = Str.ofString "." then right cs
    else if 0 < (right cs).2 then ((right cs).1, (right cs).2 - 1) else ((right cs).1 ++ [c], (right cs).2)
theorem fold_right : ∀ cs : List Str, cs.reverse.foldl stepP ([], 0) = ((right cs).1, ((right cs).2 : Int))
  | [] => rfl
  | c :: cs => by
    rw [List.reverse_cons, List.foldl_append, fold_right cs]
    simp only [List.foldl_cons, List.foldl_nil, stepP, right]
    split
    · simp
    · split
      · rfl
      · by_cases h : 0 < (right cs).2
        · rw [if_pos (by omega), if_pos h]
          simp; omega
        · rw [if_neg (by omega), if_neg h]
theorem ofs_len0 {c : Str} : c.length = 0 ↔ c = Str.ofString "" := by
  constructor
  · intro h
    apply LL_ext
    rw [LL_len] at h
    rw [List.eq_nil_of_length_eq_zero h]
    rfl
  · intro h; subst h; rfl
theorem stepN_dd_abs {ini : Str} {acc : List Str} (hi : ini.length ≠ 0) (hacc : ds ∉ acc) : stepN ini acc (Str.ofString "..") = acc.dropLast := by
  unfold stepN
  rw [if_neg (by decide), if_neg]
  rintro (h | h | h)
  · exact h rfl
  · exact hi h.1
  · exact hacc (List.mem_of_getLast? h)
theorem stepN_skip {ini c : Str} {acc : List Str} (h : c = Str.ofString "" ∨ c = Str.ofString ".") : stepN ini acc c = acc := by
  unfold stepN
  rw [if_pos]
  rcases h with h | h
  · exact .inl (ofs_len0.mpr h)
  · exact .inr h
theorem stepN_push {ini c : Str} {acc : List Str} (h1 : c ≠ Str.ofString "..") (h2 : ¬ (c = Str.ofString "" ∨ c = Str.ofString ".")) : stepN ini acc c = acc ++ [c] := by
  unfold stepN
  rw [if_neg (by rintro (h | h); exact h2 (.inl (ofs_len0.mp h)); exact h2 (.inr h)), if_pos (.inl h1)]
/-- a path with a root: the stack's left fold against the counter's right fold -/
theorem fold_abs {ini : Str} (hi : ini.length ≠ 0) : ∀ (cs acc : List Str), ds ∉ acc → cs.foldl (stepN ini) acc = acc.take (acc.length - (right cs).2) ++ (right cs).1.reverse
  | [], acc, _ => by simp [right]
  | c :: cs, acc, hacc => by
    rw [List.foldl_cons]
    unfold right
    split
    · rename_i h
      subst h
      rw [stepN_dd_abs hi hacc, fold_abs hi cs _ (fun h => hacc (List.dropLast_subset _ h))]
      simp only [List.dropLast_eq_take, List.take_take, List.length_take]
      congr 2
      omega
    · rename_i h1
      split
      · rename_i h2
        rw [stepN_skip h2, fold_abs hi cs acc hacc]
      · rename_i h2
        rw [stepN_push h1 h2, fold_abs hi cs _ (fun h => by rcases List.mem_append.mp h with h | h; exact hacc h; exact h1 (List.mem_singleton.mp h).symm)]
        split
        · rename_i h3
          simp only [List.length_append, List.length_cons, List.length_nil]
          rw [List.take_append_of_le_length (by omega)]
          congr 2
          omega
        · rename_i h3
          have : (right cs).2 = 0 := by omega
          rw [this, List.take_of_length_le (by simp)]
          simp
/-- a path without one -/
theorem fold_rel {ini : Str} (hi : ini.length = 0) : ∀ (cs : List Str) (k : Nat) (ns : List Str), ds ∉ ns →
    cs.foldl (stepN ini) (List.replicate k ds ++ ns) = List.replicate (k + ((right cs).2 - ns.length)) ds ++ (ns.take (ns.length - (right cs).2) ++ (right cs).1.reverse)
  | [], k, ns, _ => by simp [right]
  | c :: cs, k, ns, hns => by
    rw [List.foldl_cons]
    unfold right
    split
    · rename_i h
      subst h
      rcases List.eq_nil_or_concat ns with rfl | ⟨init, z, rfl⟩
      · have e : stepN ini (List.replicate k ds ++ []) (Str.ofString "..") = List.replicate (k + 1) ds ++ [] := by
          unfold stepN
          rw [if_neg (by decide), if_pos]
          · rw [List.append_nil, List.append_nil, List.replicate_succ']; rfl
          · cases k with
            | zero => exact .inr (.inl ⟨hi, rfl⟩)
            | succ k => exact .inr (.inr (by rw [List.append_nil, List.replicate_succ', List.getLast?_append]; rfl))
        rw [e, fold_rel hi cs (k + 1) [] (by simp)]
        have e2 : k + 1 + ((right cs).2 - 0) = k + ((right cs).2 + 1 - 0) := by omega
        simp only [List.length_nil, e2, List.take_nil]
      · have hz : z ≠ ds := fun e => hns (by rw [e]; simp)
        have e : stepN ini (List.replicate k ds ++ (init ++ [z])) (Str.ofString "..") = List.replicate k ds ++ init := by
          unfold stepN
          rw [if_neg (by decide), if_neg]
          · rw [← List.append_assoc, List.dropLast_concat]
          · rintro (h | h | h)
            · exact h rfl
            · have := congrArg List.length h.2; simp at this
            · rw [← List.append_assoc, List.getLast?_concat] at h
              exact hz (Option.some.inj h)
        rw [List.concat_eq_append] at hns ⊢
        rw [e, fold_rel hi cs k init (fun h => hns (by simp [h]))]
        simp only [List.length_append, List.length_cons, List.length_nil]
        congr 1
        · congr 1; omega
        · congr 1
          rw [List.take_append_of_le_length (by omega)]
          congr 1; omega
    · rename_i h1
      split
      · rename_i h2
        rw [stepN_skip h2, fold_rel hi cs k ns hns]
      · rename_i h2
        rw [stepN_push h1 h2, List.append_assoc, fold_rel hi cs k (ns ++ [c]) (fun h => by rcases List.mem_append.mp h with h | h; exact hns h; exact h1 (List.mem_singleton.mp h).symm)]
        simp only [List.length_append, List.length_cons, List.length_nil]
        split
        · rename_i h3
          congr 1
          · congr 1; omega
          · congr 1
            rw [List.take_append_of_le_length (by omega)]
            congr 1; omega
        · rename_i h3
          have : (right cs).2 = 0 := by omega
          rw [this, List.take_of_length_le (by simp), List.take_of_length_le (by simp)]
          simp
end Mine
end PartP2b

section PartP2c
open PySem PySem.W PyProof.Rows
set_option Elab.async false
set_option maxRecDepth 100000
set_option linter.unusedVariables false
namespace Mine
theorem freshP2c : True := by
  w_top off
  trivial
theorem right_ne : ∀ (cs : List Str), ∀ c ∈ (right cs).1, c ≠ Str.ofString ""
  | [], c, h => by simp [right] at h
  | d :: cs, c, h => by
    have ih := right_ne cs
    unfold right at h
    split at h
    · exact ih c h
    · split at h
      · exact ih c h
      · rename_i h2
        split at h
        · exact ih c h
        · rcases List.mem_append.mp h with h | h
          · exact ih c h
          · rw [List.mem_singleton.mp h]
            exact fun e => h2 (.inl e)
theorem split_slash {x r : Str} (h : LL x = 47 :: LL r) : Txt.split x (Str.ofString "/") = Str.ofString "" :: Txt.split r (Str.ofString "/") := by
  have h1 := split_LL x
  have h2 : splitL (LL x) = [] :: splitL (LL r) := by rw [h]; simp [splitL]
  rw [h2, ← split_LL r] at h1
  have inj : ∀ (k m : List Str), k.map LL = m.map LL → k = m := by
    intro k
    induction k with
    | nil => intro m e; cases m with
      | nil => rfl
      | cons a m => cases e
    | cons a k ih => intro m e; cases m with
      | nil => cases e
      | cons b m =>
        simp only [List.map_cons, List.cons.injEq] at e
        rw [LL_ext e.1, ih m e.2]
  exact inj _ _ h1
theorem bne_y {a b : Str} (h : LL a ≠ LL b) : (a != b) = true := by
  have : a ≠ b := fun e => h (by rw [e])
  simpa using this
theorem bne_n {a b : Str} (h : LL a = LL b) : (a != b) = false := by rw [LL_ext h]; simp
theorem beq_y {a b : Str} (h : LL a = LL b) : (a == b) = true := by rw [LL_ext h]; simp
theorem beq_n {a b : Str} (h : LL a ≠ LL b) : (a == b) = false := by
  have : a ≠ b := fun e => h (by rw [e])
  simpa using this
theorem skip_empty (ini : Str) (cs : List Str) : (Str.ofString "" :: cs).foldl (stepN ini) [] = cs.foldl (stepN ini) [] := by
  rw [List.foldl_cons, stepN_skip (.inl rfl)]
theorem join_pos : ∀ {l : List Str}, l ≠ [] → (∀ c ∈ l, c ≠ Str.ofString "") → (Txt.join (Str.ofString "/") l).length ≠ 0 := by
  intro l hl hc h
  rw [LL_len, join_LL] at h
  cases l with
  | nil => exact hl rfl
  | cons a r =>
    have ha := hc a (.head _)
    have : LL a ≠ [] := fun e => ha (LL_ext (by rw [e]; rfl))
    cases r with
    | nil => exact this (List.eq_nil_of_length_eq_zero h)
    | cons b r =>
      have h2 := List.eq_nil_of_length_eq_zero h
      simp [joinL] at h2
theorem foldP_right (x : Str) : foldP x = ((right (Txt.split x (Str.ofString "/"))).1, ((right (Txt.split x (Str.ofString "/"))).2 : Int)) := fold_right _
/-- with a root -/
theorem norm_abs {x ini : Str} (h0 : x.length ≠ 0) (hr : rootOf x = ini) (hi : ini.length ≠ 0) (ht : (Txt.split (tailOf x) (Str.ofString "/")).foldl (stepN ini) [] = (Txt.split x (Str.ofString "/")).foldl (stepN ini) [])
    (hs : slashesOf x ≠ 0) (h2 : (if slashesOf x = 2 then Str.ofString "//" else Str.ofString "/") = ini) : normOf x = plainOf x := by
  unfold normOf plainOf
  rw [if_neg h0, if_neg hs, h2, hr, ht, fold_abs hi _ [] (by simp), foldP_right]
  simp only [List.take_nil, List.nil_append]
  rw [if_neg]
  intro h
  have := congrArg (fun z => z) h
  rw [LL_len, LL_app, List.length_append, ← LL_len] at this
  omega
/-- without -/
theorem norm_rel {x : Str} (h0 : x.length ≠ 0) (hr : rootOf x = Str.ofString "") (ht : tailOf x = x) (hs : slashesOf x = 0) : normOf x = plainOf x := by
  unfold normOf plainOf
  have hf := fold_rel (ini := Str.ofString "") rfl (Txt.split x (Str.ofString "/")) 0 [] (by simp)
  simp only [List.replicate_zero, List.nil_append, List.length_nil, Nat.sub_zero, Nat.zero_add, List.take_nil] at hf
  rw [if_neg h0, if_pos hs, hr, ht, hf, foldP_right]
  simp only [Int.toNat_natCast]
  have he : ∀ z : Str, Str.ofString "" ++ z = z := fun z => LL_ext (by rw [LL_app]; rfl)
  rw [he]
  by_cases hp : List.replicate (right (Txt.split x (Str.ofString "/"))).2 ds ++ (right (Txt.split x (Str.ofString "/"))).1.reverse = []
  · have hp' : List.replicate (right (Txt.split x (Str.ofString "/"))).2 (Str.ofString "..") ++ (right (Txt.split x (Str.ofString "/"))).1.reverse = [] := hp
    rw [hp, hp', if_pos (show (Txt.join (Str.ofString "/") []).length = 0 from rfl), if_neg (by simp)]
  · have hp' : List.replicate (right (Txt.split x (Str.ofString "/"))).2 (Str.ofString "..") ++ (right (Txt.split x (Str.ofString "/"))).1.reverse ≠ [] := hp
    rw [if_pos hp', if_neg]
    · rfl
    · refine join_pos hp fun c hc => ?_
      rcases List.mem_append.mp hc with hc | hc
      · rw [List.eq_of_mem_replicate hc]; decide
      · exact right_ne _ c (List.mem_reverse.mp hc)
theorem norm_plain (x : Str) : normOf x = plainOf x := by
  have s1 : LL (Txt.slice x none (some 1)) = (LL x).take 1 := slice_lo x 1
  have s2 : LL (Txt.slice x (some 1) (some 2)) = ((LL x).drop 1).take 1 := slice_LL x 1 2 (by decide)
  have s3 : LL (Txt.slice x (some 2) (some 3)) = ((LL x).drop 2).take 1 := slice_LL x 2 3 (by decide)
  have s4 : LL (Txt.slice x (some 1) none) = (LL x).drop 1 := slice_hi x 1
  have s5 : LL (Txt.slice x (some 2) none) = (LL x).drop 2 := slice_hi x 2
  have s6 : LL (Txt.slice x none (some 2)) = (LL x).take 2 := slice_lo x 2
  have sl := slashes_is x
  have sp := @split_slash
  have hsl : LL (Str.ofString "/") = [47] := rfl
  have hse : LL (Str.ofString "") = [] := rfl
  have hss : LL (Str.ofString "//") = [47, 47] := rfl
  match hx : LL x with
  | [] =>
    have : x = Str.ofString "" := LL_ext (by rw [hx]; rfl)
    subst this
    decide +kernel
  | c :: r =>
    have h0 : x.length ≠ 0 := by rw [LL_len, hx]; simp
    rw [hx] at s1 s2 s3 s4 s5 s6 sl
    by_cases hc : c = 47
    · subst hc
      have b1 : (Txt.slice x none (some 1) != Str.ofString "/") = false := bne_n (by rw [s1, hsl]; rfl)
      match r with
      | [] =>
        have b2 : (Txt.slice x (some 1) (some 2) != Str.ofString "/") = true := bne_y (by rw [s2, hsl]; simp)
        obtain ⟨e1, e2⟩ := root2 b1 b2
        have q : (Txt.split x (Str.ofString "/")) = Str.ofString "" :: Txt.split (tailOf x) (Str.ofString "/") := split_slash (by rw [e2, s4, hx]; rfl)
        exact norm_abs h0 e1 (by decide) (by rw [q, skip_empty]) (by rw [sl]; decide) (by rw [sl]; rfl)
      | d :: r =>
        by_cases hd : d = 47
        · subst hd
          have b2 : (Txt.slice x (some 1) (some 2) != Str.ofString "/") = false := bne_n (by rw [s2, hsl]; rfl)
          by_cases b3 : (Txt.slice x (some 2) (some 3) == Str.ofString "/") = true
          · obtain ⟨e1, e2⟩ := root3 b1 b2 b3
            have q : (Txt.split x (Str.ofString "/")) = Str.ofString "" :: Txt.split (tailOf x) (Str.ofString "/") := split_slash (by rw [e2, s4, hx]; rfl)
            have h3 : Txt.slice x (some 2) (some 3) = Str.ofString "/" := by simpa using b3
            rw [h3, hsl] at s3
            match r with
            | [] => simp at s3
            | e :: r =>
              have : e = 47 := by simpa using s3.symm
              subst this
              exact norm_abs h0 e1 (by decide) (by rw [q, skip_empty]) (by rw [sl]; simp; omega) (by rw [sl, if_neg (by simp; omega)])
          · have b3' : (Txt.slice x (some 2) (some 3) == Str.ofString "/") = false := by simpa using b3
            obtain ⟨e1, e2⟩ := root4 b1 b2 b3'
            have hr2 : rootOf x = Str.ofString "//" := by rw [e1]; exact LL_ext (by rw [s6, hss]; rfl)
            have hr : r.head? ≠ some 47 := by
              intro h
              cases r with
              | nil => cases h
              | cons e r =>
                simp at h
                subst h
                rw [beq_y (by rw [s3, hsl]; rfl)] at b3'
                cases b3'
            have htw : (List.takeWhile (· == 47) (47 :: 47 :: r)).length = 2 := by
              cases r with
              | nil => rfl
              | cons e r =>
                have : e ≠ 47 := fun h => hr (by simp [h])
                simp [this]
            have q1 : Txt.split x (Str.ofString "/") = Str.ofString "" :: Txt.split (Txt.slice x (some 1) none) (Str.ofString "/") := split_slash (by rw [s4, hx]; rfl)
            have q2 : Txt.split (Txt.slice x (some 1) none) (Str.ofString "/") = Str.ofString "" :: Txt.split (tailOf x) (Str.ofString "/") := split_slash (by rw [s4, e2, s5]; rfl)
            exact norm_abs h0 hr2 (by decide) (by rw [q1, skip_empty, q2, skip_empty]) (by rw [sl, htw]; decide) (by rw [sl, htw]; rfl)
        · have b2 : (Txt.slice x (some 1) (some 2) != Str.ofString "/") = true := bne_y (by rw [s2, hsl]; simpa using hd)
          obtain ⟨e1, e2⟩ := root2 b1 b2
          have q : (Txt.split x (Str.ofString "/")) = Str.ofString "" :: Txt.split (tailOf x) (Str.ofString "/") := split_slash (by rw [e2, s4, hx]; rfl)
          have htw : (List.takeWhile (· == 47) (47 :: d :: r)).length = 1 := by simp [hd]
          exact norm_abs h0 e1 (by decide) (by rw [q, skip_empty]) (by rw [sl, htw]; decide) (by rw [sl, htw]; rfl)
    · have b1 : (Txt.slice x none (some 1) != Str.ofString "/") = true := bne_y (by rw [s1, hsl]; simpa using hc)
      obtain ⟨e1, e2⟩ := root1 b1
      have htw : (List.takeWhile (· == 47) (c :: r)).length = 0 := by simp [hc]
      exact norm_rel h0 e1 e2 (by rw [sl, htw]; rfl)
/-- a start with a sep is a slice compared -/
theorem start_slice (p d : Str) : (Txt.slice p none (some ((d.length : Int) + 1)) == d ++ Str.ofString "/") = Txt.startswith p (d ++ Str.ofString "/") := by
  have e : ((d.length : Int) + 1) = ((d.length + 1 : Nat) : Int) := by omega
  have hl : (d ++ Str.ofString "/").length = d.length + 1 := by rw [LL_len, LL_app, LL_len]; simp [LL, Str.ofString]; rfl
  have h1 : LL (Txt.slice p none (some ((d.length : Int) + 1))) = (LL p).take (d.length + 1) := by rw [e]; exact slice_lo p (d.length + 1)
  unfold Txt.startswith
  rw [StrLaws.subAt_eq, hl, List.drop_zero]
  show _ = (decide (0 + (d.length + 1) ≤ p.length) && ((LL p).take (d.length + 1) == LL (d ++ Str.ofString "/")))
  rw [← h1]
  by_cases h : LL (Txt.slice p none (some ((d.length : Int) + 1))) = LL (d ++ Str.ofString "/")
  · have h2 : d.length + 1 ≤ p.length := by
      have := congrArg List.length h
      rw [h1, ← LL_len (d ++ _), hl, List.length_take, ← LL_len] at this
      omega
    rw [beq_y h, h]
    simp [h2]
  · rw [beq_n h]
    have : (LL (Txt.slice p none (some ((d.length : Int) + 1))) == LL (d ++ Str.ofString "/")) = false := by simpa using h
    rw [this]
    simp
end Mine
end PartP2c

section PartN2g
open PySem PySem.W PyProof.Rows
set_option Elab.async false
set_option maxRecDepth 100000
set_option linter.unusedVariables false
namespace Mine
theorem freshN2g : True := by
  w_top off
  trivial
theorem names_use {w : World} {all : List (Addr × Obj)} {g : Obj → List (Addr × Obj)} {dG x dI dM aD : Addr} {o : Obj} {t1 t2 t3 : Tok} {n : Nat} {led : Bool} {l : List (Str × Tok)} {kvs : List (Str × Value)} {p md : Str} {tp tm : Tok}
    {mean : ExcName → Option Value} {mg mb : Str → Option Value} {dp un : Nat} {gd : Option (List Code)} {cn : Str} {cs : Scope} {a : Addr} {ccd : Value} {cl : List (Str × Addr)} {outer : List Env} {A₀ : Around} {base h₀ : Heap} {L : Addr} {m : Str → Option Value} {s : Shared} {Q E : Value → Shared → Prop}
    (B : Below A₀ base outer h₀) (F : Fr h₀ L s.heap m) (X : (hd.heap_39 w.params).In h₀) (N : News h₀ L s.heap all) (T : Top hd.view_39 (looseW hd.view_39 []) mean mg mb h₀) (hk : cs.kind = .function)
    (hd1 : dp + 2 < recursionLimit) (hu1 : un + 8 * 2 + 100 < cLine)
    (U : UpdF dG o all g) (hx : (x, instObj 79 dI) ∈ all)
    (hI : (dI, dictOf [{ hash := PyData.keyHash w.params (Str.ofString "_mods"), key := .str (Str.ofString "_mods") t1, val := .ref dM }, { hash := PyData.keyHash w.params (Str.ofString "_dirs"), key := .str (Str.ofString "_dirs") t2, val := .ref aD }, { hash := PyData.keyHash w.params (Str.ofString "_ignore"), key := .str (Str.ofString "_ignore") t3, val := .ref dG }] n) ∈ all)
    (hM : (dM, { cls := Value.type "set", data := Data.set #[] 0 (SetTable.fresh 0 0 led) }) ∈ all) (hD : (aD, LCg.lst (strValues l)) ∈ all)
    (nx : x ≠ dG) (nI : dI ≠ dG) (nM : dM ≠ dG) (nD : aD ≠ dG)
    (ho : o.IsDictOf (strKind PySem.Challenge.rw_nq0320_02.row.prog w) kvs) (hgs : (dG == sysModules) = false) (hmd : (valueAt kvs md).isSome = false) (hkl : kvs.length ≤ 1000) (hpl : p.length ≤ 7000) (hml : md.length ≤ 1000) (hll : l.length ≤ 1000) (hls : ∀ q ∈ l, q.1.length ≤ 6000)
    (hret : ∀ h' tk' t o' vv, Fr h₀ L h' m → News h₀ L h' (g o') → o'.IsDictOf (strKind PySem.Challenge.rw_nq0320_02.row.prog w) (stored kvs md vv) → Q (.int (if hitOf p (l.map (·.1)) = true then 1 else 0) t) { s with heap := h', toks := tk' }) :
    wpAny (model PySem.Challenge.rw_nq0320_02.row.prog w) (ktrTop dp un gd cn cs L a ccd cl outer) (call (.ref 76) [.ref x, .str p tp, .str md tm]) Q E s := by
  obtain ⟨pre, post, rfl, hg, ha, hb⟩ := U.split
  have hrest : ∀ q ∈ pre ++ post, q.1 ≠ dG := fun q hq => by
    rcases List.mem_append.mp hq with hq | hq
    · exact ha q hq
    · exact hb q hq
  have hin : ∀ q ∈ pre ++ post, q ∈ pre ++ (dG, o) :: post := fun q hq => by
    rcases List.mem_append.mp hq with hq | hq
    · exact List.mem_append_left _ hq
    · exact List.mem_append_right _ (.tail _ hq)
  refine Spec2.use (names_spec w (pre ++ post) dG x dI dM aD o t1 t2 t3 n led l kvs p md tp tm ho hgs hmd hkl hpl hml hll hls ?_) B F X ?_ T hk hd1 hu1 ?_
  · intro q hq
    rcases List.mem_cons.mp hq with rfl | hq
    · exact nx
    rcases List.mem_cons.mp hq with rfl | hq
    · exact nI
    rcases List.mem_cons.mp hq with rfl | hq
    · exact nM
    rcases List.mem_cons.mp hq with rfl | hq
    · exact nD
    exact hrest q hq
  · intro q hq
    rcases List.mem_cons.mp hq with rfl | hq
    · exact N _ (List.mem_append_right _ (.head _))
    rcases List.mem_cons.mp hq with rfl | hq
    · exact N _ hx
    rcases List.mem_cons.mp hq with rfl | hq
    · exact N _ hI
    rcases List.mem_cons.mp hq with rfl | hq
    · exact N _ hM
    rcases List.mem_cons.mp hq with rfl | hq
    · exact N _ hD
    exact N _ (hin q hq)
  · rintro v h' tk' news' F' N' ⟨t, o', vv, rfl, hdo, rfl⟩
    refine hret h' tk' t o' vv F' ?_ hdo
    rw [hg o']
    intro q hq
    rcases List.mem_append.mp hq with hq | hq
    · exact N' q (.tail _ (.tail _ (.tail _ (.tail _ (.tail _ (List.mem_append_left _ hq))))))
    · rcases List.mem_cons.mp hq with rfl | hq
      · exact N' _ (.head _)
      · exact N' q (.tail _ (.tail _ (.tail _ (.tail _ (.tail _ (List.mem_append_right _ hq))))))
theorem root_len (x : Str) : (rootOf x).length ≤ 2 := by
  unfold rootOf
  split
  · exact Nat.le_of_ble_eq_true rfl
  · split
    · exact Nat.le_of_ble_eq_true rfl
    · split
      · exact Nat.le_of_ble_eq_true rfl
      · rw [LL_len, show LL (Txt.slice x none (some 2)) = (LL x).take 2 from slice_lo x 2, List.length_take]
        omega
theorem tail_len (x : Str) : (tailOf x).length ≤ x.length := by
  have s4 : LL (Txt.slice x (some 1) none) = (LL x).drop 1 := slice_hi x 1
  have s5 : LL (Txt.slice x (some 2) none) = (LL x).drop 2 := slice_hi x 2
  unfold tailOf
  split
  · exact Nat.le_refl _
  · split
    · rw [LL_len, s4, LL_len, List.length_drop]; omega
    · split
      · rw [LL_len, s4, LL_len, List.length_drop]; omega
      · rw [LL_len, s5, LL_len, List.length_drop]; omega
theorem norm_len {x : Str} (h : x.length ≤ 1000) : (normOf x).length ≤ 3000 := by
  have h1 := root_len x
  have h2 := tail_len x
  have h3 : Weighs _ _ := fold_weighs (ini := rootOf x) (x := tailOf x)
  have h4 := StrLaws.join_length_le (Str.ofString "/") ((Txt.split (tailOf x) (Str.ofString "/")).foldl (stepN (rootOf x)) [])
  rw [← StrLaws.glued_eq_join] at h4
  unfold Weighs at h3
  have e1 : (Str.ofString "/").length = 1 := rfl
  rw [e1, Nat.mul_one] at h4
  unfold normOf
  split
  · exact Nat.le_of_ble_eq_true rfl
  · dsimp only
    split
    · exact Nat.le_of_ble_eq_true rfl
    · rw [LL_len, LL_app, List.length_append, ← LL_len, ← LL_len]
      have : (Txt.join (Str.ofString "/") ((Txt.split (tailOf x) (Str.ofString "/")).foldl (stepN (rootOf x)) [])).length = (Builtin.Str.glued (Str.ofString "/") ((Txt.split (tailOf x) (Str.ofString "/")).foldl (stepN (rootOf x)) [])).length := rfl
      omega
theorem plain_len {x : Str} (h : x.length ≤ 1000) : (plainOf x).length ≤ 3000 := norm_plain x ▸ norm_len h
/-- told and due agree -/
theorem hit_above (p : Str) (xs : List Str) : hitOf p (xs.map normOf) = (xs.map plainOf).any (fun one => Txt.slice p none (some ((one.length : Int) + 1)) == one ++ Str.ofString "/") := by
  have e : xs.map normOf = xs.map plainOf := List.map_congr_left fun x _ => norm_plain x
  rw [e]
  unfold hitOf
  congr 1
  funext d
  exact (start_slice p d).symm
end Mine
end PartN2g

section PartN2i
open PySem PySem.W PyProof.Rows
set_option Elab.async false
set_option maxRecDepth 100000
set_option linter.unusedVariables false
namespace Mine
theorem freshN2i : True := by
  w_top off
  trivial
def igDict (w : World) (t1 t2 t3 : Tok) (n : Nat) (dM D7 dG : Addr) : Obj := dictOf [{ hash := PyData.keyHash w.params (Str.ofString "_mods"), key := .str (Str.ofString "_mods") t1, val := .ref dM }, { hash := PyData.keyHash w.params (Str.ofString "_dirs"), key := .str (Str.ofString "_dirs") t2, val := .ref D7 }, { hash := PyData.keyHash w.params (Str.ofString "_ignore"), key := .str (Str.ofString "_ignore") t3, val := .ref dG }] n
structure Fix where
  w : World
  aDue : Addr
  aTold : Addr
  dG : Addr
  D7 : Addr
  dM : Addr
  x : Addr
  dI : Addr
  D8 : Addr
  D9 : Addr
  c0 : Addr
  t1 : Tok
  t2 : Tok
  t3 : Tok
  n : Nat
  led : Bool
  l : List (Str × Tok)
  l2 : List (Str × Tok)
  l3 : List (Str × Tok)
structure Var where
  rows : List Row
  o : Obj
  co : Obj
  n1 : Nat
  n2 : Nat
  kvs : List (Str × Value)
  v0 : Option Value
def ledB (f : Fix) (c : Var) : List (Addr × Obj) :=
  (f.aDue, listOf (refs2 c.rows).toArray c.n2) :: (f.aTold, listOf (refs1 c.rows).toArray c.n1) :: (f.dG, c.o) :: (f.D7, LCg.lst (strValues f.l3)) ::
    (f.dM, { cls := Value.type "set", data := Data.set #[] 0 (SetTable.fresh 0 0 f.led) }) :: (f.x, instObj 79 f.dI) ::
    (f.dI, dictOf [{ hash := PyData.keyHash f.w.params (Str.ofString "_mods"), key := .str (Str.ofString "_mods") f.t1, val := .ref f.dM }, { hash := PyData.keyHash f.w.params (Str.ofString "_dirs"), key := .str (Str.ofString "_dirs") f.t2, val := .ref f.D7 }, { hash := PyData.keyHash f.w.params (Str.ofString "_ignore"), key := .str (Str.ofString "_ignore") f.t3, val := .ref f.dG }] f.n) ::
    (f.D8, LCg.lst (strValues f.l2)) :: (f.D9, LCg.lst (strValues f.l)) :: (f.c0, c.co) :: rowsLed c.rows
def keyOf (k : Nat) : Str := Str.ofString "m" ++ Str.ofString (toString (k : Int))
structure Good (f : Fix) (c : Var) : Prop where
  hi : ∀ r ∈ c.rows, @LT.lt Nat _ f.aDue r.T1 ∧ @LT.lt Nat _ f.aDue r.T2 ∧ @Ne Nat r.T1 r.T2
  told : ∀ r ∈ c.rows, r.u = if hitOf r.p (f.l3.map (·.1)) = true then 1 else 0
  due : ∀ r ∈ c.rows, r.v = if (f.l2.map (·.1)).any (fun one => Txt.slice r.p none (some ((one.length : Int) + 1)) == one ++ Str.ofString "/") = true then 1 else 0
  dict : c.o.IsDictOf (strKind PySem.Challenge.rw_nq0320_02.row.prog f.w) c.kvs
  keys : c.kvs.map (·.1) = Str.ofString "<string>" :: (List.range c.rows.length).map keyOf
  cell : c.co.data = .cell c.v0
theorem keys_dec : ∀ n : Nat, n < 44 → keyOf n ∉ Str.ofString "<string>" :: (List.range n).map keyOf := by decide +kernel
theorem key_new {kvs : List (Str × Value)} {n : Nat} (hk : kvs.map (·.1) = Str.ofString "<string>" :: (List.range n).map keyOf) (hn : n < 44) : (valueAt kvs (keyOf n)).isSome = false := by
  have h := keys_dec n hn
  rw [← hk] at h
  unfold valueAt
  rw [Option.isSome_map, List.find?_eq_none.mpr]
  · rfl
  · intro kv hkv
    simp only [decide_eq_true_eq]
    exact fun e => h (e ▸ List.mem_map.mpr ⟨kv, hkv, rfl⟩)
theorem key_next {kvs : List (Str × Value)} {n : Nat} (hk : kvs.map (·.1) = Str.ofString "<string>" :: (List.range n).map keyOf) (hn : n < 44) (vv : Value) :
    (stored kvs (keyOf n) vv).map (·.1) = Str.ofString "<string>" :: (List.range (n + 1)).map keyOf := by
  have h := keys_dec n hn
  rw [← hk] at h
  unfold stored
  rw [if_neg]
  · rw [List.map_append, hk, List.range_succ, List.map_append]; rfl
  · intro hany
    obtain ⟨kv, hkv, e⟩ := List.any_eq_true.mp hany
    simp only [decide_eq_true_eq] at e
    exact h (e ▸ List.mem_map.mpr ⟨kv, hkv, rfl⟩)
theorem rowsLed_app : ∀ (rows : List Row) (r : Row), rowsLed (rows ++ [r]) = rowsLed rows ++ [(r.T1, r.o1), (r.T2, r.o2)]
  | [], _ => rfl
  | q :: rows, r => by show _ :: _ :: rowsLed (rows ++ [r]) = _; rw [rowsLed_app rows r]; rfl
theorem rowsLed_of (rows : List Row) : ∀ p ∈ rowsLed rows, ∃ r ∈ rows, p = (r.T1, r.o1) ∨ p = (r.T2, r.o2) := by
  induction rows with
  | nil => intro p h; cases h
  | cons r rows ih =>
    intro p h
    rcases List.mem_cons.mp h with e | h
    · exact ⟨r, List.mem_cons_self, Or.inl e⟩
    · rcases List.mem_cons.mp h with e | h
      · exact ⟨r, List.mem_cons_self, Or.inr e⟩
      · obtain ⟨q, hq, e⟩ := ih p h
        exact ⟨q, List.mem_cons_of_mem _ hq, e⟩
theorem Good.off {f : Fix} {c : Var} (h : Good f c) {D : Nat} (hD : D ≤ f.aDue) : ∀ p ∈ rowsLed c.rows, p.1 ≠ D := by
  intro p hp
  obtain ⟨r, hr, e⟩ := rowsLed_of _ p hp
  have := h.hi r hr
  rcases e with rfl | rfl
  · exact Nat.ne_of_gt (Nat.lt_of_le_of_lt hD this.1)
  · exact Nat.ne_of_gt (Nat.lt_of_le_of_lt hD this.2.1)
end Mine
end PartN2i

section PartN2j
open PySem PySem.W PyProof.Rows
set_option Elab.async false
set_option maxRecDepth 100000
set_option linter.unusedVariables false
namespace Mine
theorem freshN2j : True := by
  w_top off
  trivial
abbrev chain5 (m₁ m₀ : Str → Option Value) : Str → Option Value := fun y => if y = Str.ofString "place" then m₁ y else if y = Str.ofString "text" then m₁ y else if y = Str.ofString "short" then m₁ y else if y = Str.ofString "answer" then m₁ y else if y = Str.ofString "above" then m₁ y else m₀ y
abbrev chain2 (m₁ m₀ : Str → Option Value) : Str → Option Value := fun y => if y = Str.ofString "answer" then m₁ y else if y = Str.ofString "above" then m₁ y else m₀ y
def Off5 (m m₀ : Str → Option Value) : Prop := ∀ y, y ≠ Str.ofString "place" → y ≠ Str.ofString "text" → y ≠ Str.ofString "short" → y ≠ Str.ofString "answer" → y ≠ Str.ofString "above" → m y = m₀ y
def Off2 (m m₀ : Str → Option Value) : Prop := ∀ y, y ≠ Str.ofString "answer" → y ≠ Str.ofString "above" → m y = m₀ y
theorem Off5.eq {m m₀ : Str → Option Value} (h : Off5 m m₀) : m = chain5 m m₀ := by
  funext y
  unfold chain5
  split
  · rfl
  split
  · rfl
  split
  · rfl
  split
  · rfl
  split
  · rfl
  exact h y (by assumption) (by assumption) (by assumption) (by assumption) (by assumption)
theorem Off2.eq {m m₀ : Str → Option Value} (h : Off2 m m₀) : m = chain2 m m₀ := by
  funext y
  unfold chain2
  split
  · rfl
  split
  · rfl
  exact h y (by assumption) (by assumption)
def Rest5 (f : Fix) (m₀ : Str → Option Value) (k : Nat) (m : Str → Option Value) (nx : List (Addr × Obj)) : Prop := ∃ c, nx = ledB f c ∧ c.rows.length = k ∧ Good f c ∧ Off5 m m₀
def Rest2 (f : Fix) (pre : List (Addr × Obj)) (I : Addr) (m₀ : Str → Option Value) (k : Nat) (m : Str → Option Value) (nx : List (Addr × Obj)) : Prop := ∃ c, nx = pre ++ ledB f c ∧ c.rows.length = k ∧ Good f c ∧ Off2 m m₀ ∧ ∀ p ∈ ledB f c, p.1 ≠ I ∧ p.1 ≠ I + 1
section
variable {prog : Program} {w : World} {A : Around} {E : Value → Shared → Prop} {s : Shared} {env : Env} {h₀ : Heap} {body : List Stmt} {Q : Flow → Shared → Prop}
theorem enum_rows {elts : List Expr} {k : Nat} {pos : Pos} {m₀ : Str → Option Value} {news : List (Addr × Obj)} (f : Fix) (c₀ : Var)
    (hh : A.handled = none) (F : Fr h₀ env.locals s.heap m₀) (N : News h₀ env.locals s.heap news) (hN : ∀ p ∈ ledB f c₀, p ∈ news) (hr : c₀.rows = []) (hg : Good f c₀)
    (turn : ∀ i q u T t m₁ c h tk I o1 o2, f.l[i]? = some (q, u) → i < f.l.length → c.rows.length = 4 * i → Good f c → (∀ p ∈ ledB f c, p.1 ≠ I ∧ p.1 ≠ I + 1) → IsTup h T #[.int (i : Int) t, .str q u] → Fr h₀ env.locals h (chain5 m₁ m₀) → News h₀ env.locals h ((I + 1, o1) :: (I, o2) :: ledB f c) →
      wpAny (model prog w) A (assign (.Tuple elts k pos) env (.ref T)) (fun _ s₂ => wpAny (model prog w) A (execs body env) (EnumPost h₀ env.locals I o1 o2 (Rest5 f m₀ (4 * (i + 1))) Q s) E s₂) E { s with heap := h, toks := tk })
    (done : ∀ m₁ c h tk, c.rows.length = 4 * f.l.length → Good f c → Fr h₀ env.locals h (chain5 m₁ m₀) → News h₀ env.locals h (ledB f c) → Q .next { s with heap := h, toks := tk }) :
    wpAny (model prog w) A (call (.type "enumerate") [.ref f.D9]) (fun xv s₁ => wpAny (model prog w) A (pyIter xv) (fun it s₂ => TurnsAt prog w A h₀ env (.Tuple elts k pos) body Q E it s₂) E s₁) E s := by
  refine enum_list (vs := strValues f.l) (n := (strValues f.l).length) (news := ledB f c₀) (m₀ := m₀) (fun i m nx => Rest5 f m₀ (4 * i) m nx) hh ?_ F (fun p hp => N p (hN p hp)) ⟨c₀, rfl, by rw [hr]; rfl, hg, fun _ _ _ _ _ _ => rfl⟩ ?_ ?_
  · rintro i m nx ⟨c, rfl, _⟩
    exact .tail _ (.tail _ (.tail _ (.tail _ (.tail _ (.tail _ (.tail _ (.tail _ (.head _))))))))
  · rintro i v T t m₁ nx h tk I o1 o2 hv ⟨c, rfl, hl, hgc, hm⟩ hne hT F' N'
    obtain ⟨q, u, hq, rfl⟩ : ∃ q u, f.l[i]? = some (q, u) ∧ v = .str q u := by
      simp only [strValues, List.getElem?_map] at hv
      cases hq : f.l[i]? with
      | none => rw [hq] at hv; cases hv
      | some q => rw [hq] at hv; exact ⟨q.1, q.2, rfl, (Option.some.inj hv).symm⟩
    rw [hm.eq] at F'
    exact turn i q u T t m₁ c h tk I o1 o2 hq (List.getElem?_eq_some_iff.mp hq).1 hl hgc hne hT F' N'
  · rintro m₁ nx h tk ⟨c, rfl, hl, hgc, hm⟩ F' N'
    rw [hm.eq] at F'
    rw [strValues_len] at hl
    exact done m₁ c h tk hl hgc F' N'
theorem for_rows {target : Expr} {m₀ : Str → Option Value} {news : List (Addr × Obj)} (f : Fix) (c₀ : Var) (k0 : Nat) {I l4 : Addr} {o1 o2 : Obj} {four : List (Str × Tok)} {n4 : Nat}
    (hh : A.handled = none) (F : Fr h₀ env.locals s.heap m₀) (N : News h₀ env.locals s.heap news) (hN : ∀ p ∈ [(l4, listOf (strValues four).toArray n4), (I + 1, o1), (I, o2)] ++ ledB f c₀, p ∈ news) (hr : c₀.rows.length = k0) (hg : Good f c₀) (hoI : ∀ p ∈ ledB f c₀, p.1 ≠ I ∧ p.1 ≠ I + 1) (hE : PassesOwn (model prog w) A env E)
    (turn : ∀ j q u m₁ c h tk I2 io, four[j]? = some (q, u) →  c.rows.length = k0 + j → Good f c → (∀ p ∈ ledB f c, p.1 ≠ I ∧ p.1 ≠ I + 1) → (∀ p ∈ [(l4, listOf (strValues four).toArray n4), (I + 1, o1), (I, o2)] ++ ledB f c, p.1 ≠ I2) → Fr h₀ env.locals h (chain2 m₁ m₀) → News h₀ env.locals h ((I2, io) :: ([(l4, listOf (strValues four).toArray n4), (I + 1, o1), (I, o2)] ++ ledB f c)) →
      wpAny (model prog w) A (assign target env (.str q u)) (fun _ s₂ => wpAny (model prog w) A (execs body env) (TurnPost h₀ env.locals I2 io (Rest2 f [(l4, listOf (strValues four).toArray n4), (I + 1, o1), (I, o2)] I m₀ (k0 + (j + 1))) Q s) E s₂) E { s with heap := h, toks := tk })
    (done : ∀ m₁ c h tk, c.rows.length = k0 + four.length → Good f c → (∀ p ∈ ledB f c, p.1 ≠ I ∧ p.1 ≠ I + 1) → Fr h₀ env.locals h (chain2 m₁ m₀) → News h₀ env.locals h ([(l4, listOf (strValues four).toArray n4), (I + 1, o1), (I, o2)] ++ ledB f c) → Q .next { s with heap := h, toks := tk }) :
    wpAny (model prog w) A (pyIter (.ref l4)) (fun it s₂ => codeAny (model prog w) A (.forLoop target it body [] env) (fun r s' => match r with | .ok f => Q f s' | .error e => cameBackBy (model prog w) A env E e s') s₂) E s := by
  refine for_list (vs := strValues four) (nn := n4) (news := [(l4, listOf (strValues four).toArray n4), (I + 1, o1), (I, o2)] ++ ledB f c₀) (m₀ := m₀) (fun j m nx => Rest2 f [(l4, listOf (strValues four).toArray n4), (I + 1, o1), (I, o2)] I m₀ (k0 + j) m nx) hh ?_ F (fun p hp => N p (hN p hp)) ⟨c₀, rfl, hr, hg, fun _ _ _ => rfl, hoI⟩ hE ?_ ?_
  · rintro i m nx ⟨c, rfl, _⟩
    exact .head _
  · rintro i v m₁ nx h tk I2 io hv ⟨c, rfl, hl, hgc, hm, hoc⟩ hne F' N'
    obtain ⟨q, u, hq, rfl⟩ : ∃ q u, four[i]? = some (q, u) ∧ v = .str q u := by
      simp only [strValues, List.getElem?_map] at hv
      cases hq : four[i]? with
      | none => rw [hq] at hv; cases hv
      | some q => rw [hq] at hv; exact ⟨q.1, q.2, rfl, (Option.some.inj hv).symm⟩
    rw [hm.eq] at F'
    exact turn i q u m₁ c h tk I2 io hq hl hgc hoc hne F' N'
  · rintro m₁ nx h tk ⟨c, rfl, hl, hgc, hm, hoc⟩ F' N'
    rw [hm.eq] at F'
    rw [strValues_len] at hl
    exact done m₁ c h tk hl hgc hoc F' N'
end
theorem led_13 {w : World} {aDue aTold dG D7 dM x dI D8 D9 q1 q2 q3 c0 : Addr} {o co b1 b2 b3 : Obj} {t1 t2 t3 : Tok} {n : Nat} {led : Bool} {l l2 l3 : List (Str × Tok)} {kvs : List (Str × Value)} {v0 : Option Value} :
    ∀ p ∈ ledB ⟨w, aDue, aTold, dG, D7, dM, x, dI, D8, D9, c0, t1, t2, t3, n, led, l, l2, l3⟩ ⟨[], o, co, 0, 0, kvs, v0⟩, p ∈ [(aDue, listOf #[] 0), (aTold, listOf #[] 0), (dG, o), (D7, LCg.lst (strValues l3)), (dM, { cls := Value.type "set", data := Data.set #[] 0 (SetTable.fresh 0 0 led) }), (x, instObj 79 dI),
      (dI, dictOf [{ hash := PyData.keyHash w.params (Str.ofString "_mods"), key := .str (Str.ofString "_mods") t1, val := .ref dM }, { hash := PyData.keyHash w.params (Str.ofString "_dirs"), key := .str (Str.ofString "_dirs") t2, val := .ref D7 }, { hash := PyData.keyHash w.params (Str.ofString "_ignore"), key := .str (Str.ofString "_ignore") t3, val := .ref dG }] n),
      (D8, LCg.lst (strValues l2)), (D9, LCg.lst (strValues l)), (q1, b1), (q2, b2), (q3, b3), (c0, co)] := by
  intro p hp
  simp only [ledB, refs1, refs2, List.map_nil, rowsLed, List.mem_cons, List.not_mem_nil, or_false] at hp ⊢
  exact (fun h => h.imp id (fun h => h.imp id (fun h => h.imp id (fun h => h.imp id (fun h => h.imp id (fun h => h.imp id (fun h => h.imp id (fun h => h.imp id (fun h => h.imp id (fun h => .inr (.inr (.inr h)))))))))))) hp
theorem Good.offs {f : Fix} {c : Var} (h : Good f c) (h1 : @LE.le Nat _ f.aTold f.aDue) (h2 : @LE.le Nat _ f.dG f.aDue) (h3 : @LE.le Nat _ f.c0 f.aDue) :
    (∀ p ∈ rowsLed c.rows, p.1 ≠ f.aDue) ∧ (∀ p ∈ rowsLed c.rows, p.1 ≠ f.aTold) ∧ (∀ p ∈ rowsLed c.rows, p.1 ≠ f.dG) ∧ (∀ p ∈ rowsLed c.rows, p.1 ≠ f.c0) :=
  ⟨h.off (Nat.le_refl _), h.off h1, h.off h2, h.off h3⟩
def ledT (f : Fix) (x2 x1 : List Value) (n2 n1 : Nat) (o co : Obj) (rows : List Row) : List (Addr × Obj) :=
  (f.aDue, listOf x2.toArray n2) :: (f.aTold, listOf x1.toArray n1) :: (f.dG, o) :: (f.D7, LCg.lst (strValues f.l3)) ::
    (f.dM, { cls := Value.type "set", data := Data.set #[] 0 (SetTable.fresh 0 0 f.led) }) :: (f.x, instObj 79 f.dI) ::
    (f.dI, dictOf [{ hash := PyData.keyHash f.w.params (Str.ofString "_mods"), key := .str (Str.ofString "_mods") f.t1, val := .ref f.dM }, { hash := PyData.keyHash f.w.params (Str.ofString "_dirs"), key := .str (Str.ofString "_dirs") f.t2, val := .ref f.D7 }, { hash := PyData.keyHash f.w.params (Str.ofString "_ignore"), key := .str (Str.ofString "_ignore") f.t3, val := .ref f.dG }] f.n) ::
    (f.D8, LCg.lst (strValues f.l2)) :: (f.D9, LCg.lst (strValues f.l)) :: (f.c0, co) :: rowsLed rows
theorem ledB_T (f : Fix) (c : Var) : ledB f c = ledT f (refs2 c.rows) (refs1 c.rows) c.n2 c.n1 c.o c.co c.rows := rfl
theorem led_new (f : Fix) (rows : List Row) (r : Row) (o co : Obj) (n1 n2 : Nat) (kvs : List (Str × Value)) (v0 : Option Value) :
    ledB f ⟨rows ++ [r], o, co, n1, n2, kvs, v0⟩ = ledT f (refs2 rows ++ [.ref r.T2]) (refs1 rows ++ [.ref r.T1]) n2 n1 o co rows ++ [(r.T1, r.o1), (r.T2, r.o2)] := by
  rw [ledB_T]
  dsimp only
  have e2 : refs2 (rows ++ [r]) = refs2 rows ++ [.ref r.T2] := by simp [refs2]
  have e1 : refs1 (rows ++ [r]) = refs1 rows ++ [.ref r.T1] := by simp [refs1]
  rw [e1, e2]
  unfold ledT
  rw [rowsLed_app]
  rfl
theorem turn_led {f : Fix} {rows : List Row} {r : Row} {o co : Obj} {n1 n2 : Nat} {kvs : List (Str × Value)} {v0 : Option Value} {all : List (Addr × Obj)} {pre : List (Addr × Obj)}
    (hall : ∀ p ∈ pre ++ ledT f (refs2 rows ++ [.ref r.T2]) (refs1 rows ++ [.ref r.T1]) n2 n1 o co rows, p ∈ all) (h1 : (r.T1, r.o1) ∈ all) (h2 : (r.T2, r.o2) ∈ all) :
    ∀ p ∈ pre ++ ledB f ⟨rows ++ [r], o, co, n1, n2, kvs, v0⟩, p ∈ all := by
  intro p hp
  rw [led_new, ← List.append_assoc] at hp
  rcases List.mem_append.mp hp with hp | hp
  · exact hall p hp
  · rcases List.mem_cons.mp hp with rfl | hp
    · exact h1
    · rcases List.mem_singleton.mp hp with rfl
      exact h2
theorem led_addr {f : Fix} {c : Var} {r : Row} {o co : Obj} {n1 n2 : Nat} {kvs : List (Str × Value)} {v0 : Option Value} {P : Addr → Prop}
    (h : ∀ p ∈ ledB f c, P p.1) (h1 : P r.T1) (h2 : P r.T2) : ∀ p ∈ ledB f ⟨c.rows ++ [r], o, co, n1, n2, kvs, v0⟩, P p.1 := by
  intro p hp
  rw [led_new] at hp
  rcases List.mem_append.mp hp with hp | hp
  · have e : (ledT f (refs2 c.rows ++ [.ref r.T2]) (refs1 c.rows ++ [.ref r.T1]) n2 n1 o co c.rows).map (·.1) = (ledB f c).map (·.1) := rfl
    have : p.1 ∈ (ledB f c).map (·.1) := e ▸ List.mem_map.mpr ⟨p, hp, rfl⟩
    obtain ⟨q, hq, hqe⟩ := List.mem_map.mp this
    rw [← hqe]
    exact h q hq
  · rcases List.mem_cons.mp hp with rfl | hp
    · exact h1
    · rcases List.mem_singleton.mp hp with rfl
      exact h2
theorem led_addr_pre {f : Fix} {c : Var} {r : Row} {o co : Obj} {n1 n2 : Nat} {kvs : List (Str × Value)} {v0 : Option Value} {pre : List (Addr × Obj)} {P : Addr → Prop}
    (h : ∀ p ∈ pre ++ ledB f c, P p.1) (h1 : P r.T1) (h2 : P r.T2) : ∀ p ∈ pre ++ ledB f ⟨c.rows ++ [r], o, co, n1, n2, kvs, v0⟩, P p.1 := by
  intro p hp
  rcases List.mem_append.mp hp with hp | hp
  · exact h p (List.mem_append_left _ hp)
  · exact led_addr (fun p hp => h p (List.mem_append_right _ hp)) h1 h2 p hp
theorem good_next {f : Fix} {c : Var} (hg : Good f c) {r : Row} {o co : Obj} {n1 n2 : Nat} {v0 : Option Value} {vv : Value}
    (hT1 : @LT.lt Nat _ f.aDue r.T1) (hT2 : @LT.lt Nat _ f.aDue r.T2) (hne : @Ne Nat r.T1 r.T2)
    (hu : r.u = if hitOf r.p (f.l3.map (·.1)) = true then 1 else 0)
    (hv : r.v = if (f.l2.map (·.1)).any (fun one => Txt.slice r.p none (some ((one.length : Int) + 1)) == one ++ Str.ofString "/") = true then 1 else 0)
    (hn : c.rows.length < 44) (hd : o.IsDictOf (strKind PySem.Challenge.rw_nq0320_02.row.prog f.w) (stored c.kvs (keyOf c.rows.length) vv)) (hc : co.data = .cell v0) :
    Good f ⟨c.rows ++ [r], o, co, n1, n2, stored c.kvs (keyOf c.rows.length) vv, v0⟩ := by
  refine ⟨?_, ?_, ?_, hd, ?_, hc⟩
  · intro q hq
    rcases List.mem_append.mp hq with hq | hq
    · exact hg.hi q hq
    · rcases List.mem_singleton.mp hq with rfl
      exact ⟨hT1, hT2, hne⟩
  · intro q hq
    rcases List.mem_append.mp hq with hq | hq
    · exact hg.told q hq
    · rcases List.mem_singleton.mp hq with rfl
      exact hu
  · intro q hq
    rcases List.mem_append.mp hq with hq | hq
    · exact hg.due q hq
    · rcases List.mem_singleton.mp hq with rfl
      exact hv
  · dsimp only
    rw [key_next hg.keys hn vv, List.length_append]
    rfl
theorem turn_end {h₀ : Heap} {L I I2 : Addr} {io : Obj} {Q : Flow → Shared → Prop} {s : Shared} {f : Fix} {c : Var} {pre all : List (Addr × Obj)} {m₀ m' : Str → Option Value} {h' : Heap} {tk k : Nat} (r : Row) {o co : Obj} {v0 : Option Value} {vv : Value} {n1 n2 : Nat}
    (F : Fr h₀ L h' m') (N : News h₀ L h' all)
    (hall : ∀ p ∈ (I2, io) :: (pre ++ ledT f (refs2 c.rows ++ [.ref r.T2]) (refs1 c.rows ++ [.ref r.T1]) n2 n1 o co c.rows), p ∈ all)
    (h1 : (r.T1, r.o1) ∈ all) (h2 : (r.T2, r.o2) ∈ all)
    (hoff : ∀ p ∈ pre ++ ledB f c, p.1 ≠ I2) (hoc : ∀ p ∈ ledB f c, p.1 ≠ I ∧ p.1 ≠ I + 1)
    (a1 : @LT.lt Nat _ f.aDue r.T1) (a2 : @LT.lt Nat _ r.T1 r.T2) (a3 : @LT.lt Nat _ I2 r.T1) (a4 : @LT.lt Nat _ (I + 1) r.T1)
    (hg : Good f c)
    (hu : r.u = if hitOf r.p (f.l3.map (·.1)) = true then 1 else 0)
    (hv : r.v = if (f.l2.map (·.1)).any (fun one => Txt.slice r.p none (some ((one.length : Int) + 1)) == one ++ Str.ofString "/") = true then 1 else 0)
    (hn : c.rows.length < 44) (hd : o.IsDictOf (strKind PySem.Challenge.rw_nq0320_02.row.prog f.w) (stored c.kvs (keyOf c.rows.length) vv)) (hc : co.data = .cell v0)
    (hk : c.rows.length + 1 = k) (hm : Off2 m' m₀) :
    TurnPost h₀ L I2 io (Rest2 f pre I m₀ k) Q s .next { s with heap := h', toks := tk } := by
  refine TurnPost.next F N (turn_led (pre := (I2, io) :: pre) hall h1 h2) ?_ ⟨⟨c.rows ++ [r], o, co, n1, n2, stored c.kvs (keyOf c.rows.length) vv, v0⟩, rfl, ?_, ?_, hm, ?_⟩
  · exact led_addr_pre (P := fun a => a ≠ I2) hoff (Nat.ne_of_gt a3) (Nat.ne_of_gt (Nat.lt_trans a3 a2))
  · dsimp only; rw [List.length_append]; exact hk
  · exact good_next hg a1 (Nat.lt_trans a1 a2) (Nat.ne_of_lt a2) hu hv hn hd hc
  · have b1 : @LT.lt Nat _ I r.T1 := Nat.lt_trans (Nat.lt_succ_self _) a4
    exact led_addr (P := fun a => a ≠ I ∧ a ≠ I + 1) hoc ⟨Nat.ne_of_gt b1, Nat.ne_of_gt a4⟩ ⟨Nat.ne_of_gt (Nat.lt_trans b1 a2), Nat.ne_of_gt (Nat.lt_trans a4 a2)⟩
theorem rows_same {f : Fix} {c : Var} {xs : List Str} (hg : Good f c) (h3 : f.l3.map (·.1) = xs.map normOf) (h2 : f.l2.map (·.1) = xs.map plainOf) : ∀ r ∈ c.rows, r.u = r.v := by
  intro r hr
  rw [hg.told r hr, hg.due r hr, h3, h2, hit_above]
theorem turn_endB {h₀ : Heap} {L I I2 : Addr} {io : Obj} {Q : Flow → Shared → Prop} {s : Shared} {f : Fix} {c : Var} {pre all : List (Addr × Obj)} {m₀ m' : Str → Option Value} {h' : Heap} {tk k : Nat} {T1 T2 : Addr} {q : Str} {ta tb tc td : Tok} {u v : Int} {o co : Obj} {v0 : Option Value} {vv : Value} {n1 n2 : Nat}
    (F : Fr h₀ L h' m') (N : News h₀ L h' all)
    (hall : ∀ p ∈ (I2, io) :: (pre ++ ledT f (refs2 c.rows ++ [.ref T2]) (refs1 c.rows ++ [.ref T1]) n2 n1 o co c.rows), p ∈ all)
    (h1 : (T1, ({ cls := .type "tuple", data := .seq #[.str q ta, .int u tb, .bool true] } : Obj)) ∈ all) (h2 : (T2, ({ cls := .type "tuple", data := .seq #[.str q tc, .int v td, .bool true] } : Obj)) ∈ all)
    (hoff : ∀ p ∈ pre ++ ledB f c, p.1 ≠ I2) (hoc : ∀ p ∈ ledB f c, p.1 ≠ I ∧ p.1 ≠ I + 1)
    (a1 : @LT.lt Nat _ f.aDue T1) (a2 : @LT.lt Nat _ T1 T2) (a3 : @LT.lt Nat _ I2 T1) (a4 : @LT.lt Nat _ (I + 1) T1)
    (hg : Good f c)
    (hu : u = if hitOf q (f.l3.map (·.1)) = true then 1 else 0)
    (hv : v = if (f.l2.map (·.1)).any (fun one => Txt.slice q none (some ((one.length : Int) + 1)) == one ++ Str.ofString "/") = true then 1 else 0)
    (hn : c.rows.length < 44) (hd : o.IsDictOf (strKind PySem.Challenge.rw_nq0320_02.row.prog f.w) (stored c.kvs (keyOf c.rows.length) vv)) (hc : co.data = .cell v0)
    (hk : c.rows.length + 1 = k) (hm : Off2 m' m₀) :
    TurnPost h₀ L I2 io (Rest2 f pre I m₀ k) Q s .next { s with heap := h', toks := tk } :=
  turn_end ⟨T1, T2, q, ta, tb, tc, td, u, v⟩ F N hall h1 h2 hoff hoc a1 a2 a3 a4 hg hu hv hn hd hc hk hm
end Mine
end PartN2j

section PartN2h
open PySem PySem.W PyProof.Rows
set_option Elab.async false
set_option maxRecDepth 100000
set_option maxHeartbeats 4000000
set_option linter.unusedVariables false
namespace Mine
theorem freshN2h : True := by
  w_top off
  trivial
local macro_rules | `(tactic| walk_at "CompSrc") => `(tactic| (k_here; (refine of_stop ?_)))
local macro_rules | `(tactic| walk_at "call ref") => `(tactic| (k_here; (with_reducible show wpAny _ _ (call (Value.ref 88) [Value.int _ _]) _ _ _); k_dflt (refine' Spec2.use (lawtext_spec _ _ _ _) ?B ?F ?X ?N ?T ?hk ?d ?u ?_; (case B => k_asm); (case F => k_asm); (case X => k_asm); (case N => k_asm); (case T => k_asm); (case hk => first | exact rfl | assumption); (case d => ktr_room); (case u => ktr_units); k_whole; intro v9 h' tk' news9 F' N9 ⟨⟨t1, e9⟩, e8⟩; subst e9; subst e8; (try dsimp only); (try k_fold))))
local macro_rules | `(tactic| walk_at "call ref") => `(tactic| (k_here; (with_reducible show wpAny _ _ (call (Value.ref 93) [Value.str _ _]) _ _ _); k_dflt (refine' Spec2.use (lawplain_spec _ _ _ _ ?hp) ?B ?F ?X ?N ?T ?hk ?d ?u ?_; (case B => k_asm); (case F => k_asm); (case X => k_asm); (case N => k_asm); (case T => k_asm); (case hk => first | exact rfl | assumption); (case d => ktr_room); (case u => ktr_units); (case hp => omega); k_whole; intro v9 h' tk' news9 F' N9 ⟨⟨t1, e9⟩, e8⟩; subst e9; subst e8; (try dsimp only); (try k_fold))))
local macro_rules | `(tactic| walk_at "call ref") => `(tactic| (k_here; (with_reducible show wpAny _ _ (call (Value.ref 56) [Value.str _ _]) _ _ _); k_dflt (refine' Spec2.use (osnorm_spec _ _ _ _ ?hp) ?B ?F ?X ?N ?T ?hk ?d ?u ?_; (case B => k_asm); (case F => k_asm); (case X => k_asm); (case N => k_asm); (case T => k_asm); (case hk => first | exact rfl | assumption); (case d => ktr_room); (case u => (simp only [units_under_make, units_in1, units_deeper, units_caller, cLine]; omega)); (case hp => omega); k_whole; intro v9 h' tk' news9 F' N9 ⟨⟨t1, e9⟩, z9, e8⟩; subst e9; subst e8; (try dsimp only); (try k_fold))))
theorem addrs_of {h₀ : Heap} {L : Addr} {h : Heap} {l : List (Addr × Obj)} (N : News h₀ L h l) : ∃ as, as = l.map (·.1) := ⟨_, rfl⟩
local macro_rules | `(tactic| walk_at "exec For Tuple Call") => `(tactic| (refine of_stop ?_))
local macro_rules | `(tactic| walk_at "call type:enumerate") => `(tactic| (refine of_stop ?_))
theorem strs_true {prog : Program} {w : World} {A : Around} {E : Value → Shared → Prop} {s : Shared} {h₀ : Heap} {L D : Addr} {news : List (Addr × Obj)} {acc : List (Str × Tok)} {n : Nat} {Q : Bool → Shared → Prop} (N : News h₀ L s.heap news) (hm : (D, listOf (strValues acc).toArray n) ∈ news) (hz : acc.length ≤ 100000) (hne : acc ≠ [])
    (h : ∀ tk, Q true { s with toks := tk }) : wpAny (model prog w) A (truthy (.ref D)) Q E s :=
  strs_truthy N hm hz fun tk => by rw [decide_eq_true hne]; exact h tk
local macro_rules | `(tactic| walk_at "truthy ref") => `(tactic| (k_here; (with_reducible show wpAny _ _ (truthy (Value.ref _)) _ _ _); k_dflt (refine' strs_true ?N ?m ?z ?e ?_; (case N => k_asm); (case m => k_mem); (case z => omega); (case e => assumption); k_whole; intro tk9)))
theorem strs_atB {prog : Program} {w : World} {A : Around} {E : Value → Shared → Prop} {s : Shared} {h₀ : Heap} {L D : Addr} {news : List (Addr × Obj)} {l : List (Str × Tok)} {n : Nat} {Q : Value → Shared → Prop} {value slice : Expr} {u : Tok} {j : Int} (N : News h₀ L s.heap news) (hm : (D, listOf (strValues l).toArray n) ∈ news) (h0 : 0 ≤ j) (h1 : j < l.length) (hz : l.length ≤ 100000) (hB : ∀ p ∈ l, p.1.length ≤ 3000)
    (h : ∀ q t, l[j.toNat]? = some (q, t) → q.length ≤ 3000 → Q (.str q t) s) (hs : subscripted slice false (.ref D) (.int j u) = operate [.ref D, .int j u] (getItem (.ref D) (.int j u))) :
    wpAny (model prog w) A (subscriptTail value slice (.ref D) (.int j u)) Q E s :=
  strs_at N hm h0 h1 hz (fun q t e => h q t e (hB _ (List.mem_of_getElem? e))) hs
local macro_rules | `(tactic| walk_at "subscriptTail Name Name ref int") => `(tactic| (k_here; k_dflt (refine' strs_atB ?N ?m ?a ?b ?z ?B ?_ ?s; (case N => k_asm); (case m => k_mem); (case a => omega); (case b => omega); (case z => omega); (case B => assumption); (case s => with_unfolding_all rfl); k_whole; intro q9 t9 e9 b9)))
local macro_rules | `(tactic| walk_at "exec For Name List cons nil") => `(tactic| (refine of_stop ?_))
local macro_rules | `(tactic| k_all) => `(tactic| assumption)
local macro_rules | `(tactic| walk_at "CompSrcT") => `(tactic| (k_here; (refine of_stop ?_)))
local macro_rules | `(tactic| walk_at "call builtin:len") => `(tactic| (k_here; (with_reducible show wpAny _ _ (call (Value.builtin "len") [Value.ref _]) _ _ _); k_dflt (refine' vals_len ?N ?m ?z ?_; (case N => k_asm); (case m => k_mem); (case z => (rw [refs1_len]; omega)); k_whole; intro t9 k9)))
local macro_rules | `(tactic| walk_at "call ref") => `(tactic| (k_here; (with_reducible show wpAny _ _ (call (Value.ref 76) [Value.ref _, Value.str _ _, Value.str _ _]) _ _ _); (refine of_stop ?_)))
theorem small_log : ∀ n : Nat, n < 44 → ((n : Int)).natAbs.log2 < 1920 := by decide +kernel
theorem small_len : ∀ n : Nat, n < 44 → (Str.ofString (toString (n : Int))).length ≤ 10 := by decide +kernel
theorem str_count {prog : Program} {w : World} {A : Around} {E : Value → Shared → Prop} {s : Shared} {rows : List Row} {t : Tok} {Q : Value → Shared → Prop} (hn : rows.length < 44)
    (h : ∀ t tk, (Str.ofString (toString (rows.length : Int))).length ≤ 10 → Q (.str (Str.ofString (toString (rows.length : Int))) t) { s with toks := tk }) : wpAny (model prog w) A (call (.type "str") [.int ((refs1 rows).length : Int) t]) Q E s := by
  rw [refs1_len]
  exact P.str_of_int (small_log _ hn) (h _ _ (small_len _ hn))
local macro_rules | `(tactic| walk_at "call type:str") => `(tactic| (k_here; k_dflt (refine' str_count ?n ?_; (case n => assumption); k_whole; intro t9 k9 h9)))
local macro_rules | `(tactic| walk_at "call builtin:list.append") => `(tactic| (k_here; (with_reducible show wpAny _ _ (call (Value.builtin "list.append") [Value.ref _, Value.ref _]) _ _ _); k_dflt (refine' vals_append ?F ?N ?U ?z ?_; (case F => k_asm); (case N => k_asm); (case U => k_upd); (case z => ((first | rw [refs1_len] | rw [refs2_len]); omega)); k_whole; intro h' F' N')))
local macro_rules | `(tactic| walk_at "newTuple") => `(tactic| (k_here; k_dflt (refine' kup_newTuple ?F ?N ?_ ?z; (case F => k_asm); (case N => k_asm); (case z => kmk_size)); intro D' h' F' N' l1; (try k_lt l1); (try k_sweep)))
local macro_rules | `(tactic| walk_at "compareOp NotEq ref ref") => `(tactic| (k_here; (with_reducible show wpAny _ _ (compareOp CmpOp.NotEq (Value.ref _) (Value.ref _)) _ _ _); k_dflt (refine' strs_ne_nil ?N ?a ?b ?i ?u ?_; (case N => k_asm); (case a => k_mem); (case b => k_mem); (case i => exact rfl); (case u => ktr_units); k_whole)))
local macro_rules | `(tactic| walk_at "compareOp Eq ref ref") => `(tactic| (k_here; (refine of_stop ?_)))
theorem lawwalk : Challenge.rw_nq0320_02.Holds := hd (by
  k_go0; (all_goals try k_fold); k_steps
  (rename Fr _ _ _ _ => kF)
  (rename News _ _ _ _ => kN)
  (rename IntsAre _ (_ ++ _) => kI)
  refine to_stop (src_ints textOf rfl kF kN (.head _) kI (by simp; omega) ?turn1 ?fin1)
  case turn1 =>
    intro z t I oI C oC D m₂ ys h tk E' hz hC hx F' N' off ne
    k_steps
    exact ElPost.of (by assumption) (by assumption) (fun p hp => hp) ⟨_, rfl⟩
  case fin1 =>
    intro g9 l hl hn D9 h9 tk9 F9 N9 o9
    simp only [LCg.Off1, and_true] at o9
    have hsz : ∀ z t, (z, t) ∈ l → z.length ≤ 8 := by
      intro z t hz
      have h1 : z ∈ l.map (·.1) := List.mem_map.mpr ⟨_, hz, rfl⟩
      rw [hl] at h1
      obtain ⟨x, _, e⟩ := List.mem_map.mp h1
      rw [← e]
      exact textOf_len x
    have hn10 : l.length ≤ 10 := by rw [hn]; simp only [List.length_append, List.length_take, List.length_cons, List.length_nil]; omega
    have hn4 : 4 ≤ l.length := by rw [hn]; simp only [List.length_append, List.length_take, List.length_cons, List.length_nil]; omega
    have hlne : l ≠ [] := by intro e; rw [e] at hn4; exact absurd hn4 (by decide)
    clear kF kN kI
    k_steps
    (rename Fr _ _ _ _ => kF)
    (rename News _ _ _ _ => kN)
    refine to_stop (src_strs plainOf rfl kF kN (.head _) (by omega) ?turn2 ?fin2)
    case turn2 =>
      intro z t I oI C oC D m₂ ys h tk E' hz hC hx F' N' off ne
      have hzl := hsz z t hz
      k_steps
      exact ElPost.of (by assumption) (by assumption) (fun p hp => hp) ⟨_, rfl⟩
    case fin2 =>
      intro g8 l2 hl2 hn2 D8 h8 tk8 F8 N8 o8
      have hsz2 : ∀ p ∈ l2, p.1.length ≤ 3000 := by
        intro p hp
        have h1 : p.1 ∈ l2.map (·.1) := List.mem_map.mpr ⟨_, hp, rfl⟩
        rw [hl2] at h1
        obtain ⟨x, hx, e⟩ := List.mem_map.mp h1
        obtain ⟨y, hy, e2⟩ := List.mem_map.mp hx
        have := hsz y.1 y.2 hy
        rw [← e]
        exact plain_len (by rw [← e2]; omega)
      simp only [LCg.Off1, and_true] at o8
      clear kF kN
      k_steps
      (rename Fr _ _ _ _ => kF)
      (rename News _ _ _ _ => kN)
      refine to_stop (src_strs normOf rfl kF kN (.tail _ (.tail _ (.tail _ (.tail _ (.head _))))) (by omega) ?turn3 ?fin3)
      case turn3 =>
        intro z t I oI C oC D m₂ ys h tk E' hz hC hx F' N' off ne
        have hzl := hsz z t hz
        k_steps
        exact ElPost.of (by assumption) (by assumption) (fun p hp => hp) ⟨_, rfl⟩
      case fin3 =>
        intro g7 l3 hl3 hn3 D7 h7 tk7 F7 N7 o7
        have hsz3 : ∀ p ∈ l3, p.1.length ≤ 6000 := by
          intro p hp
          have h1 : p.1 ∈ l3.map (·.1) := List.mem_map.mpr ⟨_, hp, rfl⟩
          rw [hl3] at h1
          obtain ⟨x, hx, e⟩ := List.mem_map.mp h1
          obtain ⟨y, hy, e2⟩ := List.mem_map.mp hx
          have := hsz y.1 y.2 hy
          rw [← e]
          exact Nat.le_trans (norm_len (by rw [← e2]; omega)) (by omega)
        simp only [LCg.Off1, and_true] at o7
        clear kF kN
        k_steps
        (rename Fr _ _ _ _ => kF)
        refine to_stop ?_
        refine For_turns kF ?_ (by intro _; rfl) (by first | passes_own | with_unfolding_all passes_own)
        k_steps
        (rename News _ _ _ _ => kN)
        (rename Obj.IsDictOf _ _ _ => kDict)
        (rename Obj.data _ = Data.cell _ => kCell)
        refine to_stop (enum_rows (Fix.mk _ _ _ _ _ _ _ _ _ _ _ _ _ _ _ _ _ _ _) (Var.mk [] _ _ 0 0 _ _) rfl kF kN led_13 rfl ⟨?g1, ?g2, ?g3, kDict, ?g5, kCell⟩ ?turn ?done)
        case g1 => intro r hr; cases hr
        case g2 => intro r hr; cases hr
        case g3 => intro r hr; cases hr
        case g5 => exact rfl
        case turn =>
          intro i q u T t m₁ c h tk I o1 o2 hq hi hrl hgc hoff hT F' N'
          dsimp only [ledB] at hq hi hoff N'
          have hql := hsz q u (List.mem_of_getElem? hq)
          clear kF kN kDict kCell
          have hll : l.length ≤ 10 := hn10
          k_steps
          (rename Fr _ _ _ _ => kF)
          refine to_stop ?_
          refine wpAny_For ?_ (by intro _; rfl)
          k_steps
          (rename Fr _ _ _ _ => kF2)
          (rename News _ _ _ _ => kN)
          refine' for_rows (I := I) (o1 := o1) (o2 := o2) (n4 := 0) (four := [(_, _), (_, _), (_, _), (_, _)]) _ c (4 * i) rfl kF2 kN ?hN2 hrl hgc hoff ?hE2 ?turn2 ?done2
          case hN2 => intro p hp; exact hp
          case hE2 => first | passes_own | with_unfolding_all passes_own
          case turn2 =>
            intro j q2 u2 m₂ c2 h2 tk2 I2 io hj hrl2 hgc2 hoc2 hoff2 F2 N2
            dsimp only [ledB, List.cons_append, List.nil_append] at hoff2 N2
            have hj4 : j < 4 := (List.getElem?_eq_some_iff.mp hj).1
            have hil : i < l.length := hi
            have hrl3 : c2.rows.length < 44 := by rw [hrl2]; omega
            have e5 : (Str.ofString "/../f").length = 5 := rfl
            have e1 : (Str.ofString "f").length = 1 := rfl
            have e0 : (Str.ofString "m").length = 1 := rfl
            have e2 : (Str.ofString "/f").length = 2 := rfl
            have hq2 : q2.length ≤ 7000 := by
              have hmem := List.mem_of_getElem? hj
              simp only [List.mem_cons, List.not_mem_nil, or_false, Prod.mk.injEq] at hmem
              rcases hmem with ⟨rfl, _⟩ | ⟨rfl, _⟩ | ⟨rfl, _⟩ | ⟨rfl, _⟩ <;> omega
            have hcell := hgc2.cell
            obtain ⟨x1, x2, x3, x4⟩ := hgc2.offs (by dsimp only; omega) (by dsimp only; omega) (by dsimp only; omega)
            dsimp only at x1 x2 x3 x4
            have y0 := neN (hoff2 _ (.tail _ (.tail _ (.tail _ (.head _)))))
            have y1 := neN (hoff2 _ (.tail _ (.tail _ (.tail _ (.tail _ (.head _))))))
            have y2 := neN (hoff2 _ (.tail _ (.tail _ (.tail _ (.tail _ (.tail _ (.head _)))))))
            have y3 := neN (hoff2 _ (.tail _ (.tail _ (.tail _ (.tail _ (.tail _ (.tail _ (.tail _ (.tail _ (.tail _ (.tail _ (.tail _ (.tail _ (.head _))))))))))))))
            have z0 := neN (hoff _ (.head _)).1
            have w0 := neN (hoff _ (.head _)).2
            have z1 := neN (hoff _ (.tail _ (.head _))).1
            have w1 := neN (hoff _ (.tail _ (.head _))).2
            have z2 := neN (hoff _ (.tail _ (.tail _ (.head _)))).1
            have w2 := neN (hoff _ (.tail _ (.tail _ (.head _)))).2
            have z3 := neN (hoff _ (.tail _ (.tail _ (.tail _ (.tail _ (.tail _ (.tail _ (.tail _ (.tail _ (.tail _ (.head _))))))))))).1
            have w3 := neN (hoff _ (.tail _ (.tail _ (.tail _ (.tail _ (.tail _ (.tail _ (.tail _ (.tail _ (.tail _ (.head _))))))))))).2
            dsimp only at y0 z0 w0 y1 z1 w1 y2 z2 w2 y3 z3 w3
            clear kF2 kN
            have hkl2 : c2.kvs.length ≤ 1000 := by
              have := congrArg List.length hgc2.keys
              simp only [List.length_map, List.length_cons, List.length_range] at this
              omega
            k_steps
            refine to_stop ?_
            refine' names_use ?B ?F ?X ?N ?T ?hk ?d ?u ?U ?hx ?hI ?hM ?hD ?nx ?nI ?nM ?nD ?ho ?hgs ?hmd ?hkl ?hpl ?hml ?hll ?hls ?_
            case B => k_asm
            case F => k_asm
            case X => k_asm
            case N => k_asm
            case T => k_asm
            case hk => exact rfl
            case d => ktr_room
            case u => ktr_units
            case hx => k_mem
            case hI => k_mem
            case hM => k_mem
            case hD => k_mem
            case U => k_updF
            case nx => exact fun e => by have := congrArg (fun a : Nat => a) e; omega
            case nI => exact fun e => by have := congrArg (fun a : Nat => a) e; omega
            case nM => exact fun e => by have := congrArg (fun a : Nat => a) e; omega
            case nD => exact fun e => by have := congrArg (fun a : Nat => a) e; omega
            case ho => exact hgc2.dict
            case hgs => assumption
            case hmd => exact key_new hgc2.keys hrl3
            case hkl => exact hkl2
            case hpl => exact hq2
            case hml => omega
            case hll => omega
            case hls => exact hsz3
            intro h5 tk5 t5 o5 vv5 F5 N5 hd5
            (try dsimp only at F5 N5)
            k_steps
            (rename Fr _ _ _ _ => kF)
            (rename News _ _ _ _ => kN)
            refine to_stop (src_pick (fun one => Txt.slice q2 none (some ((one.length : Int) + 1)) == one ++ Str.ofString "/") rfl kF kN (by k_mem) (by omega) ?test ?el ?fin)
            case test =>
              intro z t I3 oI C oC D m₂ ys h tk E' hz hC hx F' N' off ne
              have hzl : z.length ≤ 3000 := hsz2 _ hz
              clear kF kN
              k_steps
              exact TestPost.of (by assumption) (by assumption) (fun p hp => hp) (by first | rfl | exact cps_eq ▸ (by simp))
            case el =>
              intro z t I3 oI C oC D m₂ ys h tk E' hz hC hx F' N' off ne
              clear kF kN
              k_steps
              exact ElPost.of (by assumption) (by assumption) (fun p hp => hp) ⟨_, _, rfl⟩
            case fin =>
              intro g6 l6 hl6 hany D6 h6 tk6 F6 N6 o6
              simp only [LCg.Off1] at o6
              clear kF kN
              k_steps
              all_goals (refine' turn_endB (c := c2) ?F ?N ?hall ?h1 ?h2 ?hoff ?hoc ?a1 ?a2 ?a3 ?a4 ?hg ?hu ?hv ?hn ?hd ?hc ?hk ?hm
                         (case F => assumption)
                         (case N => assumption)
                         (case hall => exact fun p hp => .tail _ (.tail _ (.tail _ (.tail _ hp))))
                         (case h1 => k_mem)
                         (case h2 => k_mem)
                         (case hoff => exact hoff2)
                         (case hoc => exact hoc2)
                         (case a1 => ((try dsimp only); omega))
                         (case a2 => ((try dsimp only); omega))
                         (case a3 => ((try dsimp only); omega))
                         (case a4 => ((try dsimp only); omega))
                         (case hg => exact hgc2)
                         (case hu => exact rfl)
                         (case hv => (first | rw [if_pos (hany.mp (by assumption))] | rw [if_neg (fun e => absurd (hany.mpr e) (by assumption))]))
                         (case hn => exact hrl3)
                         (case hd => exact hd5)
                         (case hc => assumption)
                         (case hk => omega)
                         (case hm => exact fun y h1 h2 => by simp only [chain2, if_neg h1, if_neg h2]))
          case done2 =>
            intro m₃ c3 h3 tk3 hrl3 hgc3 hoc3 F3 N3
            clear kF2 kN
            k_steps
            exact EnumPost.next F3 N3 (fun p hp => .tail _ hp) hoc3 ⟨c3, rfl, hrl3, hgc3, fun y h1 h2 h3 h4 h5 => by simp only [chain2, chain5, if_neg h1, if_neg h2, if_neg h3, if_neg h4, if_neg h5]⟩
        case done =>
          intro m₃ c3 h3 tk3 hrl3 hgc3 F3 N3
          clear kF kN
          dsimp only [ledB] at N3 hrl3
          have hsame := rows_same hgc3 hl3 hl2
          have hrows := hgc3.hi
          k_steps
          (rename News _ _ _ _ => kN)
          refine to_stop (rows_eq kN (.tail _ (.head _)) (.head _) ?hr ?hu ?_)
          case hr =>
            intro r hr
            have hm := rowsLed_mem hr
            exact ⟨.tail _ (.tail _ (.tail _ (.tail _ (.tail _ (.tail _ (.tail _ (.tail _ (.tail _ (.tail _ hm.1))))))))), .tail _ (.tail _ (.tail _ (.tail _ (.tail _ (.tail _ (.tail _ (.tail _ (.tail _ (.tail _ hm.2))))))))), (hrows r hr).2.2, hsame r hr⟩
          case hu => ktr_units
          k_steps)
end Mine
end PartN2h
theorem PySem.Challenge.cw_nq0320_02_holds : PySem.Challenge.rw_nq0320_02.Holds :=
  Mine.lawwalk
