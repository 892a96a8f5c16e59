import PyProof.Rows.All
import Wide.All
import OpenK.AllK
import Wide.FinOn
import PySem.Challenge.RW_mg0007_01
set_option Elab.async false
section -- MgTop
open PySem PySem.W PyProof.Rows
namespace Mine
set_option maxRecDepth 100000 in
set_option maxHeartbeats 8000000 in
open_top hd for PySem.Challenge.rw_mg0007_01
end Mine
end
section -- MgA
open PySem PySem.W PyProof.Rows
namespace Mine
def encP (p : Int × Int) : Dat := Dat.tuple [Dat.int p.1, Dat.int p.2]
/-- the way: places nondecreasing up to `top`, what is to fill in 0 or more -/
def Way (ps : List (Int × Int)) (top : Int) : Prop :=
  ps.Pairwise (fun a b => a.1 ≤ b.1) ∧ (∀ p ∈ ps, p.1 ≤ top) ∧ (∀ p ∈ ps, 0 ≤ p.2)
def PlP (pre : List Int) (place : Int) (out : List Dat) : Prop :=
  ∃ ps, out = ps.map encP ∧ Way ps place
theorem plp_start : ([] : List Dat).length = ([] : List Int).length ∧ PlP [] 0 [] := ⟨rfl, [], rfl, by simp [Way]⟩
theorem plp_turn {pre : List Int} {n place q : Int} {out : List Dat} (h : out.length = pre.length ∧ PlP pre place out)
    (hq : 0 ≤ q) {t : Int} (ht : place ≤ t) : (out ++ [Dat.tuple [Dat.int t, Dat.int q]]).length = (pre ++ [n]).length ∧ PlP (pre ++ [n]) t (out ++ [Dat.tuple [Dat.int t, Dat.int q]]) := by
  obtain ⟨hl, ps, rfl, h1, h2, h3⟩ := h
  refine ⟨by simp_all, ps ++ [(t, q)], by simp [encP], ?_, ?_, ?_⟩
  · rw [List.pairwise_append]
    refine ⟨h1, by simp, ?_⟩
    intro a ha b hb
    simp at hb; subst hb
    have := h2 a ha
    simp; omega
  · intro p hp
    rcases List.mem_append.mp hp with hp | hp
    · have := h2 p hp; omega
    · simp at hp; subst hp; simp
  · intro p hp
    rcases List.mem_append.mp hp with hp | hp
    · exact h3 p hp
    · simp at hp; subst hp; exact hq
theorem plp_step {pre : List Int} {n place : Int} {out : List Dat} (h : out.length = pre.length ∧ PlP pre place out) :
    (out ++ [Dat.tuple [Dat.int (place + n.fmod 10), Dat.int ((if n < 0 then -n else n).fdiv 10)]]).length = (pre ++ [n]).length ∧
      PlP (pre ++ [n]) (place + n.fmod 10) (out ++ [Dat.tuple [Dat.int (place + n.fmod 10), Dat.int ((if n < 0 then -n else n).fdiv 10)]]) := by
  refine plp_turn h ?_ ?_
  · rw [Int.fdiv_eq_ediv_of_nonneg _ (by omega)]
    split <;> omega
  · rw [Int.fmod_eq_emod_of_nonneg _ (by omega)]
    omega
end Mine
end
section -- MgB
open PySem PySem.W PyProof.Rows PySem.Calls PyProof.V PySem.Spec
set_option maxRecDepth 100000
namespace Mine
/-- the end of a turn: nothing but «next» -/
def PEnd (h₀ : Heap) (L : Addr) (J : (Str → Option Value) → List (Addr × Obj) → Prop) (own : List (Addr × Obj)) (s₁ : Shared) (f : Flow) (s₂ : Shared) : Prop :=
  f = .next ∧ InvEndG h₀ L J own s₁ s₂
section
variable {prog : Program} {w : World} {A : Around} {E : Value → Shared → Prop} {s : Shared} {env : Env} {h₀ : Heap} {body : List Stmt} {Q : Flow → Shared → Prop}
theorem enc_at {news : List (Addr × Obj)} {vs : List Value} {qs : List (Int × Int)} (hd : DatAll news vs (qs.map encP)) {i : Nat} {v : Value} (hv : vs[i]? = some v) :
    ∃ p q tp tq t n, qs[i]? = some (p, q) ∧ v = .ref t ∧ (t, ({ cls := .type "tuple", data := .seq #[.int p tp, .int q tq] n } : Obj)) ∈ news := by
  have hi : i < vs.length := (List.getElem?_eq_some_iff.mp hv).1
  have hlen : vs.length = qs.length := by rw [hd.length, List.length_map]
  have hi2 : i < qs.length := by omega
  have hi3 : i < (qs.map encP).length := by rw [List.length_map]; exact hi2
  obtain ⟨v', hv', hD⟩ := hd.get hi3
  rw [hv] at hv'
  cases hv'
  rw [List.getElem_map] at hD
  unfold encP at hD
  generalize hq : qs[i] = pq at hD
  obtain ⟨p, q⟩ := pq
  cases hD with
  | tuple hm hr =>
    cases hr with
    | cons h1 hr =>
      cases h1
      cases hr with
      | cons h2 hr =>
        cases h2
        cases hr
        exact ⟨p, q, _, _, _, _, by rw [List.getElem?_eq_getElem hi2, hq], rfl, hm⟩
theorem pairs_iter {l : Addr} {vs : List Value} {nn : Nat} {m₀ : Str → Option Value} {news : List (Addr × Obj)} {xa xb : Str} {pa pb pt : Pos} {x1 : Nat} {qs : List (Int × Int)}
    (J : Nat → (Str → Option Value) → List (Addr × Obj) → Prop)
    (hh : A.handled = none) (hl : (l, listOf vs.toArray nn) ∈ news) (hka : env.kindOf xa = some .local) (hkb : env.kindOf xb = some .local)
    (hp : (env.scope.kind == .class || (env.scope.kind == .module && env.locals != env.globals)) = false)
    (F : Fr h₀ env.locals s.heap m₀) (N : News h₀ env.locals s.heap news) (hj : J 0 m₀ news)
    (hkeep : ∀ i m nx, J i m nx → (l, listOf vs.toArray nn) ∈ nx ∧ DatAll nx vs (qs.map encP))
    (turn : ∀ i p q tp tq m₁ news₁ h tk own (s₁ : Shared), qs[i]? = some (p, q) → OwnOff own (news₁.map (·.1)) → J i m₁ news₁ →
      Fr h₀ env.locals h (fun y => if y = xb then some (.int q tq) else if y = xa then some (.int p tp) else m₁ y) → News h₀ env.locals h (news₁ ++ own) →
      wpAny (model prog w) A (execs body env) (PEnd h₀ env.locals (J (i + 1)) own { s₁ with heap := h, toks := tk }) E { s₁ with heap := h, toks := tk })
    (done : ∀ m₁ news₁ h tk, J qs.length m₁ news₁ → Fr h₀ env.locals h m₁ → News h₀ env.locals h news₁ → Q .next { s with heap := h, toks := tk }) :
    wpAny (model prog w) A (pyIter (.ref l)) (fun it s₂ => LoopAtT prog w A h₀ env (.Tuple [.Name xa pa, .Name xb pb] x1 pt) body Q E it s₂) E s := by
  have hol : s.heap.get? l = some (listOf vs.toArray nn) := (N _ hl).1
  have hls : s.heap.IsList l vs.toArray := ⟨_, hol, rfl, nn, rfl⟩
  have hne : l ≠ s.heap.objs.size := Nat.ne_of_lt (Heap.lt_size hol)
  have hlenq : vs.length = qs.length := by rw [(hkeep 0 m₀ news hj).2.length, List.length_map]
  refine wpAny_pyIter_list hls ?_
  have W := Walks.list (prog := prog) (w := w) hh s.heap.objs.size l hne vs.toArray
  have hlen : vs.toArray.size = vs.length := by simp
  rw [hlen] at W
  refine ⟨_, _, _, vs.length, _, _, m₀, news, J, rfl, W, ?_, ?_, ?_, ⟨⟨_, Heap.get?_push_size _ rfl, rfl, rfl⟩, hls.at fun o e => Heap.get?_push_of_some _ e⟩, F.push _, (fun p hp => ⟨Heap.get?_push_of_some _ (N p hp).1, (N p hp).2⟩), ?_, hj, ?_, ?_⟩
  · intro hm
    rcases List.mem_cons.mp hm with e | hm
    · exact absurd F.ns.lt (e ▸ Nat.lt_irrefl _)
    · exact (N _ hl).2.1 ((List.mem_singleton.mp hm).symm)
  · intro b hb
    rw [List.mem_singleton.mp hb]
    exact next_is_new F
  · intro p hp hI
    exact absurd (Heap.lt_size (N p hp).1) ((List.mem_singleton.mp hI) ▸ Nat.lt_irrefl _)
  · intro i s' v Q' hst hQ
    cases v with
    | ref T => exact wpAny_letOwnedTupleGo_listiter hst.1 hQ
    | _ => exact wpAny_pure hQ
  · rintro i v m₁ news₁ s₁ own hin hP hJ hoff hown hget hfp hst F₁ N₁
    obtain ⟨hl₁, hd₁⟩ := hkeep i m₁ news₁ hJ
    have hP' : vs[i]? = some v := by simpa using hP
    obtain ⟨p, q, tp, tq, t, n, hq, rfl, hmt⟩ := enc_at hd₁ hP'
    have ht : IsTup s₁.heap t #[.int p tp, .int q tq] := ⟨_, (N₁ _ (List.mem_append.mpr (.inr hmt))).1, rfl, n, rfl⟩
    have hI0 : h₀.get? s.heap.objs.size = none := next_is_new F
    obtain ⟨⟨oI, hoI, _⟩, _⟩ := id hst
    have hIown : (s.heap.objs.size, oI) ∈ own.filter fun p => decide (p.1 = s.heap.objs.size) := List.mem_filter.mpr ⟨hfp _ (List.mem_cons.mpr (.inl rfl)) hI0 _ hoI, by simp⟩
    have hsep : OwnOff (own.filter fun p => decide (p.1 = s.heap.objs.size)) (news₁.map (·.1)) := by
      intro p hp b hb e
      obtain ⟨q, hq, rfl⟩ := List.mem_map.mp hb
      have h1 : p.1 = s.heap.objs.size := by simpa using (List.mem_filter.mp hp).2
      exact hoff q hq (List.mem_singleton.mpr (e ▸ h1))
    have N₂ : News h₀ env.locals s₁.heap (news₁ ++ own.filter fun p => decide (p.1 = s.heap.objs.size)) := fun p hp => N₁ p ((List.mem_append.mp hp).elim (fun h => List.mem_append.mpr (.inr h)) fun h => List.mem_append.mpr (.inl ((List.mem_filter.mp h).1)))
    refine assign_Tuple_tuple hh ht rfl rfl fun h₅ he => ?_
    have he' : ∀ b o, s₁.heap.get? b = some o → h₅.get? b = some o := fun b o e => he b o (Nat.ne_of_lt (Heap.lt_size e)) e
    have F₅ := F₁.keeps he'
    have N₅ : News h₀ env.locals h₅ (news₁ ++ own.filter fun p => decide (p.1 = s.heap.objs.size)) := fun p hp => ⟨he' _ _ (N₂ p hp).1, (N₂ p hp).2⟩
    refine assignInOrder_cons (wpAny_assign_Name (wpAny_storeName_local hka F₅.ns (fun h₆ hn₆ hs₆ => ?_) hp))
    have F₆ := F₅.set hn₆ hs₆
    refine assignInOrder_cons (wpAny_assign_Name (wpAny_storeName_local hkb hn₆ (fun h₇ hn₇ hs₇ => ?_) hp))
    refine assignInOrder_nil ?_
    have F₇ := F₆.set hn₇ hs₇
    have N₇ := (N₅.set hs₆).set hs₇
    have hget7 : ∀ p ∈ own, h₇.get? p.1 = some p.2 := fun p hp => by
      have z := N₁ p (List.mem_append.mpr (.inl hp))
      exact (hs₇.2 _ z.2.1).trans ((hs₆.2 _ z.2.1).trans (he' _ _ z.1))
    refine wpAny_mono (turn i p q tp tq m₁ news₁ h₇ (s₁.toks + 1 + 1) _ s₁ hq hsep hJ F₇ N₇) (fun f s₂ e => ?_) fun _ _ e => e
    obtain ⟨rfl, h', tk, m', news', nx, e, F', N', hn, ho, ha, hm⟩ := e
    refine ⟨rfl, h', tk, m', nx, e, F', fun p hp => ?_, fun p hp hq => ?_, hm⟩
    · rcases List.mem_append.mp hp with h | h
      · by_cases hI : p.1 = s.heap.objs.size
        · exact N' p (ho p (List.mem_filter.mpr ⟨h, by simpa using hI⟩))
        · have h1 : p.1 = l := by
            rcases List.mem_cons.mp (hown p h) with h2 | h2
            · exact absurd h2 hI
            · exact List.mem_singleton.mp h2
          have h2 : s₁.heap.get? p.1 = some p.2 := hget p h
          have hlo : s₁.heap.get? l = some (listOf vs.toArray nn) := (N₁ _ (List.mem_append.mpr (.inr hl₁))).1
          rw [h1, hlo] at h2
          have h3 : p = (l, listOf vs.toArray nn) := Prod.ext h1 (Option.some.inj h2).symm
          rw [h3]
          exact N' _ (hn _ (hkeep _ _ _ hm).1)
      · exact N' p (hn p h)
    · exact ha _ hIown p.1 (List.mem_map.mpr ⟨p, hp, rfl⟩) (List.mem_singleton.mp hq).symm
  · rintro h' tk m' news' F' N' _ hJ
    rw [hlenq] at hJ
    exact done m' news' h' tk hJ F' N'
end
end Mine
end
section -- MgC
open PySem PySem.W PyProof.Rows PySem.Calls PyProof.V PySem.Spec
set_option maxRecDepth 100000
namespace Mine
section
variable {prog : Program} {w : World} {A : Around} {E : Value → Shared → Prop} {s : Shared} {env : Env} {h₀ : Heap} {body : List Stmt} {Q : Flow → Shared → Prop}
def StopsJ (lG lH : Addr) (cst : List (Addr × Obj)) (m₀ : Str → Option Value) (P : List Dat → List Int → Int → Int → Prop) (m : Str → Option Value) (nx : List (Addr × Obj)) : Prop :=
  ∃ gv gs ng hv hs nh r tr st ts, nx = (lG, listOf gv.toArray ng) :: (lH, listOf hv.toArray nh) :: cst ∧ DatAll [] gv gs ∧ IntsAre hv hs ∧
    m (Str.ofString "reach") = some (.int r tr) ∧ m (Str.ofString "stops") = some (.int st ts) ∧
    (∀ z, z ≠ Str.ofString "much" → z ≠ Str.ofString "place" → z ≠ Str.ofString "reach" → z ≠ Str.ofString "stops" → z ≠ Str.ofString "top" → m z = m₀ z) ∧ P gs hs r st
theorem stops_loop {lG lH lP : Addr} {pv : List Value} {nP : Nat} {cst cd : List (Addr × Obj)} {m₀ : Str → Option Value} {pa pb pt : Pos} {x1 : Nat} {qs : List (Int × Int)} {r₀ : Int} {t₀ t₁ : Tok}
    (P : List (Int × Int) → List Dat → List Int → Int → Int → Prop)
    (hh : A.handled = none) (F : Fr h₀ env.locals s.heap m₀)
    (N : News h₀ env.locals s.heap ((lG, listOf #[] 0) :: (lH, listOf #[] 0) :: (lP, listOf pv.toArray nP) :: cst))
    (hd : DatAll cd pv (qs.map encP)) (hcd : ∀ p ∈ cd, p ∈ (lP, listOf pv.toArray nP) :: cst)
    (hr : m₀ (Str.ofString "reach") = some (.int r₀ t₀)) (hs₀ : m₀ (Str.ofString "stops") = some (.int 0 t₁))
    (hka : env.kindOf (Str.ofString "place") = some .local) (hkb : env.kindOf (Str.ofString "much") = some .local)
    (hkp : (env.scope.kind == .class || (env.scope.kind == .module && env.locals != env.globals)) = false)
    (hP : P [] [] [] r₀ 0)
    (turn : ∀ (gv : List Value) (gs : List Dat) ng (hv : List Value) (hs : List Int) nh r tr st ts pre p q post tp tq (u : Str → Option Value) h tk own (s₁ : Shared), qs = pre ++ (p, q) :: post → gv.length = gs.length → hv.length = hs.length →
      OwnOff own (lG :: lH :: lP :: cst.map (·.1)) → DatAll [] gv gs → IntsAre hv hs → P pre gs hs r st →
      Fr h₀ env.locals h (fun y => if y = Str.ofString "much" then some (.int q tq) else if y = Str.ofString "place" then some (.int p tp) else if y = Str.ofString "reach" then some (.int r tr) else if y = Str.ofString "stops" then some (.int st ts) else if y = Str.ofString "top" then u y else m₀ y) →
      News h₀ env.locals h ((lG, listOf gv.toArray ng) :: (lH, listOf hv.toArray nh) :: (lP, listOf pv.toArray nP) :: (cst ++ own)) →
      wpAny (model prog w) A (execs body env) (PEnd h₀ env.locals (StopsJ lG lH ((lP, listOf pv.toArray nP) :: cst) m₀ (P (pre ++ [(p, q)]))) own { s₁ with heap := h, toks := tk }) E { s₁ with heap := h, toks := tk })
    (done : ∀ (gv : List Value) (gs : List Dat) ng (hv : List Value) (hs : List Int) nh r tr st ts (u : Str → Option Value) h tk, gv.length = gs.length → DatAll [] gv gs → P qs gs hs r st →
      Fr h₀ env.locals h (fun y => if y = Str.ofString "much" then u y else if y = Str.ofString "place" then u y else if y = Str.ofString "reach" then some (.int r tr) else if y = Str.ofString "stops" then some (.int st ts) else if y = Str.ofString "top" then u y else m₀ y) →
      News h₀ env.locals h ((lG, listOf gv.toArray ng) :: (lH, listOf hv.toArray nh) :: (lP, listOf pv.toArray nP) :: cst) → Q .next { s with heap := h, toks := tk }) :
    wpAny (model prog w) A (pyIter (.ref lP)) (fun it s₂ => LoopAtT prog w A h₀ env (.Tuple [.Name (Str.ofString "place") pa, .Name (Str.ofString "much") pb] x1 pt) body Q E it s₂) E s := by
  refine pairs_iter (nn := nP) (vs := pv) (qs := qs) (fun i m nx => StopsJ lG lH ((lP, listOf pv.toArray nP) :: cst) m₀ (P (qs.take i)) m nx) hh (.tail _ (.tail _ (.head _))) hka hkb hkp F N ?_ ?_ ?_ ?_
  · exact ⟨[], [], 0, [], [], 0, r₀, t₀, 0, t₁, rfl, .nil, .nil, hr, hs₀, fun _ _ _ _ _ _ => rfl, hP⟩
  · rintro i m nx ⟨gv, gs, ng, hv, hs, nh, r, tr, st, ts, rfl, _⟩
    exact ⟨.tail _ (.tail _ (.head _)), hd.mono fun p hp => .tail _ (.tail _ (hcd p hp))⟩
  · rintro i p q tp tq m₁ nx h tk own s₁ hq hoff ⟨gv, gs, ng, hv, hs, nh, r, tr, st, ts, rfl, hD, hI, h1, h2, h3, hp⟩ F₁ N₁
    have hi : i < qs.length := (List.getElem?_eq_some_iff.mp hq).1
    have e1 : qs.take (i + 1) = qs.take i ++ [(p, q)] := by simp [List.take_add_one, hq]
    have e2 : qs = qs.take i ++ (p, q) :: qs.drop (i + 1) := by
      have h9 := List.take_append_drop (i + 1) qs
      rw [e1, List.append_assoc] at h9
      exact h9.symm
    rw [e1]
    refine turn gv gs ng hv hs nh r tr st ts _ p q _ tp tq m₁ h tk own s₁ e2 hD.length hI.length (by simpa using hoff) hD hI hp ?_ (by simpa using N₁)
    have em : (fun y => if y = Str.ofString "much" then some (Value.int q tq) else if y = Str.ofString "place" then some (.int p tp) else if y = Str.ofString "reach" then some (.int r tr) else if y = Str.ofString "stops" then some (.int st ts) else if y = Str.ofString "top" then m₁ y else m₀ y) = fun y => if y = Str.ofString "much" then some (Value.int q tq) else if y = Str.ofString "place" then some (.int p tp) else m₁ y := by
      funext y
      by_cases c1 : y = Str.ofString "much"
      · simp [c1]
      by_cases c2 : y = Str.ofString "place"
      · simp [c2]
      by_cases c3 : y = Str.ofString "reach"
      · rw [if_neg c1, if_neg c2, if_pos c3, if_neg c1, if_neg c2, c3, h1]
      by_cases c4 : y = Str.ofString "stops"
      · rw [if_neg c1, if_neg c2, if_neg c3, if_pos c4, if_neg c1, if_neg c2, c4, h2]
      by_cases c5 : y = Str.ofString "top"
      · rw [if_neg c1, if_neg c2, if_neg c3, if_neg c4, if_pos c5, if_neg c1, if_neg c2]
      · rw [if_neg c1, if_neg c2, if_neg c3, if_neg c4, if_neg c5, if_neg c1, if_neg c2, h3 y c1 c2 c3 c4 c5]
    rw [em]
    exact F₁
  · rintro m₁ nx h tk ⟨gv, gs, ng, hv, hs, nh, r, tr, st, ts, rfl, hD, hI, h1, h2, h3, hp⟩ F₁ N₁
    rw [List.take_length] at hp
    refine done gv gs ng hv hs nh r tr st ts m₁ h tk hD.length hD hp ?_ N₁
    have em : (fun y => if y = Str.ofString "much" then m₁ y else if y = Str.ofString "place" then m₁ y else if y = Str.ofString "reach" then some (.int r tr) else if y = Str.ofString "stops" then some (.int st ts) else if y = Str.ofString "top" then m₁ y else m₀ y) = m₁ := by
      funext y
      by_cases c1 : y = Str.ofString "much"
      · simp [c1]
      by_cases c2 : y = Str.ofString "place"
      · simp [c2]
      by_cases c3 : y = Str.ofString "reach"
      · rw [if_neg c1, if_neg c2, if_pos c3, c3, h1]
      by_cases c4 : y = Str.ofString "stops"
      · rw [if_neg c1, if_neg c2, if_neg c3, if_pos c4, c4, h2]
      by_cases c5 : y = Str.ofString "top"
      · rw [if_neg c1, if_neg c2, if_neg c3, if_neg c4, if_pos c5]
      · rw [if_neg c1, if_neg c2, if_neg c3, if_neg c4, if_neg c5, h3 y c1 c2 c3 c4 c5]
    rw [em]
    exact F₁
theorem stops_end {L lG lH : Addr} {cst : List (Addr × Obj)} {m₀ m' : Str → Option Value} {P : List Dat → List Int → Int → Int → Prop} {own news' : List (Addr × Obj)} {s₁ : Shared} {h' : Heap} {tk : Nat}
    {gv : List Value} {gs : List Dat} {ng : Nat} {hv : List Value} {hs : List Int} {nh : Nat} {r st : Int} {tr ts : Tok}
    (F : Fr h₀ L h' m') (N : News h₀ L h' news') (h1 : (lG, listOf gv.toArray ng) ∈ news') (h2 : (lH, listOf hv.toArray nh) ∈ news') (h3 : ∀ p ∈ cst, p ∈ news') (h4 : ∀ p ∈ own, p ∈ news')
    (hoff : OwnOff own (lG :: lH :: cst.map (·.1))) (hI : IntsAre hv hs) (hr : m' (Str.ofString "reach") = some (.int r tr)) (hst : m' (Str.ofString "stops") = some (.int st ts))
    (hsame : ∀ z, z ≠ Str.ofString "much" → z ≠ Str.ofString "place" → z ≠ Str.ofString "reach" → z ≠ Str.ofString "stops" → z ≠ Str.ofString "top" → m' z = m₀ z) (hD : DatAll [] gv gs) (hP : P gs hs r st) :
    PEnd h₀ L (StopsJ lG lH cst m₀ P) own s₁ .next { s₁ with heap := h', toks := tk } := by
  refine ⟨rfl, h', tk, m', news', (lG, listOf gv.toArray ng) :: (lH, listOf hv.toArray nh) :: cst, rfl, F, N, ?_, h4, by simpa using hoff, gv, gs, ng, hv, hs, nh, r, tr, st, ts, rfl, hD, hI, hr, hst, hsame, hP⟩
  intro p hp
  rcases List.mem_cons.mp hp with rfl | hp
  · exact h1
  · rcases List.mem_cons.mp hp with rfl | hp
    · exact h2
    · exact h3 p hp
end
end Mine
end
section -- MgH
namespace Mine
theorem getD_set (h : List Int) (p i : Nat) (x : Int) : (h.set p x).getD i 0 = if p = i ∧ p < h.length then x else h.getD i 0 := by
  simp only [List.getD_eq_getElem?_getD, List.getElem?_set]
  by_cases e : p = i
  · subst e
    by_cases l : p < h.length
    · simp [l]
    · simp [l]
  · simp [e]
def HOk (h : List Int) : Prop := ∀ i, 0 < i → i < h.length → h.getD ((i - 1) / 2) 0 ≤ h.getD i 0
def HDn (h : List Int) (x : Int) (pos : Nat) : Prop :=
  pos < h.length ∧ (∀ i, 0 < i → i < h.length → i ≠ pos → (h.set pos x).getD ((i - 1) / 2) 0 ≤ (h.set pos x).getD i 0) ∧
    (∀ i, 0 < i → i < h.length → (i - 1) / 2 = pos → 0 < pos → h.getD ((pos - 1) / 2) 0 ≤ h.getD i 0)
def HUp (h : List Int) (pos : Nat) : Prop :=
  pos < h.length ∧ (∀ i, 0 < i → i < h.length → i ≠ pos → (i - 1) / 2 ≠ pos → h.getD ((i - 1) / 2) 0 ≤ h.getD i 0) ∧
    (∀ i, 0 < i → i < h.length → (i - 1) / 2 = pos → 0 < pos → h.getD ((pos - 1) / 2) 0 ≤ h.getD i 0)
theorem HDn.step {h : List Int} {x : Int} {pos : Nat} (H : HDn h x pos) (hp : 0 < pos) (hx : x < h.getD ((pos - 1) / 2) 0) :
    HDn (h.set pos (h.getD ((pos - 1) / 2) 0)) x ((pos - 1) / 2) := by
  obtain ⟨h1, h2, h3⟩ := H
  refine ⟨by simp; omega, ?_, ?_⟩
  · intro i hi hl hne
    simp only [List.length_set] at hl
    have A := h2 i hi hl
    have B := h3 i hi hl
    simp only [getD_set, List.length_set] at A B ⊢
    by_cases e : i = pos
    · subst e
      rw [if_pos (by omega), if_neg (by omega)]
      simp [h1]
      have : h[(i - 1) / 2]?.getD 0 = h.getD ((i - 1) / 2) 0 := by simp
      omega
    · have A := A e
      rw [if_neg (by omega : ¬(pos = i ∧ pos < h.length))] at A
      by_cases e2 : (i - 1) / 2 = pos
      · have B := B e2 hp
        rw [if_neg (by omega), if_pos (by omega), if_neg (by omega), if_neg (by omega)]
        exact B
      · rw [if_neg (by omega)] at A
        rw [if_neg (by omega : ¬((pos - 1) / 2 = i ∧ _)), if_neg (by omega : ¬(pos = (i - 1) / 2 ∧ _)), if_neg (by omega : ¬(pos = i ∧ _))]
        by_cases e3 : (pos - 1) / 2 = (i - 1) / 2
        · rw [if_pos (by omega)]
          rw [← e3] at A
          omega
        · rw [if_neg (by omega)]
          exact A
  · intro i hi hl he hq
    simp only [List.length_set] at hl
    simp only [getD_set]
    have C := h2 ((pos - 1) / 2) hq (by omega) (by omega)
    simp only [getD_set] at C
    rw [if_neg (by omega), if_neg (by omega)] at C
    rw [if_neg (by omega)]
    by_cases e : i = pos
    · rw [if_pos (by omega)]
      exact C
    · rw [if_neg (by omega)]
      have A := h2 i hi hl e
      simp only [getD_set] at A
      rw [if_neg (by omega), if_neg (by omega), he] at A
      omega
theorem HDn.top {h : List Int} {x : Int} (H : HDn h x 0) : HOk (h.set 0 x) := by
  intro i hi hl
  exact H.2.1 i hi (by simpa using hl) (by omega)
theorem HDn.stay {h : List Int} {x : Int} {pos : Nat} (H : HDn h x pos) (hx : ¬ x < h.getD ((pos - 1) / 2) 0) : HOk (h.set pos x) := by
  intro i hi hl
  simp only [List.length_set] at hl
  by_cases e : i = pos
  · subst e
    have e1 : (h.set i x).getD ((i - 1) / 2) 0 = h.getD ((i - 1) / 2) 0 := by rw [getD_set, if_neg (by omega)]
    have e2 : (h.set i x).getD i 0 = x := by rw [getD_set, if_pos ⟨rfl, hl⟩]
    omega
  · exact H.2.1 i hi hl e
theorem HUp.step {h : List Int} {pos c : Nat} (H : HUp h pos) (hc : (c - 1) / 2 = pos) (h0 : 0 < c) (hl : c < h.length)
    (hm : ∀ d, 0 < d → d < h.length → (d - 1) / 2 = pos → h.getD c 0 ≤ h.getD d 0) : HUp (h.set pos (h.getD c 0)) c := by
  obtain ⟨h1, h2, h3⟩ := H
  refine ⟨by simpa using hl, ?_, ?_⟩
  · intro i hi hil hne hpn
    simp only [List.length_set] at hil
    simp only [getD_set]
    by_cases e : i = pos
    · subst e
      rw [if_neg (by omega), if_pos (by omega)]
      exact h3 c h0 hl hc hi
    · rw [if_neg (by omega : ¬(pos = i ∧ _))]
      by_cases e2 : (i - 1) / 2 = pos
      · rw [if_pos (by omega)]
        exact hm i hi hil e2
      · rw [if_neg (by omega)]
        exact h2 i hi hil e e2
  · intro i hi hil he _
    simp only [List.length_set] at hil
    simp only [getD_set]
    rw [if_pos (by omega), if_neg (by omega)]
    have := h2 i hi hil (by omega) (by omega)
    rw [he] at this
    exact this
theorem HUp.leaf {h : List Int} {pos : Nat} {x : Int} (H : HUp h pos) (hl : h.length ≤ 2 * pos + 1) : HDn h x pos := by
  obtain ⟨h1, h2, h3⟩ := H
  refine ⟨h1, ?_, h3⟩
  intro i hi hil hne
  simp only [getD_set]
  rw [if_neg (by omega), if_neg (by omega)]
  exact h2 i hi hil hne (by omega)
theorem HUp.start {h : List Int} {x : Int} (H : HOk h) (h0 : 0 < h.length) : HUp (h.set 0 x) 0 := by
  refine ⟨by simpa using h0, ?_, ?_⟩
  · intro i hi hil hne hpn
    simp only [List.length_set] at hil
    simp only [getD_set]
    rw [if_neg (by omega), if_neg (by omega)]
    exact H i hi hil
  · intro i _ _ _ h; omega
theorem HOk.least {h : List Int} (H : HOk h) : ∀ i, i < h.length → h.getD 0 0 ≤ h.getD i 0 := by
  intro i
  induction i using Nat.strongRecOn with
  | ind i ih =>
    intro hl
    by_cases e : i = 0
    · subst e; exact Int.le_refl _
    · have := ih ((i - 1) / 2) (by omega) (by omega)
      have := H i (by omega) hl
      omega
theorem HOk.dropLast {h : List Int} (H : HOk h) : HOk h.dropLast := by
  intro i hi hl
  simp only [List.length_dropLast] at hl
  have := H i hi (by omega)
  simp only [List.getD_eq_getElem?_getD, List.getElem?_dropLast] at this ⊢
  rw [if_pos (by omega), if_pos (by omega)]
  exact this
theorem HOk.push {h : List Int} {x : Int} (H : HOk h) : HDn (h ++ [x]) x h.length := by
  refine ⟨by simp, ?_, ?_⟩
  · intro i hi hl hne
    simp only [List.length_append, List.length_cons, List.length_nil] at hl
    simp only [getD_set]
    rw [if_neg (by omega), if_neg (by omega)]
    have := H i hi (by omega)
    simp only [List.getD_eq_getElem?_getD] at this ⊢
    rw [List.getElem?_append_left (by omega), List.getElem?_append_left (by omega)]
    exact this
  · intro i hi hl he hp
    simp only [List.length_append, List.length_cons, List.length_nil] at hl
    omega
/-- the same numbers -/
def Same (a b : List Int) : Prop := ∀ v, a.count v = b.count v
theorem Same.rfl {a : List Int} : Same a a := fun _ => Eq.refl _
theorem Same.trans {a b c : List Int} (h : Same a b) (k : Same b c) : Same a c := fun v => (h v).trans (k v)
theorem Same.symm {a b : List Int} (h : Same a b) : Same b a := fun v => (h v).symm
theorem count_set' (h : List Int) (p : Nat) (x v : Int) (hp : p < h.length) : (h.set p x).count v + (if h.getD p 0 = v then 1 else 0) = h.count v + (if x = v then 1 else 0) := by
  induction h generalizing p with
  | nil => simp at hp
  | cons a t ih =>
    cases p with
    | zero => simp [List.count_cons]; omega
    | succ p =>
      have := ih p (by simpa using hp)
      simp only [List.set_cons_succ, List.count_cons, List.getD_cons_succ]
      omega
theorem ite_self' {p : Prop} [Decidable p] {a : Int} : (if p then a else a) = a := by split <;> rfl
theorem same_move {h : List Int} {p c : Nat} {x : Int} (hp : p < h.length) (hc : c < h.length) (hne : p ≠ c) : Same ((h.set p (h.getD c 0)).set c x) (h.set p x) := by
  intro v
  have h1 := count_set' (h.set p (h.getD c 0)) c x v (by simpa using hc)
  have h2 := count_set' h p (h.getD c 0) v hp
  have h3 := count_set' h p x v hp
  rw [getD_set, ite_self'] at h1
  omega
end Mine
end
section -- MgW
open PySem PySem.W PyProof.Rows PySem.Calls PySem.Spec
namespace Mine
/-- what holds at each turn of _siftdown's loop -/
def SdR (h₀ : List Int) (p₀ : Int) (x : Int) (h : List Int) (p : Int) : Prop :=
  (HDn h₀ x p₀.toNat → HDn h x p.toNat) ∧ Same (h.set p.toNat x) (h₀.set p₀.toNat x)
/-- what _siftdown does -/
def SdE (h₀ : List Int) (p₀ : Int) (h' : List Int) : Prop :=
  h'.length = h₀.length ∧ (HDn h₀ (h₀.getD p₀.toNat 0) p₀.toNat → HOk h') ∧ Same h' h₀
theorem SdR.rfl {h : List Int} {p x : Int} : SdR h p x h p := ⟨id, Same.rfl⟩
theorem SdR.step {h₀ h : List Int} {p₀ x p : Int} (R : SdR h₀ p₀ x h p) (hp : 0 < p) (hl : p < (h.length : Int)) (hx : x < h.getD ((p - 1) / 2).toNat 0) :
    SdR h₀ p₀ x (h.set p.toNat (h.getD ((p - 1) / 2).toNat 0)) ((p - 1) / 2) := by
  have e : ((p - 1) / 2).toNat = (p.toNat - 1) / 2 := by omega
  rw [e] at hx ⊢
  refine ⟨fun H => ?_, ?_⟩
  · have := (R.1 H).step (by omega) hx
    rw [e]
    exact this
  · rw [e]
    exact Same.trans (same_move (by omega) (by omega) (by omega)) R.2
theorem set_getD_self (h : List Int) (p : Nat) : h.set p (h.getD p 0) = h := by
  apply List.ext_getElem
  · simp
  · intro i h1 h2
    simp only [List.getElem_set]
    split
    · next e => subst e; simp at h1; simp [h1]
    · rfl
theorem SdR.stay {h₀ h : List Int} {p₀ p : Int} (R : SdR h₀ p₀ (h₀.getD p₀.toNat 0) h p) (hlen : h.length = h₀.length) (hp : 0 < p) (hx : ¬ h₀.getD p₀.toNat 0 < h.getD ((p - 1) / 2).toNat 0) :
    SdE h₀ p₀ (h.set p.toNat (h₀.getD p₀.toNat 0)) := by
  have e : ((p - 1) / 2).toNat = (p.toNat - 1) / 2 := by omega
  rw [e] at hx
  refine ⟨by simpa using hlen, fun H => (R.1 H).stay hx, ?_⟩
  have := R.2
  rw [set_getD_self] at this
  exact this
theorem SdR.top {h₀ h : List Int} {p₀ p : Int} (R : SdR h₀ p₀ (h₀.getD p₀.toNat 0) h p) (hlen : h.length = h₀.length) (hp : ¬ 0 < p) :
    SdE h₀ p₀ (h.set p.toNat (h₀.getD p₀.toNat 0)) := by
  have e : p.toNat = 0 := by omega
  refine ⟨by simpa using hlen, fun H => ?_, ?_⟩
  · have := R.1 H
    rw [e] at this ⊢
    exact this.top
  · have := R.2
    rw [set_getD_self] at this
    exact this
theorem shr1 (a : Int) : a.fdiv ((2 : Int) ^ Int.toNat 1) = a / 2 := by
  show a.fdiv 2 = a / 2
  rw [Int.fdiv_eq_ediv_of_nonneg _ (by omega)]
section
variable {w : World} {A A₀ : Around} {E : Value → Shared → Prop} {s : Shared} {h₀ base : Heap} {L : Addr} {m mg mb : Str → Option Value} {mean : ExcName → Option Value} {Q : Value → Shared → Prop} {env : Env} {outer : List Env}
  {l : Addr} {vs : List Value} {ns : List Int} {n : Nat} {C : List (Addr × Obj)}
set_option maxRecDepth 100000 in
set_option maxHeartbeats 8000000 in
theorem sd_call {p : Int} {t1 t2 : Tok}
    (B : Below A₀ base outer h₀) (F : Fr h₀ L s.heap m) (X : (hd.heap_39 w.params).In h₀) (N : News h₀ L s.heap ((l, listOf vs.toArray n) :: C)) (T : Top hd.view_39 (looseW hd.view_39 []) mean mg mb h₀)
    (hA : A.frames = some (env :: outer)) (hf : env.frame = some L) (hke : env.scope.kind = .function) (hroom : A.depth < recursionLimit)
    (hoff : OwnOff C [l]) (hI : IntsAre vs ns) (hL : vs.length = ns.length) (h0 : 0 ≤ p) (h1 : p < ns.length) (hlen : ns.length ≤ 1000)
    (done : ∀ h' tk vs' ns' n', Fr h₀ L h' m → News h₀ L h' ((l, listOf vs'.toArray n') :: C) → IntsAre vs' ns' → SdE ns p ns' → Q .none { s with heap := h', toks := tk }) :
    wpAny (model PySem.Challenge.rw_mg0007_01.row.prog w) A (call (.ref 35) [.ref l, .int 0 t1, .int p t2]) Q E s := by
  have kM : KstMark := kstMark
  w_top off
  revert X; k_fill; intro X
  refine wpAny_call ?_
  refine' code_def ?k1 ?k2 ?k3 ?k4 ?k5 ?kA ?kF ?kK ?k6 ?k7 ?k8 ?k9 ?kB ?_ ?c2 ?c3 ?c4 ?c5
  (case kA => exact hA); (case kF => exact hf); (case kK => exact hke); (case k1 => k_asm); (case k2 => k_asm); (case k3 => k_asm); (case k4 => k_asm); (case k5 => k_asm); (case k6 => k_is); (case k7 => k_is); (case k8 => exact hroom); (case k9 => first | exact BindsTo.of_eq rfl | exact binds_K (by k_in) rfl (by k_is) rfl rfl rfl); (case c5 => decide); (case kB => exact locs rfl); (case c2 => exact rfl); (case c3 => exact rfl); (case c4 => exact rfl)
  intro g' L' h' FG' F' N' B' X' T'; (try dsimp only); (try k_fold)
  (k_with "exec While Compare cons nil" => k_while_given ["heap!", "pos!", "newitem"] (fun h₀ p₀ x script h p => h.length = h₀.length ∧ 0 ≤ p ∧ p < (h.length : Int) ∧ SdR h₀ p₀ x h p) (fun h₀ p₀ x script h p => p.toNat) "heap" "pos")
  (k_with "storeName" => (rw [shr1]))
  (k_with "state" => first | exact ⟨rfl, by omega, by omega, SdR.rfl⟩ | exact ⟨by (rw [List.length_set]; assumption), by omega, by (rw [List.length_set]; omega), SdR.step (by assumption) (by assumption) (by assumption) (by assumption)⟩)
  k_steps
  · exact done _ _ _ _ _ (by assumption) (by assumption) (by assumption) (SdR.stay (by assumption) (by assumption) (by assumption) (by assumption))
  · exact done _ _ _ _ _ (by assumption) (by assumption) (by assumption) (SdR.top (by assumption) (by assumption) (by assumption))
end
end Mine
end
section -- MgU
open PySem PySem.W PyProof.Rows PySem.Calls PySem.Spec
namespace Mine
/-- what holds at each turn of _siftup's loop -/
def SuR (h₀ : List Int) (x : Int) (h : List Int) (p : Int) : Prop :=
  (HUp h₀ 0 → HUp h p.toNat) ∧ Same (h.set p.toNat x) (h₀.set 0 x)
theorem SuR.rfl {h : List Int} {x : Int} : SuR h x h 0 := ⟨id, Same.rfl⟩
theorem SuR.step {h₀ h : List Int} {x p c : Int} (R : SuR h₀ x h p) (hp : 0 ≤ p) (hl : p < (h.length : Int)) (hc : c = 2 * p + 1 ∨ c = 2 * p + 2) (hcl : c < (h.length : Int))
    (hm : h.getD c.toNat 0 ≤ h.getD (2 * p + 1).toNat 0 ∧ (2 * p + 2 < (h.length : Int) → h.getD c.toNat 0 ≤ h.getD (2 * p + 2).toNat 0)) :
    SuR h₀ x (h.set p.toNat (h.getD c.toNat 0)) c := by
  refine ⟨fun H => ?_, Same.trans (same_move (by omega) (by omega) (by omega)) R.2⟩
  refine (R.1 H).step (by omega) (by omega) (by omega) ?_
  intro d hd hdl hdp
  have h3 : d = (2 * p + 1).toNat ∨ d = (2 * p + 2).toNat := by omega
  rcases h3 with e | e
  · rw [e]; exact hm.1
  · rw [e]; exact hm.2 (by omega)
theorem SuR.s1 {h₀ h : List Int} {x p c : Int} {N : Nat} (R : SuR h₀ x h p) (hn : h.length = N) (hp : 0 ≤ p) (hl : p < (h.length : Int)) (hc : c = 2 * p + 1) (hcl : c < (N : Int)) (hr : ¬ c + 1 < (N : Int)) :
    SuR h₀ x (h.set p.toNat (h.getD c.toNat 0)) c := by
  subst hc
  exact R.step hp hl (.inl (Eq.refl _)) (by omega) ⟨Int.le_refl _, fun h => absurd h (by omega)⟩
theorem SuR.s2 {h₀ h : List Int} {x p c : Int} {N : Nat} (R : SuR h₀ x h p) (hn : h.length = N) (hp : 0 ≤ p) (hl : p < (h.length : Int)) (hc : c = 2 * p + 1) (hr : c + 1 < (N : Int)) (hx : ¬ h.getD c.toNat 0 < h.getD (c + 1).toNat 0) :
    SuR h₀ x (h.set p.toNat (h.getD (c + 1).toNat 0)) (c + 1) := by
  subst hc
  exact R.step hp hl (.inr (by omega)) (by omega) ⟨by omega, fun h => by rw [show (2 * p + 1 + 1) = 2 * p + 2 by omega]; exact Int.le_refl _⟩
theorem SuR.s3 {h₀ h : List Int} {x p c : Int} {N : Nat} (R : SuR h₀ x h p) (hn : h.length = N) (hp : 0 ≤ p) (hl : p < (h.length : Int)) (hc : c = 2 * p + 1) (hcl : c < (N : Int)) (hr : c + 1 < (N : Int)) (hx : h.getD c.toNat 0 < h.getD (c + 1).toNat 0) :
    SuR h₀ x (h.set p.toNat (h.getD c.toNat 0)) c := by
  subst hc
  refine R.step hp hl (.inl (Eq.refl _)) (by omega) ⟨Int.le_refl _, fun h => ?_⟩
  rw [show (2 * p + 1 + 1) = 2 * p + 2 by omega] at hx
  omega
/-- what _siftup at 0 does -/
def SuE (h₀ h' : List Int) : Prop :=
  h'.length = h₀.length ∧ (HUp h₀ 0 → HOk h') ∧ Same h' h₀
theorem HUp.leaf' {h : List Int} {pos : Nat} {x : Int} (H : HUp h pos) (hl : h.length ≤ 2 * pos + 1) : HDn (h.set pos x) x pos := by
  obtain ⟨h1, h2, h3⟩ := H.leaf (x := x) hl
  refine ⟨by simpa using h1, ?_, ?_⟩
  · intro i hi hil hne
    simp only [List.length_set] at hil
    rw [List.set_set]
    exact h2 i hi hil hne
  · intro i hi hil he
    simp only [List.length_set] at hil
    omega
theorem SuR.out {h₀ h h' : List Int} {p : Int} (R : SuR h₀ (h₀.getD 0 0) h p) (hlen : h.length = h₀.length) (hp : 0 ≤ p) (hl : p < (h.length : Int)) (hc : ¬ 2 * p + 1 < (h₀.length : Int))
    (D : SdE (h.set p.toNat (h₀.getD 0 0)) p h') : SuE h₀ h' := by
  obtain ⟨d1, d2, d3⟩ := D
  rw [getD_set, if_pos (by omega)] at d2
  refine ⟨by rw [d1, List.length_set, hlen], fun H => d2 ((R.1 H).leaf' (by omega)), ?_⟩
  have := R.2
  rw [set_getD_self] at this
  exact d3.trans this
section
variable {w : World} {A A₀ : Around} {E : Value → Shared → Prop} {s : Shared} {h₀ base : Heap} {L : Addr} {m mg mb : Str → Option Value} {mean : ExcName → Option Value} {Q : Value → Shared → Prop} {env : Env} {outer : List Env}
  {l : Addr} {vs : List Value} {ns : List Int} {n : Nat} {C : List (Addr × Obj)}
set_option maxRecDepth 100000 in
set_option maxHeartbeats 8000000 in
theorem su_call {t1 : Tok}
    (B : Below A₀ base outer h₀) (F : Fr h₀ L s.heap m) (X : (hd.heap_39 w.params).In h₀) (N : News h₀ L s.heap ((l, listOf vs.toArray n) :: C)) (T : Top hd.view_39 (looseW hd.view_39 []) mean mg mb h₀)
    (hA : A.frames = some (env :: outer)) (hf : env.frame = some L) (hke : env.scope.kind = .function) (hroom : A.depth + 1 < recursionLimit)
    (hoff : OwnOff C [l]) (hI : IntsAre vs ns) (hL : vs.length = ns.length) (h1 : 0 < ns.length) (hlen : ns.length ≤ 1000)
    (done : ∀ h' tk vs' ns' n', Fr h₀ L h' m → News h₀ L h' ((l, listOf vs'.toArray n') :: C) → IntsAre vs' ns' → SuE ns ns' → Q .none { s with heap := h', toks := tk }) :
    wpAny (model PySem.Challenge.rw_mg0007_01.row.prog w) A (call (.ref 42) [.ref l, .int 0 t1]) Q E s := by
  have kM : KstMark := kstMark
  w_top off
  revert X; k_fill; intro X
  refine wpAny_call ?_
  refine' code_def ?k1 ?k2 ?k3 ?k4 ?k5 ?kA ?kF ?kK ?k6 ?k7 ?k8 ?k9 ?kB ?_ ?c2 ?c3 ?c4 ?c5
  (case kA => exact hA); (case kF => exact hf); (case kK => exact hke); (case k1 => k_asm); (case k2 => k_asm); (case k3 => k_asm); (case k4 => k_asm); (case k5 => k_asm); (case k6 => k_is); (case k7 => k_is); (case k8 => exact Nat.lt_of_succ_lt hroom); (case k9 => first | exact BindsTo.of_eq rfl | exact binds_K (by k_in) rfl (by k_is) rfl rfl rfl); (case c5 => decide); (case kB => exact locs rfl); (case c2 => exact rfl); (case c3 => exact rfl); (case c4 => exact rfl)
  intro g' L' h' FG' F' N' B' X' T'; (try dsimp only); (try k_fold)
  (k_with_none)
  (k_with "exec While Compare cons nil" => k_while_given ["heap!", "newitem"] (fun h₀ x script h p c => h.length = h₀.length ∧ 0 ≤ p ∧ p < (h.length : Int) ∧ c = 2 * p + 1 ∧ SuR h₀ x h p) (fun h₀ x script h p c => h.length - p.toNat) "heap" "pos" "childpos")
  (k_with "state" => first | exact ⟨rfl, by omega, by omega, by omega, SuR.rfl⟩ | exact ⟨by (rw [List.length_set]; assumption), by omega, by (rw [List.length_set]; omega), rfl, SuR.s1 (by assumption) (by assumption) (by assumption) (by assumption) (by assumption) (by assumption) (by assumption)⟩ | exact ⟨by (rw [List.length_set]; assumption), by omega, by (rw [List.length_set]; omega), rfl, SuR.s2 (by assumption) (by assumption) (by assumption) (by assumption) (by assumption) (by assumption) (by assumption)⟩ | exact ⟨by (rw [List.length_set]; assumption), by omega, by (rw [List.length_set]; omega), rfl, SuR.s3 (by assumption) (by assumption) (by assumption) (by assumption) (by assumption) (by assumption) (by assumption) (by assumption)⟩)
  (k_with "measure" => (simp only [List.length_set]; omega))
  (k_with "call ref" => (k_here; (with_reducible show wpAny _ _ (call (Value.ref 35) _) _ _ _); (refine' sd_call ?k1 ?k2 ?k3 ?k4 ?k5 ?hA ?hf ?hke ?hr ?ho ?hi ?hl ?h0 ?h1 ?h2 ?_); (case k1 => k_asm); (case k2 => k_asm); (case k3 => k_asm); (case k4 => k_asm); (case k5 => k_asm); (case hA => exact Around.frames_deeper (Below.stack (by assumption))); (case hf => rfl); (case hke => rfl); (case hr => (simp only [depth_deeper]; omega)); (case ho => assumption); (case hi => assumption); (case hl => exact IntsAre.length (by assumption)); (case h0 => omega); (case h1 => (first | omega | (rw [List.length_set]; omega))); (case h2 => (first | omega | (rw [List.length_set]; omega))); (intro h' tk' vs' ns' n' F' N' hi' hE')))
  k_steps
  · exact done _ _ _ _ _ (by assumption) (by assumption) (by assumption) (SuR.out (by assumption) (by assumption) (by assumption) (by assumption) (by omega) (by assumption))
end
end Mine
end
section -- MgP
open PySem PySem.W PyProof.Rows PySem.Calls PySem.Spec
namespace Mine
/-- what heappush does -/
def PushE (h₀ : List Int) (x : Int) (h' : List Int) : Prop :=
  h'.length = h₀.length + 1 ∧ (HOk h₀ → HOk h') ∧ Same h' (h₀ ++ [x])
theorem PushE.of {h h' : List Int} {x : Int} (D : SdE (h ++ [x]) (((h.length + 1 : Nat) : Int) - 1) h') : PushE h x h' := by
  obtain ⟨d1, d2, d3⟩ := D
  have e : (((h.length + 1 : Nat) : Int) - 1).toNat = h.length := by omega
  rw [e] at d2
  have e2 : (h ++ [x]).getD h.length 0 = x := by simp
  rw [e2] at d2
  exact ⟨by simpa using d1, fun H => d2 H.push, d3⟩
section
variable {w : World} {A A₀ : Around} {E : Value → Shared → Prop} {s : Shared} {h₀ base : Heap} {L : Addr} {m mg mb : Str → Option Value} {mean : ExcName → Option Value} {Q : Value → Shared → Prop} {env : Env} {outer : List Env}
  {l : Addr} {vs : List Value} {ns : List Int} {n : Nat} {C : List (Addr × Obj)}
set_option maxRecDepth 100000 in
set_option maxHeartbeats 8000000 in
theorem push_call {x : Int} {t1 : Tok}
    (B : Below A₀ base outer h₀) (F : Fr h₀ L s.heap m) (X : (hd.heap_39 w.params).In h₀) (N : News h₀ L s.heap ((l, listOf vs.toArray n) :: C)) (T : Top hd.view_39 (looseW hd.view_39 []) mean mg mb h₀)
    (hA : A.frames = some (env :: outer)) (hf : env.frame = some L) (hke : env.scope.kind = .function) (hroom : A.depth + 2 < recursionLimit)
    (hoff : OwnOff C [l]) (hI : IntsAre vs ns) (hL : vs.length = ns.length) (hlen : ns.length ≤ 900)
    (done : ∀ h' tk vs' ns' n', Fr h₀ L h' m → News h₀ L h' ((l, listOf vs'.toArray n') :: C) → IntsAre vs' ns' → PushE ns x ns' → Q .none { s with heap := h', toks := tk }) :
    wpAny (model PySem.Challenge.rw_mg0007_01.row.prog w) A (call (.ref 21) [.ref l, .int x t1]) Q E s := by
  have kM : KstMark := kstMark
  w_top off
  revert X; k_fill; intro X
  refine wpAny_call ?_
  refine' code_def ?k1 ?k2 ?k3 ?k4 ?k5 ?kA ?kF ?kK ?k6 ?k7 ?k8 ?k9 ?kB ?_ ?c2 ?c3 ?c4 ?c5
  (case kA => exact hA); (case kF => exact hf); (case kK => exact hke); (case k1 => k_asm); (case k2 => k_asm); (case k3 => k_asm); (case k4 => k_asm); (case k5 => k_asm); (case k6 => k_is); (case k7 => k_is); (case k8 => exact Nat.lt_of_succ_lt (Nat.lt_of_succ_lt hroom)); (case k9 => first | exact BindsTo.of_eq rfl | exact binds_K (by k_in) rfl (by k_is) rfl rfl rfl); (case c5 => decide); (case kB => exact locs rfl); (case c2 => exact rfl); (case c3 => exact rfl); (case c4 => exact rfl)
  intro g' L' h' FG' F' N' B' X' T'; (try dsimp only); (try k_fold)
  (k_with_none)
  (k_with "call ref" => (k_here; (with_reducible show wpAny _ _ (call (Value.ref 35) _) _ _ _); (refine' sd_call ?k1 ?k2 ?k3 ?k4 ?k5 ?hA ?hf ?hke ?hr ?ho ?hi ?hl ?h0 ?h1 ?h2 ?_); (case k1 => k_asm); (case k2 => k_asm); (case k3 => k_asm); (case k4 => k_asm); (case k5 => k_asm); (case hA => exact Around.frames_deeper (Below.stack (by assumption))); (case hf => rfl); (case hke => rfl); (case hr => (simp only [depth_deeper]; omega)); (case ho => assumption); (case hi => k_intsEnd); (case hl => exact IntsAre.length (by k_intsEnd)); (case h0 => omega); (case h1 => (simp only [List.length_append, List.length_cons, List.length_nil]; omega)); (case h2 => (simp only [List.length_append, List.length_cons, List.length_nil]; omega)); (intro h' tk' vs' ns' n' F' N' hi' hE')))
  k_steps
  · exact done _ _ _ _ _ (by assumption) (by assumption) (by assumption) (PushE.of (by assumption))
end
end Mine
end
section -- MgO
open PySem PySem.W PyProof.Rows PySem.Calls PySem.Spec
namespace Mine
/-- what heappop does -/
def PopE (h₀ : List Int) (v : Int) (h' : List Int) : Prop :=
  v = h₀.getD (Int.toNat 0) 0 ∧ h'.length + 1 = h₀.length ∧ (HOk h₀ → HOk h') ∧ Same (v :: h') h₀
theorem drop_last {h : List Int} (h0 : 0 < h.length) : h.dropLast ++ [h.getLastD 0] = h := by
  have hne : h ≠ [] := by intro e; subst e; simp at h0
  have := List.dropLast_concat_getLast hne
  rw [List.getLastD_eq_getLast?, List.getLast?_eq_some_getLast hne]
  exact this
theorem PopE.one {h : List Int} (h0 : 0 < h.length) (hd : ¬ 0 < h.dropLast.length) : PopE h (h.getLastD 0) h.dropLast := by
  match h, h0, hd with
  | [a], _, _ => exact ⟨rfl, rfl, fun _ i _ hl => by simp at hl, fun _ => rfl⟩
  | a :: b :: t, _, hd => simp at hd
theorem PopE.more {h h' : List Int} (hd : 0 < h.dropLast.length) (S : SuE (h.dropLast.set 0 (h.getLastD 0)) h') : PopE h (h.dropLast.getD 0 0) h' := by
  obtain ⟨s1, s2, s3⟩ := S
  have h0 : 0 < h.length := by simp only [List.length_dropLast] at hd; omega
  have e := drop_last h0
  refine ⟨?_, ?_, fun H => s2 (HUp.start H.dropLast hd), ?_⟩
  · show h.dropLast.getD 0 0 = h.getD 0 0
    conv => rhs; rw [← e]
    simp only [List.getD_eq_getElem?_getD]
    rw [List.getElem?_append_left hd]
  · simp only [List.length_set, List.length_dropLast] at s1
    omega
  · intro v
    have c := count_set' h.dropLast 0 (h.getLastD 0) v hd
    have d := s3 v
    have f : (h.dropLast ++ [h.getLastD 0]).count v = h.count v := by rw [e]
    simp only [List.count_append, List.count_cons, List.count_nil, beq_iff_eq] at f ⊢
    omega
section
variable {M : Program} {w : World} {A : Around} {E : Value → Shared → Prop} {s : Shared} {h₀ : Heap} {L l : Addr}
theorem truthy_led {vs : List Value} {ns : List Int} {n : Nat} {C : List (Addr × Obj)} {Q : Bool → Shared → Prop} (N : News h₀ L s.heap ((l, listOf vs.toArray n) :: C)) (hi : IntsAre vs ns) (hfit : ns.length ≤ 1000)
    (h : Q (decide (0 < ns.length)) { s with toks := s.toks + 1 + 1 }) : wpAny (model M w) A (truthy (.ref l)) Q E s :=
  truthy_ints_fit ⟨_, (N _ (.head _)).1, rfl, n, rfl⟩ hi (by omega) h
end
section
variable {w : World} {A A₀ : Around} {E : Value → Shared → Prop} {s : Shared} {h₀ base : Heap} {L : Addr} {m mg mb : Str → Option Value} {mean : ExcName → Option Value} {Q : Value → Shared → Prop} {env : Env} {outer : List Env}
  {l : Addr} {vs : List Value} {ns : List Int} {n : Nat} {C : List (Addr × Obj)}
set_option maxRecDepth 100000 in
set_option maxHeartbeats 8000000 in
theorem pop_call
    (B : Below A₀ base outer h₀) (F : Fr h₀ L s.heap m) (X : (hd.heap_39 w.params).In h₀) (N : News h₀ L s.heap ((l, listOf vs.toArray n) :: C)) (T : Top hd.view_39 (looseW hd.view_39 []) mean mg mb h₀)
    (hA : A.frames = some (env :: outer)) (hf : env.frame = some L) (hke : env.scope.kind = .function) (hroom : A.depth + 2 < recursionLimit)
    (hoff : OwnOff C [l]) (hI : IntsAre vs ns) (hL : vs.length = ns.length) (hlen : ns.length ≤ 900)
    (h1 : 0 < ns.length)
    (done : ∀ h' tk vs' ns' n' v t, Fr h₀ L h' m → News h₀ L h' ((l, listOf vs'.toArray n') :: C) → IntsAre vs' ns' → PopE ns v ns' → Q (.int v t) { s with heap := h', toks := tk }) :
    wpAny (model PySem.Challenge.rw_mg0007_01.row.prog w) A (call (.ref 28) [.ref l]) Q E s := by
  have kM : KstMark := kstMark
  w_top off
  revert X; k_fill; intro X
  refine wpAny_call ?_
  refine' code_def ?k1 ?k2 ?k3 ?k4 ?k5 ?kA ?kF ?kK ?k6 ?k7 ?k8 ?k9 ?kB ?_ ?c2 ?c3 ?c4 ?c5
  (case kA => exact hA); (case kF => exact hf); (case kK => exact hke); (case k1 => k_asm); (case k2 => k_asm); (case k3 => k_asm); (case k4 => k_asm); (case k5 => k_asm); (case k6 => k_is); (case k7 => k_is); (case k8 => exact Nat.lt_of_succ_lt (Nat.lt_of_succ_lt hroom)); (case k9 => first | exact BindsTo.of_eq rfl | exact binds_K (by k_in) rfl (by k_is) rfl rfl rfl); (case c5 => decide); (case kB => exact locs rfl); (case c2 => exact rfl); (case c3 => exact rfl); (case c4 => exact rfl)
  intro g' L' h' FG' F' N' B' X' T'; (try dsimp only); (try k_fold)
  (k_with_none)
  (k_with "truthy ref" => (k_here; refine' truthy_led ?k1 ?k2 ?k3 ?_; (case k1 => k_asm); (case k2 => assumption); (case k3 => (simp only [List.length_dropLast]; omega))))
  (k_with "call ref" => (k_here; (with_reducible show wpAny _ _ (call (Value.ref 42) _) _ _ _); (refine' su_call ?k1 ?k2 ?k3 ?k4 ?k5 ?hA ?hf ?hke ?hr ?ho ?hi ?hl ?h1 ?h2 ?_); (case k1 => k_asm); (case k2 => k_asm); (case k3 => k_asm); (case k4 => k_asm); (case k5 => k_asm); (case hA => exact Around.frames_deeper (Below.stack (by assumption))); (case hf => rfl); (case hke => rfl); (case hr => (simp only [depth_deeper]; omega)); (case ho => assumption); (case hi => first | assumption | k_intsEnd); (case hl => exact IntsAre.length (by first | assumption | k_intsEnd)); (case h1 => (rw [List.length_set]; assumption)); (case h2 => (simp only [List.length_set, List.length_dropLast]; omega)); (intro h' tk' vs' ns' n' F' N' hi' hE')))
  k_steps
  · exact done _ _ _ _ _ _ _ (by assumption) (by assumption) (by assumption) (PopE.more (by assumption) (by assumption))
  · exact done _ _ _ _ _ _ _ (by assumption) (by assumption) (by assumption) (PopE.one (by assumption) (by assumption))
end
end Mine
end
section -- MgE
open PySem PySem.W PyProof.Rows PySem.Calls PyProof.V PySem.Spec
set_option maxRecDepth 100000
namespace Mine
section
variable {prog : Program} {w : World} {A : Around} {E : Value → Shared → Prop} {s : Shared} {h₀ : Heap} {body : List Stmt} {Q : Flow → Shared → Prop} {L a : Addr} {cn : Str} {cs : Scope} {ccd : Value} {cl : List (Str × Addr)}
def CellJ (c : Addr) (J : (Str → Option Value) → List (Addr × Obj) → Prop) (m : Str → Option Value) (nx : List (Addr × Obj)) : Prop :=
  ∃ o rest v, nx = (c, o) :: rest ∧ o.data = Data.cell v ∧ J m rest
theorem pairs_iterC {l c : Addr} {vs : List Value} {nn : Nat} {m₀ : Str → Option Value} {rest₀ : List (Addr × Obj)} {o₀ : Obj} {v₀ : Option Value} {xa xb : Str} {pa pb pt : Pos} {x1 : Nat} {qs : List (Int × Int)}
    (J : Nat → (Str → Option Value) → List (Addr × Obj) → Prop)
    (hh : A.handled = none) (hl : (l, listOf vs.toArray nn) ∈ rest₀) (hca : cl.lookup xa = some c) (hka : (envX cn cs L a ccd cl).kindOf xa = some .cell) (hkb : (envX cn cs L a ccd cl).kindOf xb = some .local) (hk : cs.kind = .function)
    (F : Fr h₀ L s.heap m₀) (N : News h₀ L s.heap ((c, o₀) :: rest₀)) (ho : o₀.data = Data.cell v₀) (hj : J 0 m₀ rest₀)
    (hkeep : ∀ i m nx, J i m nx → (l, listOf vs.toArray nn) ∈ nx ∧ DatAll nx vs (qs.map encP) ∧ ∀ p ∈ nx, p.1 ≠ c)
    (turn : ∀ i p q tp tq m₁ rest o' h tk own (s₁ : Shared), qs[i]? = some (p, q) → OwnOff own (c :: rest.map (·.1)) → J i m₁ rest → o'.data = Data.cell (some (.int p tp)) →
      Fr h₀ L h (fun y => if y = xb then some (.int q tq) else m₁ y) → News h₀ L h ((c, o') :: (rest ++ own)) →
      wpAny (model prog w) A (execs body (envX cn cs L a ccd cl)) (PEnd h₀ L (CellJ c (J (i + 1))) own { s₁ with heap := h, toks := tk }) E { s₁ with heap := h, toks := tk })
    (done : ∀ m₁ rest o h tk, J qs.length m₁ rest → Fr h₀ L h m₁ → News h₀ L h ((c, o) :: rest) → Q .next { s with heap := h, toks := tk }) :
    wpAny (model prog w) A (pyIter (.ref l)) (fun it s₂ => LoopAtT prog w A h₀ (envX cn cs L a ccd cl) (.Tuple [.Name xa pa, .Name xb pb] x1 pt) body Q E it s₂) E s := by
  have hl' : (l, listOf vs.toArray nn) ∈ (c, o₀) :: rest₀ := .tail _ hl
  have hol : s.heap.get? l = some (listOf vs.toArray nn) := (N _ hl').1
  have hls : s.heap.IsList l vs.toArray := ⟨_, hol, rfl, nn, rfl⟩
  have hne : l ≠ s.heap.objs.size := Nat.ne_of_lt (Heap.lt_size hol)
  have hlenq : vs.length = qs.length := by rw [(hkeep 0 m₀ rest₀ hj).2.1.length, List.length_map]
  refine wpAny_pyIter_list hls ?_
  have W := Walks.list (prog := prog) (w := w) hh s.heap.objs.size l hne vs.toArray
  have hlen : vs.toArray.size = vs.length := by simp
  rw [hlen] at W
  refine ⟨_, _, _, vs.length, _, _, m₀, (c, o₀) :: rest₀, fun i => CellJ c (J i), rfl, W, ?_, ?_, ?_, ⟨⟨_, Heap.get?_push_size _ rfl, rfl, rfl⟩, hls.at fun o e => Heap.get?_push_of_some _ e⟩, F.push _, (fun p hp => ⟨Heap.get?_push_of_some _ (N p hp).1, (N p hp).2⟩), ?_, ⟨o₀, rest₀, v₀, rfl, ho, hj⟩, ?_, ?_⟩
  · intro hm
    rcases List.mem_cons.mp hm with e | hm
    · exact absurd F.ns.lt (e ▸ Nat.lt_irrefl _)
    · exact (N _ hl').2.1 ((List.mem_singleton.mp hm).symm)
  · intro b hb
    rw [List.mem_singleton.mp hb]
    exact next_is_new F
  · intro p hp hI
    exact absurd (Heap.lt_size (N p hp).1) ((List.mem_singleton.mp hI) ▸ Nat.lt_irrefl _)
  · intro i s' v Q' hst hQ
    cases v with
    | ref T => exact wpAny_letOwnedTupleGo_listiter hst.1 hQ
    | _ => exact wpAny_pure hQ
  · rintro i v m₁ news₁ s₁ own hin hP ⟨o, rest, v₁, rfl, hov, hJ⟩ hoff hown hget hfp hst F₁ N₁
    obtain ⟨hl₁, hd₁, hc₁⟩ := hkeep i m₁ rest hJ
    have hP' : vs[i]? = some v := by simpa using hP
    obtain ⟨p, q, tp, tq, t, n, hq, rfl, hmt⟩ := enc_at hd₁ hP'
    have ht : IsTup s₁.heap t #[.int p tp, .int q tq] := ⟨_, (N₁ _ (List.mem_append.mpr (.inr (.tail _ hmt)))).1, rfl, n, rfl⟩
    have hI0 : h₀.get? s.heap.objs.size = none := next_is_new F
    obtain ⟨⟨oI, hoI, _⟩, _⟩ := id hst
    have hIown : (s.heap.objs.size, oI) ∈ own.filter fun p => decide (p.1 = s.heap.objs.size) := List.mem_filter.mpr ⟨hfp _ (List.mem_cons.mpr (.inl rfl)) hI0 _ hoI, by simp⟩
    have hsep : OwnOff (own.filter fun p => decide (p.1 = s.heap.objs.size)) (((c, o) :: rest).map (·.1)) := by
      intro p hp b hb e
      obtain ⟨q, hq, rfl⟩ := List.mem_map.mp hb
      have h1 : p.1 = s.heap.objs.size := by simpa using (List.mem_filter.mp hp).2
      exact hoff q hq (List.mem_singleton.mpr (e ▸ h1))
    have N₂ : News h₀ L s₁.heap ((c, o) :: (rest ++ own.filter fun p => decide (p.1 = s.heap.objs.size))) := fun p hp => N₁ p ((List.mem_append.mp (show p ∈ ((c, o) :: rest) ++ own.filter fun p => decide (p.1 = s.heap.objs.size) from hp)).elim (fun h => List.mem_append.mpr (.inr h)) fun h => List.mem_append.mpr (.inl ((List.mem_filter.mp h).1)))
    refine assign_Tuple_tuple hh ht rfl rfl fun h₅ he => ?_
    have he' : ∀ b o, s₁.heap.get? b = some o → h₅.get? b = some o := fun b o e => he b o (Nat.ne_of_lt (Heap.lt_size e)) e
    have F₅ := F₁.keeps he'
    have N₅ : News h₀ L h₅ ((c, o) :: (rest ++ own.filter fun p => decide (p.1 = s.heap.objs.size))) := fun p hp => ⟨he' _ _ (N₂ p hp).1, (N₂ p hp).2⟩
    have U : UpdF c o ((c, o) :: (rest ++ own.filter fun p => decide (p.1 = s.heap.objs.size))) (fun o' => (c, o') :: (rest ++ own.filter fun p => decide (p.1 = s.heap.objs.size))) := by
      refine UpdF.head fun p hp => ?_
      rcases List.mem_append.mp hp with h | h
      · exact hc₁ p h
      · exact hsep p h c (.head _)
    refine assignInOrder_cons (wpAny_assign_Name (storeX_C F₅ N₅ hca U hov (fun h₆ o' F₆ N₆ hd₆ => ?_) hk hka))
    refine assignInOrder_cons (wpAny_assign_Name (storeX_L F₆ N₆ (fun h₇ F₇ N₇ => ?_) hk hkb))
    refine assignInOrder_nil ?_
    refine wpAny_mono (turn i p q tp tq m₁ rest o' h₇ _ _ s₁ hq hsep hJ hd₆ F₇ N₇) (fun f s₂ e => ?_) fun _ _ e => e
    obtain ⟨rfl, h', tk, m', news', nx, e, F', N', hn, ho', ha, hm⟩ := e
    refine ⟨rfl, h', tk, m', nx, e, F', fun p hp => ?_, fun p hp hq => ?_, hm⟩
    · rcases List.mem_append.mp hp with h | h
      · by_cases hI : p.1 = s.heap.objs.size
        · exact N' p (ho' p (List.mem_filter.mpr ⟨h, by simpa using hI⟩))
        · have h1 : p.1 = l := by
            rcases List.mem_cons.mp (hown p h) with h2 | h2
            · exact absurd h2 hI
            · exact List.mem_singleton.mp h2
          have h2 : s₁.heap.get? p.1 = some p.2 := hget p h
          have hlo : s₁.heap.get? l = some (listOf vs.toArray nn) := (N₁ _ (List.mem_append.mpr (.inr (.tail _ hl₁)))).1
          rw [h1, hlo] at h2
          have h3 : p = (l, listOf vs.toArray nn) := Prod.ext h1 (Option.some.inj h2).symm
          rw [h3]
          obtain ⟨o9, r9, v9, rfl, _, hJ9⟩ := hm
          exact N' _ (hn _ (.tail _ (hkeep _ _ _ hJ9).1))
      · exact N' p (hn p h)
    · exact ha _ hIown p.1 (List.mem_map.mpr ⟨p, hp, rfl⟩) (List.mem_singleton.mp hq).symm
  · rintro h' tk m' news' F' N' _ ⟨o, rest, v, rfl, _, hJ⟩
    rw [hlenq] at hJ
    exact done m' rest o h' tk hJ F' N'
end
end Mine
end
section -- MgF
open PySem PySem.W PyProof.Rows PySem.Calls PyProof.V PySem.Spec
set_option maxRecDepth 100000
namespace Mine
section
variable {prog : Program} {w : World} {A : Around} {E : Value → Shared → Prop} {s : Shared} {h₀ : Heap} {body : List Stmt} {Q : Flow → Shared → Prop} {L a : Addr} {cn : Str} {cs : Scope} {ccd : Value} {cl : List (Str × Addr)}
def Apart (lR lG cR c l : Nat) : Prop := lR ≠ lG ∧ lR ≠ cR ∧ lR ≠ c ∧ lR ≠ l
def TabJ (cR lG l c : Addr) (lobj : Obj) (C : List (Addr × Obj)) (m₀ : Str → Option Value) (P : List Dat → List Int → Prop) (m : Str → Option Value) (nx : List (Addr × Obj)) : Prop :=
  ∃ gv gs ng lR rv rs nR oR, nx = (lG, listOf gv.toArray ng) :: (lR, listOf rv.toArray nR) :: (cR, oR) :: (l, lobj) :: C ∧ oR.data = Data.cell (some (.ref lR)) ∧ DatAll [] gv gs ∧ IntsAre rv rs ∧
    Apart lR lG cR c l ∧ OwnOff C [lR] ∧
    (∀ z, z ≠ Str.ofString "much" → z ≠ Str.ofString "fits" → z ≠ Str.ofString "farther" → z ≠ Str.ofString "k" → m z = m₀ z) ∧ P gs rs
theorem tab_fr {m₀ m₁ : Str → Option Value} {q : Int} {tq : Tok} (h3 : ∀ z, z ≠ Str.ofString "much" → z ≠ Str.ofString "fits" → z ≠ Str.ofString "farther" → z ≠ Str.ofString "k" → m₁ z = m₀ z) :
    (fun y => if y = Str.ofString "much" then some (Value.int q tq) else if y = Str.ofString "fits" then m₁ y else if y = Str.ofString "farther" then m₁ y else if y = Str.ofString "k" then m₁ y else m₀ y) = fun y => if y = Str.ofString "much" then some (Value.int q tq) else m₁ y := by
  funext y
  by_cases c1 : y = Str.ofString "much"
  · simp [c1]
  by_cases c2 : y = Str.ofString "fits"
  · simp [c2]
  by_cases c3 : y = Str.ofString "farther"
  · simp [c3]
  by_cases c4 : y = Str.ofString "k"
  · simp [c4]
  rw [if_neg c1, if_neg c2, if_neg c3, if_neg c4, if_neg c1, h3 y c1 c2 c3 c4]
theorem tab_fr' {m₀ m₁ : Str → Option Value} (h3 : ∀ z, z ≠ Str.ofString "much" → z ≠ Str.ofString "fits" → z ≠ Str.ofString "farther" → z ≠ Str.ofString "k" → m₁ z = m₀ z) :
    (fun y => if y = Str.ofString "much" then m₁ y else if y = Str.ofString "fits" then m₁ y else if y = Str.ofString "farther" then m₁ y else if y = Str.ofString "k" then m₁ y else m₀ y) = m₁ := by
  funext y
  by_cases c1 : y = Str.ofString "much"
  · simp [c1]
  by_cases c2 : y = Str.ofString "fits"
  · simp [c2]
  by_cases c3 : y = Str.ofString "farther"
  · simp [c3]
  by_cases c4 : y = Str.ofString "k"
  · simp [c4]
  rw [if_neg c1, if_neg c2, if_neg c3, if_neg c4, h3 y c1 c2 c3 c4]
theorem table_loop {l c cR lG lR₀ : Addr} {vs : List Value} {nn : Nat} {m₀ : Str → Option Value} {C : List (Addr × Obj)} {o₀ oR₀ : Obj} {v₀ : Option Value} {start : Int} {t₀ : Tok} {pa pb pt : Pos} {x1 : Nat} {qs : List (Int × Int)}
    (P : List (Int × Int) → List Dat → List Int → Prop)
    (hh : A.handled = none) (hca : cl.lookup (Str.ofString "place") = some c) (hka : (envX cn cs L a ccd cl).kindOf (Str.ofString "place") = some .cell) (hkb : (envX cn cs L a ccd cl).kindOf (Str.ofString "much") = some .local) (hk : cs.kind = .function)
    (F : Fr h₀ L s.heap m₀) (N : News h₀ L s.heap ((lG, listOf #[] 0) :: (lR₀, listOf #[.int start t₀] 0) :: (c, o₀) :: (cR, oR₀) :: (l, listOf vs.toArray nn) :: C)) (ho : o₀.data = Data.cell v₀) (hoR : oR₀.data = Data.cell (some (.ref lR₀)))
    (hd : DatAll C vs (qs.map encP)) (hap : Apart lR₀ lG cR c l) (hapC : OwnOff C [lR₀])
    (hc1 : (lG : Nat) ≠ c) (hc2 : (cR : Nat) ≠ c) (hc3 : (l : Nat) ≠ c) (hc4 : ∀ p ∈ C, p.1 ≠ c)
    (hP : P [] [] [start])
    (turn : ∀ (gv : List Value) (gs : List Dat) ng (lR : Addr) (rv : List Value) (rs : List Int) nR (oR oP : Obj) pre p q post tp tq (u : Str → Option Value) h tk own (s₁ : Shared), qs = pre ++ (p, q) :: post → gv.length = gs.length → rv.length = rs.length →
      OwnOff own (c :: lG :: lR :: cR :: l :: C.map (·.1)) → Apart lR lG cR c l → OwnOff C [lR] → DatAll [] gv gs → IntsAre rv rs → P pre gs rs →
      oP.data = Data.cell (some (.int p tp)) → oR.data = Data.cell (some (.ref lR)) →
      Fr h₀ L h (fun y => if y = Str.ofString "much" then some (.int q tq) else if y = Str.ofString "fits" then u y else if y = Str.ofString "farther" then u y else if y = Str.ofString "k" then u y else m₀ y) →
      News h₀ L h ((c, oP) :: (lG, listOf gv.toArray ng) :: (lR, listOf rv.toArray nR) :: (cR, oR) :: (l, listOf vs.toArray nn) :: (C ++ own)) →
      wpAny (model prog w) A (execs body (envX cn cs L a ccd cl)) (PEnd h₀ L (CellJ c (TabJ cR lG l c (listOf vs.toArray nn) C m₀ (P (pre ++ [(p, q)])))) own { s₁ with heap := h, toks := tk }) E { s₁ with heap := h, toks := tk })
    (done : ∀ (gv : List Value) (gs : List Dat) ng (u : Str → Option Value) h tk rs news', gv.length = gs.length → DatAll [] gv gs → P qs gs rs →
      Fr h₀ L h (fun y => if y = Str.ofString "much" then u y else if y = Str.ofString "fits" then u y else if y = Str.ofString "farther" then u y else if y = Str.ofString "k" then u y else m₀ y) →
      News h₀ L h ((lG, listOf gv.toArray ng) :: (l, listOf vs.toArray nn) :: C) → News h₀ L h news' → Q .next { s with heap := h, toks := tk }) :
    wpAny (model prog w) A (pyIter (.ref l)) (fun it s₂ => LoopAtT prog w A h₀ (envX cn cs L a ccd cl) (.Tuple [.Name (Str.ofString "place") pa, .Name (Str.ofString "much") pb] x1 pt) body Q E it s₂) E s := by
  have N₀ : News h₀ L s.heap ((c, o₀) :: (lG, listOf #[] 0) :: (lR₀, listOf #[.int start t₀] 0) :: (cR, oR₀) :: (l, listOf vs.toArray nn) :: C) := by
    intro p hp
    apply N p
    simp only [List.mem_cons] at hp ⊢
    rcases hp with h | h | h | h
    · exact .inr (.inr (.inl h))
    · exact .inl h
    · exact .inr (.inl h)
    · exact .inr (.inr (.inr h))
  refine pairs_iterC (nn := nn) (vs := vs) (qs := qs) (fun i m nx => TabJ cR lG l c (listOf vs.toArray nn) C m₀ (P (qs.take i)) m nx) hh (.tail _ (.tail _ (.tail _ (.head _)))) hca hka hkb hk F N₀ ho ?_ ?_ ?_ ?_
  · exact ⟨[], [], 0, lR₀, [.int start t₀], [start], 0, oR₀, rfl, hoR, .nil, .cons _ _ .nil, hap, hapC, fun _ _ _ _ _ => rfl, hP⟩
  · rintro i m nx ⟨gv, gs, ng, lR, rv, rs, nR, oR, rfl, h1, h2, h3, h4, h5, h6, h7⟩
    refine ⟨.tail _ (.tail _ (.tail _ (.head _))), hd.mono fun p hp => .tail _ (.tail _ (.tail _ (.tail _ hp))), ?_⟩
    intro p hp
    simp only [List.mem_cons] at hp
    rcases hp with rfl | rfl | rfl | rfl | hp
    · exact hc1
    · exact h4.2.2.1
    · exact hc2
    · exact hc3
    · exact hc4 p hp
  · rintro i p q tp tq m₁ nx oP h tk own s₁ hq hoff ⟨gv, gs, ng, lR, rv, rs, nR, oR, rfl, h1, h2, h3, h4, h5, h6, h7⟩ hoP F₁ N₁
    have hi : i < qs.length := (List.getElem?_eq_some_iff.mp hq).1
    have e1 : qs.take (i + 1) = qs.take i ++ [(p, q)] := by simp [List.take_add_one, hq]
    have e2 : qs = qs.take i ++ (p, q) :: qs.drop (i + 1) := by
      have h9 := List.take_append_drop (i + 1) qs
      rw [e1, List.append_assoc] at h9
      exact h9.symm
    rw [e1]
    refine turn gv gs ng lR rv rs nR oR oP _ p q _ tp tq m₁ h tk own s₁ e2 h2.length h3.length (by simpa using hoff) h4 h5 h2 h3 h7 hoP h1 ?_ (by simpa using N₁)
    rw [tab_fr h6]
    exact F₁
  · rintro m₁ nx o h tk ⟨gv, gs, ng, lR, rv, rs, nR, oR, rfl, h1, h2, h3, h4, h5, h6, h7⟩ F₁ N₁
    rw [List.take_length] at h7
    refine done gv gs ng m₁ h tk rs _ h2.length h2 h7 ?_ ?_ N₁
    · rw [tab_fr' h6]
      exact F₁
    · intro p hp
      apply N₁ p
      simp only [List.mem_cons] at hp ⊢
      rcases hp with h | h | h
      · exact .inr (.inl h)
      · exact .inr (.inr (.inr (.inr (.inl h))))
      · exact .inr (.inr (.inr (.inr (.inr h))))
theorem table_end {l c cR lG lR : Addr} {lobj : Obj} {C : List (Addr × Obj)} {m₀ m' : Str → Option Value} {P : List Dat → List Int → Prop} {own news' : List (Addr × Obj)} {s₁ : Shared} {h' : Heap} {tk : Nat}
    {gv : List Value} {gs : List Dat} {ng : Nat} {rv : List Value} {rs : List Int} {nR : Nat} {oR oP : Obj} {vP : Option Value}
    (F : Fr h₀ L h' m') (N : News h₀ L h' news') (h1 : (lG, listOf gv.toArray ng) ∈ news') (h2 : (lR, listOf rv.toArray nR) ∈ news') (h3 : (cR, oR) ∈ news') (h5 : (c, oP) ∈ news') (h6 : (l, lobj) ∈ news') (h7 : ∀ p ∈ C, p ∈ news') (h8 : ∀ p ∈ own, p ∈ news')
    (hoff : OwnOff own (c :: lG :: lR :: cR :: l :: C.map (·.1))) (hap : Apart lR lG cR c l) (hapC : OwnOff C [lR]) (hoP : oP.data = Data.cell vP) (hoR : oR.data = Data.cell (some (.ref lR))) (hI : IntsAre rv rs)
    (hsame : ∀ z, z ≠ Str.ofString "much" → z ≠ Str.ofString "fits" → z ≠ Str.ofString "farther" → z ≠ Str.ofString "k" → m' z = m₀ z) (hD : DatAll [] gv gs) (hP : P gs rs) :
    PEnd h₀ L (CellJ c (TabJ cR lG l c lobj C m₀ P)) own s₁ .next { s₁ with heap := h', toks := tk } := by
  refine ⟨rfl, h', tk, m', news', (c, oP) :: (lG, listOf gv.toArray ng) :: (lR, listOf rv.toArray nR) :: (cR, oR) :: (l, lobj) :: C, rfl, F, N, ?_, h8, by simpa using hoff, oP, _, vP, rfl, hoP, gv, gs, ng, lR, rv, rs, nR, oR, rfl, hoR, hD, hI, hap, hapC, hsame, hP⟩
  intro p hp
  simp only [List.mem_cons] at hp
  rcases hp with rfl | rfl | rfl | rfl | rfl | hp
  · exact h5
  · exact h1
  · exact h2
  · exact h3
  · exact h6
  · exact h7 p hp
end
end Mine
end
section -- MgG
open PySem PySem.W PyProof.Rows PySem.Calls PyProof.V PySem.Spec
set_option maxRecDepth 100000
namespace Mine
section
variable {prog : Program} {w : World} {A : Around} {s : Shared} {h₀ : Heap} {L : Addr} {m : Str → Option Value} {env : Env}
theorem CompEnd.up {I C D : Addr} {oI oC oD : Obj} {s₁ : Shared} {S : List (Addr × Obj) → Prop} {r r' : Value → List (Addr × Obj) → Prop} {y : Value} {s₂ : Shared} (h : LCg.CompEnd h₀ L m s₁ I oI C oC D oD S r y s₂) (k : ∀ y n, r y n → r' y n) :
    LCg.CompEnd h₀ L m s₁ I oI C oC D oD S r' y s₂ := by
  obtain ⟨h', tk, n', e, F, N, o, hS, hr⟩ := h
  exact ⟨h', tk, n', e, F, N, o, hS, k _ _ hr⟩
theorem comp_ind {ct elt : Expr} {x : Str} {scope : Scope} {cl : List (Str × Addr)} {S : List (Addr × Obj) → Prop} {P : Nat → Value → Prop} {Fin : List Value → List (Addr × Obj) → Prop} {news : List (Addr × Obj)} {n : Nat}
    (J : Nat → List Value → Prop) (h0 : J 0 [])
    (step : ∀ i ys, i < n → J i ys → ∀ v I oI C oC D m₂ h tk (E' : Value → Shared → Prop), P i v → LCg.NsObj oC m₂ → m₂ x = some v → Fr h₀ L h m → News h₀ L h ((I, oI) :: (C, oC) :: (D, LCg.lst ys) :: news) → LCg.Off3 I C D news → ((@Ne Nat I C) ∧ (@Ne Nat I D) ∧ (@Ne Nat C D)) →
      wpAny (model prog w) A (isTrue ct (compEnvC scope cl C env) (eval ct (compEnvC scope cl C env))) (fun ok s' => if ok = true then
        wpAny (model prog w) A (eval elt (compEnvC scope cl C env)) (LCg.CompEnd h₀ L m { s with heap := h, toks := tk } I oI C oC D (LCg.lst ys) S (fun y news' => news' = news ∧ J (i + 1) (ys ++ [y]))) E' s'
        else LCg.CompEnd h₀ L m { s with heap := h, toks := tk } I oI C oC D (LCg.lst ys) S (fun _ news' => news' = news ∧ J (i + 1) ys) Value.none s') E' { s with heap := h, toks := tk })
    (fin : ∀ ys, J n ys → Fin ys news) : LCt.CompRestT prog w A h₀ L m env ct elt x scope cl s S P Fin n 0 [] news := by
  have H : ∀ k i ys, i + k = n → J i ys → LCt.CompRestT prog w A h₀ L m env ct elt x scope cl s S P Fin k i ys news := by
    intro k
    induction k with
    | zero =>
      intro i ys e hJ
      have e' : i = n := by omega
      subst e'
      exact fin ys hJ
    | succ k ih =>
      intro i ys e hJ
      refine LCt.CompRestT.succ ?_
      intro v I oI C oC D m₂ h tk E' hv hC hx F N off ne
      refine wpAny_mono (step i ys (by omega) hJ v I oI C oC D m₂ h tk E' hv hC hx F N off ne) (fun ok s' hk => ?_) fun _ _ e => e
      cases ok with
      | true =>
        simp only [if_true] at hk ⊢
        refine wpAny_mono hk (fun y s₂ hE => CompEnd.up hE fun y n' hr => ?_) fun _ _ e => e
        obtain ⟨rfl, hJ'⟩ := hr
        exact ih (i + 1) _ (by omega) hJ'
      | false =>
        simp only [Bool.false_eq_true, if_false] at hk ⊢
        refine CompEnd.up hk fun y n' hr => ?_
        obtain ⟨rfl, hJ'⟩ := hr
        exact ih (i + 1) _ (by omega) hJ'
  exact H n 0 [] (by omega) h0
end
end Mine
end
section -- MgL1
open PySem PySem.W PyProof.Rows
namespace Mine
/-- the places of the table from which one comes on, below n -/
def fitsTo (T : List Int) (p : Int) : Nat → List Int
  | 0 => []
  | i + 1 => fitsTo T p i ++ (if p ≤ T.getD i 0 then [(i : Int)] else [])
def updT (T : List Int) (much : Int) (F : List Int) (k : Int) : List Int :=
  F.set (k + 1).toNat (if T.getD k.toNat 0 + much > F.getD (k + 1).toNat 0 then T.getD k.toNat 0 + much else F.getD (k + 1).toNat 0)
def stepT (T : List Int) (p much : Int) : List Int :=
  (fitsTo T p T.length).foldl (updT T much) (T ++ [T.getD (-1 + (T.length : Int)).toNat 0])
def entryT (T : List Int) (p : Int) : Dat :=
  if (fitsTo T p T.length).length = 0 then Dat.none else Dat.int ((fitsTo T p T.length).getD 0 0)
def tstep (s : List Int × List Dat) (x : Int × Int) : List Int × List Dat := (stepT s.1 x.1 x.2, s.2 ++ [entryT s.1 x.1])
def trun (start : Int) (pre : List (Int × Int)) : List Int × List Dat := pre.foldl tstep ([start], [])
theorem trun_snoc (start : Int) (pre : List (Int × Int)) (x : Int × Int) : trun start (pre ++ [x]) = tstep (trun start pre) x := by
  unfold trun
  rw [List.foldl_append]
  rfl
def TbP (start : Int) (pre : List (Int × Int)) (gs : List Dat) (rs : List Int) : Prop := trun start pre = (rs, gs)
theorem tb_none {start p q : Int} {pre : List (Int × Int)} {gs : List Dat} {rs f : List Int} (h : TbP start pre gs rs) (hf : decide (fitsTo rs p rs.length = []) = true)
    (he : f = (fitsTo rs p rs.length).foldl (updT rs q) (rs ++ [rs.getD (-1 + (rs.length : Int)).toNat 0])) : TbP start (pre ++ [(p, q)]) (gs ++ [Dat.none]) f := by
  unfold TbP at h ⊢
  rw [trun_snoc, h, tstep, he]
  show (stepT rs p q, gs ++ [entryT rs p]) = _
  have h0 : (fitsTo rs p rs.length).length = 0 := by rw [of_decide_eq_true hf]; rfl
  rw [entryT, if_pos h0, stepT]
theorem tb_some {start p q : Int} {pre : List (Int × Int)} {gs : List Dat} {rs f : List Int} (h : TbP start pre gs rs) (hf : 0 < (fitsTo rs p rs.length).length)
    (he : f = (fitsTo rs p rs.length).foldl (updT rs q) (rs ++ [rs.getD (-1 + (rs.length : Int)).toNat 0])) : TbP start (pre ++ [(p, q)]) (gs ++ [Dat.int ((fitsTo rs p rs.length).getD (Int.toNat 0) 0)]) f := by
  unfold TbP at h ⊢
  rw [trun_snoc, h, tstep, he]
  show (stepT rs p q, gs ++ [entryT rs p]) = _
  have h0 : ¬ (fitsTo rs p rs.length).length = 0 := by omega
  rw [entryT, if_neg h0, stepT]
  rfl
theorem tb_turn {T f b pre : List Int} {q k : Int} {N : Nat} (h1 : f.length = N) (h2 : f = pre.foldl (updT T q) b) :
    (f.set (k + 1).toNat (if T.getD k.toNat 0 + q > f.getD (k + 1).toNat 0 then T.getD k.toNat 0 + q else f.getD (k + 1).toNat 0)).length = N ∧
      f.set (k + 1).toNat (if T.getD k.toNat 0 + q > f.getD (k + 1).toNat 0 then T.getD k.toNat 0 + q else f.getD (k + 1).toNat 0) = (pre ++ [k]).foldl (updT T q) b := by
  refine ⟨by rw [List.length_set, h1], ?_⟩
  rw [List.foldl_append, ← h2]
  rfl
theorem fitsTo_len (T : List Int) (p : Int) : ∀ n, (fitsTo T p n).length ≤ n
  | 0 => Nat.le_refl _
  | n + 1 => by
    have := fitsTo_len T p n
    unfold fitsTo
    rw [List.length_append]
    split
    · simp; omega
    · simp; omega
theorem fits_in {T : List Int} {p : Int} {i : Nat} {ys : List Value} {t : Tok} (h : IntsAre ys (fitsTo T p i)) (hp : p ≤ T.getD ((i : Int)).toNat 0) : IntsAre (ys ++ [.int (i : Int) t]) (fitsTo T p (i + 1)) := by
  unfold fitsTo
  rw [Int.toNat_natCast] at hp
  rw [if_pos hp]
  k_intsEnd
theorem fits_out {T : List Int} {p : Int} {i : Nat} {ys : List Value} (h : IntsAre ys (fitsTo T p i)) (hp : ¬ p ≤ T.getD ((i : Int)).toNat 0) : IntsAre ys (fitsTo T p (i + 1)) := by
  unfold fitsTo
  rw [Int.toNat_natCast] at hp
  rw [if_neg hp, List.append_nil]
  exact h
theorem fits_bd {T : List Int} {p k : Int} : ∀ {n : Nat}, k ∈ fitsTo T p n → 0 ≤ k ∧ k < (n : Int)
  | 0, h => nomatch h
  | n + 1, h => by
    unfold fitsTo at h
    rcases List.mem_append.mp h with h | h
    · have := fits_bd h
      omega
    · split at h
      · have := List.mem_singleton.mp h
        omega
      · exact nomatch h
end Mine
end
section -- MgL3
open PySem PySem.W PyProof.Rows
namespace Mine
def scan : Int → List Int → List Int
  | r, [] => [r]
  | r, d :: D => r :: scan (r + d) D
def Alive (T : List Int) (lo : Int) (h : List Int) (r st : Int) : Prop :=
  ∃ A D, T = A ++ scan r D ∧ (A.length : Int) = st ∧ (∀ a ∈ A, a < lo) ∧ D.Pairwise (fun a b => b ≤ a) ∧ (∀ d ∈ D, 0 ≤ d) ∧ ∀ v, D.count v = h.count (-v)
def Dead (T : List Int) (lo : Int) (h : List Int) (r : Int) : Prop := T ≠ [] ∧ (∀ a ∈ T, a < lo) ∧ h = [] ∧ r < lo
def Rel (T : List Int) (lo : Int) (h : List Int) (r st : Int) : Prop := HOk h ∧ (Alive T lo h r st ∨ Dead T lo h r)
def WhR (p : Int) (h₀ : List Int) (r₀ s₀ : Int) (h : List Int) (r s : Int) : Prop := ∀ T, Rel T p h₀ r₀ s₀ → Rel T p h r s
def GInv (start : Int) (pre : List (Int × Int)) (gs : List Dat) (hs : List Int) (r st : Int) : Prop :=
  gs = (trun start pre).2 ∧ ∀ p, (∀ x ∈ pre, x.1 ≤ p) → Rel (trun start pre).1 p hs r st
theorem WhR.rfl {p r s : Int} {h : List Int} : WhR p h r s h r s := fun _ H => H
theorem g_start {start : Int} : GInv start [] [] [] start 0 := by
  refine ⟨Eq.refl _, fun p _ => ⟨fun i _ hl => absurd hl (Nat.not_lt_zero _), .inl ⟨[], [], Eq.refl _, Eq.refl _, fun _ h => (nomatch h), .nil, fun _ h => (nomatch h), fun _ => Eq.refl _⟩⟩⟩
theorem getD_mem {h : List Int} {i : Nat} (hi : i < h.length) : h.getD i 0 ∈ h := by
  rw [List.getD_eq_getElem?_getD, List.getElem?_eq_getElem hi]
  exact List.getElem_mem hi
theorem mem_getD {h : List Int} {x : Int} (hx : x ∈ h) : ∃ i, i < h.length ∧ h.getD i 0 = x := by
  obtain ⟨i, hi, e⟩ := List.getElem_of_mem hx
  exact ⟨i, hi, by rw [List.getD_eq_getElem?_getD, List.getElem?_eq_getElem hi]; exact e⟩
theorem wh_step {p r₀ s₀ r s v : Int} {h₀ h h' : List Int} (W : WhR p h₀ r₀ s₀ h r s) (hr : r < p) (P : PopE h v h') : WhR p h₀ r₀ s₀ h' (r - v) (s + 1) := by
  intro T H
  obtain ⟨p1, p2, p3, p4⟩ := P
  obtain ⟨hok, H⟩ := W T H
  refine ⟨p3 hok, ?_⟩
  have hl : 0 < h.length := by omega
  rcases H with ⟨A, D, rfl, hA, hlt, hs, hD, hc⟩ | ⟨_, _, hh, _⟩
  · left
    have hv : v ∈ h := by
      rw [p1]
      exact getD_mem hl
    have hvD : -v ∈ D := by
      have := hc (-v)
      rw [Int.neg_neg] at this
      have h2 := List.count_pos_iff.mpr hv
      exact List.count_pos_iff.mp (by omega)
    cases D with
    | nil => exact nomatch hvD
    | cons d D =>
      have hd1 : -v ≤ d := by
        rcases List.mem_cons.mp hvD with e | e
        · omega
        · exact (List.pairwise_cons.mp hs).1 _ e
      have hd2 : d ≤ -v := by
        have h1 := hc d
        have h2 : 0 < (d :: D).count d := List.count_pos_iff.mpr (.head _)
        have h3 : -d ∈ h := List.count_pos_iff.mp (by omega)
        obtain ⟨i, hi, e⟩ := mem_getD h3
        have h4 := hok.least i hi
        have p1' : v = h.getD 0 0 := p1
        omega
      have hd : d = -v := by omega
      subst hd
      refine ⟨A ++ [r], D, ?_, ?_, ?_, (List.pairwise_cons.mp hs).2, fun x hx => hD x (.tail _ hx), ?_⟩
      · show A ++ (r :: scan (r + -v) D) = A ++ [r] ++ scan (r - v) D
        rw [List.append_assoc, show r + -v = r - v by omega]
        exact Eq.refl _
      · rw [List.length_append]
        simp
        omega
      · intro a ha
        rcases List.mem_append.mp ha with ha | ha
        · exact hlt a ha
        · rw [List.mem_singleton.mp ha]; exact hr
      · intro x
        have h1 := hc x
        have h2 := p4 (-x)
        simp only [List.count_cons, beq_iff_eq] at h1 h2
        have e : (if -v = x then 1 else 0) = (if v = -x then 1 else 0 : Nat) := by
          by_cases c : -v = x
          · rw [if_pos c, if_pos (by omega)]
          · rw [if_neg c, if_neg (by omega)]
        omega
  · rw [hh] at hl
    exact absurd hl (Nat.lt_irrefl _)
/-! the table's step -/
theorem scan_ne (r : Int) (D : List Int) : scan r D ≠ [] := by cases D <;> simp [scan]
theorem scan_len : ∀ (r : Int) (D : List Int), (scan r D).length = D.length + 1
  | _, [] => Eq.refl _
  | r, d :: D => by show (scan (r + d) D).length + 1 = D.length + 1 + 1; rw [scan_len]
theorem scan_ge {p : Int} : ∀ {r : Int} {D : List Int}, p ≤ r → (∀ d ∈ D, 0 ≤ d) → ∀ x ∈ scan r D, p ≤ x
  | r, [], hr, _, x, hx => by rw [List.mem_singleton.mp hx]; exact hr
  | r, d :: D, hr, hD, x, hx => by
    rcases List.mem_cons.mp hx with rfl | hx
    · exact hr
    · have := hD d (.head _)
      exact scan_ge (by omega) (fun y hy => hD y (.tail _ hy)) x hx
theorem fits_nil {T : List Int} {p : Int} (h : ∀ a ∈ T, a < p) : ∀ n, n ≤ T.length → fitsTo T p n = []
  | 0, _ => Eq.refl _
  | n + 1, hn => by
    unfold fitsTo
    rw [fits_nil h n (by omega), if_neg]
    · exact Eq.refl _
    · have := h _ (getD_mem (show n < T.length by omega))
      omega
theorem fits_app {A S : List Int} {p : Int} (hA : ∀ a ∈ A, a < p) (hS : ∀ a ∈ S, p ≤ a) : ∀ k, k ≤ S.length → fitsTo (A ++ S) p (A.length + k) = (List.range k).map (fun i => ((A.length + i : Nat) : Int))
  | 0, _ => by
    have H : ∀ n, n ≤ A.length → fitsTo (A ++ S) p n = [] := by
      intro n
      induction n with
      | zero => intro _; exact Eq.refl _
      | succ n ih =>
        intro hn
        unfold fitsTo
        rw [ih (by omega), if_neg]
        · exact Eq.refl _
        · have h1 : (A ++ S).getD n 0 = A.getD n 0 := by
            simp only [List.getD_eq_getElem?_getD]
            rw [List.getElem?_append_left (by omega)]
          rw [h1]
          have := hA _ (getD_mem (show n < A.length by omega))
          omega
    rw [Nat.add_zero, H _ (Nat.le_refl _)]
    exact Eq.refl _
  | k + 1, hk => by
    show fitsTo (A ++ S) p (A.length + k + 1) = _
    unfold fitsTo
    rw [fits_app hA hS k (by omega), List.range_succ, List.map_append, if_pos]
    · exact Eq.refl _
    · have h1 : (A ++ S).getD (A.length + k) 0 = S.getD k 0 := by
        simp only [List.getD_eq_getElem?_getD]
        rw [List.getElem?_append_right (by omega)]
        congr 2
        omega
      rw [h1]
      exact hS _ (getD_mem (show k < S.length by omega))
theorem getD_left {A S : List Int} {j : Nat} (h : j < A.length) : (A ++ S).getD j 0 = A.getD j 0 := by
  simp only [List.getD_eq_getElem?_getD]
  rw [List.getElem?_append_left h]
theorem getD_right {A S : List Int} {j : Nat} : (A ++ S).getD (A.length + j) 0 = S.getD j 0 := by
  simp only [List.getD_eq_getElem?_getD]
  rw [List.getElem?_append_right (by omega)]
  congr 2
  omega
theorem ext_getD {a b : List Int} (hl : a.length = b.length) (h : ∀ j, j < a.length → a.getD j 0 = b.getD j 0) : a = b := by
  apply List.ext_getElem hl
  intro j h1 h2
  have := h j h1
  simp only [List.getD_eq_getElem?_getD] at this
  rw [List.getElem?_eq_getElem h1, List.getElem?_eq_getElem h2] at this
  exact this
def mx (a b : Int) : Int := if b > a then b else a
theorem fold_upd {T base : List Int} {q : Int} {a : Nat} : ∀ k, a + k < base.length →
    (((List.range k).map (fun i => ((a + i : Nat) : Int))).foldl (updT T q) base).length = base.length ∧
      ∀ j, (((List.range k).map (fun i => ((a + i : Nat) : Int))).foldl (updT T q) base).getD j 0 = if a < j ∧ j ≤ a + k then mx (base.getD j 0) (T.getD (j - 1) 0 + q) else base.getD j 0
  | 0, _ => ⟨Eq.refl _, fun j => by rw [if_neg (by omega)]; exact Eq.refl _⟩
  | k + 1, hk => by
    obtain ⟨h1, h2⟩ := fold_upd (T := T) (base := base) (q := q) (a := a) k (by omega)
    rw [List.range_succ, List.map_append, List.foldl_append]
    generalize ((List.range k).map (fun i => ((a + i : Nat) : Int))).foldl (updT T q) base = F at h1 h2
    have e1 : (((a + k : Nat) : Int) + 1).toNat = a + k + 1 := by omega
    have e2 : (((a + k : Nat) : Int)).toNat = a + k := by omega
    have e3 : F.getD (a + k + 1) 0 = base.getD (a + k + 1) 0 := by rw [h2, if_neg (by omega)]
    show (updT T q F ((a + k : Nat) : Int)).length = base.length ∧ _
    refine ⟨by unfold updT; rw [List.length_set, h1], fun j => ?_⟩
    show (updT T q F ((a + k : Nat) : Int)).getD j 0 = _
    unfold updT
    rw [e1, e2, e3, getD_set, h1]
    by_cases c : a + k + 1 = j
    · subst c
      have e4 : (if a < a + k + 1 ∧ a + k + 1 ≤ a + (k + 1) then mx (base.getD (a + k + 1) 0) (T.getD (a + k + 1 - 1) 0 + q) else base.getD (a + k + 1) 0) = mx (base.getD (a + k + 1) 0) (T.getD (a + k) 0 + q) := by
        rw [if_pos (by omega), Nat.add_sub_cancel]
      rw [e4, if_pos ⟨Eq.refl _, by omega⟩]
      exact Eq.refl _
    · rw [if_neg (by omega), h2]
      by_cases c2 : a < j ∧ j ≤ a + k
      · rw [if_pos c2, if_pos (by omega)]
      · rw [if_neg c2, if_neg (by omega)]
def nxt (q : Int) : Int → List Int → List Int
  | r, [] => [mx r (r + q)]
  | r, d :: D => mx (r + d) (r + q) :: nxt q (r + d) D
theorem nxt_len (q : Int) : ∀ (r : Int) (D : List Int), (nxt q r D).length = D.length + 1
  | _, [] => Eq.refl _
  | r, d :: D => by show (nxt q (r + d) D).length + 1 = _; rw [nxt_len]; exact Eq.refl _
theorem scan_zero (r : Int) (D : List Int) : (scan r D).getD 0 0 = r := by cases D <;> exact Eq.refl _
theorem nxt_get (q : Int) : ∀ (r : Int) (D : List Int) (i : Nat), i ≤ D.length →
    (nxt q r D).getD i 0 = mx ((scan r D ++ [(scan r D).getD D.length 0]).getD (i + 1) 0) ((scan r D).getD i 0 + q)
  | r, [], i, hi => by
    have : i = 0 := by simpa using hi
    subst this
    exact Eq.refl _
  | r, d :: D, 0, _ => by
    show mx (r + d) (r + q) = mx ((scan (r + d) D ++ [(scan (r + d) D).getD D.length 0]).getD 0 0) (r + q)
    rw [getD_left (by rw [scan_len]; omega), scan_zero]
  | r, d :: D, i + 1, hi => by
    show (nxt q (r + d) D).getD i 0 = mx ((scan (r + d) D ++ [(scan (r + d) D).getD D.length 0]).getD (i + 1) 0) ((scan (r + d) D).getD i 0 + q)
    exact nxt_get q (r + d) D i (by simpa using hi)
theorem step_app {A D : List Int} {p r q : Int} (hA : ∀ a ∈ A, a < p) (hr : p ≤ r) (hD : ∀ d ∈ D, 0 ≤ d) : stepT (A ++ scan r D) p q = A ++ (r :: nxt q r D) := by
  have hS := scan_ge hr hD
  have hl : (A ++ scan r D).length = A.length + (D.length + 1) := by rw [List.length_append, scan_len]
  have hlast : (-1 + ((A ++ scan r D).length : Int)).toNat = A.length + D.length := by omega
  unfold stepT
  rw [hlast, getD_right, hl, fits_app hA hS _ (by rw [scan_len]; omega)]
  have hb : (A ++ scan r D ++ [(scan r D).getD D.length 0]).length = A.length + (D.length + 2) := by
    rw [List.length_append, hl]; simp; omega
  obtain ⟨f1, f2⟩ := fold_upd (T := A ++ scan r D) (base := A ++ scan r D ++ [(scan r D).getD D.length 0]) (q := q) (a := A.length) (D.length + 1) (by omega)
  have hb2 : ∀ j, (A ++ scan r D ++ [(scan r D).getD D.length 0]).getD (A.length + j) 0 = (scan r D ++ [(scan r D).getD D.length 0]).getD j 0 := by
    intro j
    rw [List.append_assoc, getD_right]
  apply ext_getD
  · rw [f1, hb, List.length_append, List.length_cons, nxt_len]
  · intro j hj
    rw [f1, hb] at hj
    rw [f2]
    by_cases c1 : j < A.length
    · rw [if_neg (by omega), List.append_assoc, getD_left c1, getD_left c1]
    · obtain ⟨i, rfl⟩ : ∃ i, j = A.length + i := ⟨j - A.length, by omega⟩
      rw [hb2, getD_right]
      cases i with
      | zero =>
        rw [if_neg (by omega), getD_left (by rw [scan_len]; omega), scan_zero]
        exact Eq.refl _
      | succ i =>
        rw [if_pos (by omega), show A.length + (i + 1) - 1 = A.length + i by omega, getD_right]
        show _ = (nxt q r D).getD i 0
        rw [nxt_get q r D i (by omega)]
def ins (q : Int) : List Int → List Int
  | [] => [q]
  | d :: D => if d ≤ q then q :: d :: D else d :: ins q D
theorem nxt_big {q : Int} (hq : 0 ≤ q) : ∀ (r : Int) (D : List Int), (∀ d ∈ D, d ≤ q) → nxt q r D = scan (r + q) D
  | r, [], _ => by
    show [mx r (r + q)] = [r + q]
    unfold mx
    by_cases c : r + q > r
    · rw [if_pos c]
    · rw [if_neg c, show r + q = r by omega]
  | r, d :: D, h => by
    have h1 := h d (.head _)
    show mx (r + d) (r + q) :: nxt q (r + d) D = (r + q) :: scan (r + q + d) D
    rw [nxt_big hq (r + d) D (fun x hx => h x (.tail _ hx)), show r + d + q = r + q + d by omega]
    unfold mx
    by_cases c : r + q > r + d
    · rw [if_pos c]
    · rw [if_neg c, show r + d = r + q by omega]
theorem nxt_ins {q : Int} (hq : 0 ≤ q) : ∀ (r : Int) (D : List Int), D.Pairwise (fun a b => b ≤ a) → r :: nxt q r D = scan r (ins q D)
  | r, [], _ => by
    show r :: nxt q r [] = r :: [r + q]
    rw [nxt_big hq r [] (fun _ h => (nomatch h))]
    exact Eq.refl _
  | r, d :: D, h => by
    obtain ⟨h1, h2⟩ := List.pairwise_cons.mp h
    unfold ins
    by_cases c : d ≤ q
    · rw [if_pos c]
      show r :: nxt q r (d :: D) = r :: scan (r + q) (d :: D)
      rw [nxt_big hq r (d :: D)]
      intro x hx
      rcases List.mem_cons.mp hx with rfl | hx
      · exact c
      · have := h1 x hx
        omega
    · rw [if_neg c]
      show r :: mx (r + d) (r + q) :: nxt q (r + d) D = r :: scan (r + d) (ins q D)
      rw [← nxt_ins hq (r + d) D h2]
      unfold mx
      rw [if_neg (by omega)]
theorem ins_mem {q x : Int} : ∀ {D : List Int}, x ∈ ins q D → x = q ∨ x ∈ D
  | [], h => .inl (List.mem_singleton.mp h)
  | d :: D, h => by
    unfold ins at h
    by_cases c : d ≤ q
    · rw [if_pos c] at h
      rcases List.mem_cons.mp h with h | h
      · exact .inl h
      · exact .inr h
    · rw [if_neg c] at h
      rcases List.mem_cons.mp h with h | h
      · exact .inr (h ▸ .head _)
      · rcases ins_mem h with h | h
        · exact .inl h
        · exact .inr (.tail _ h)
theorem ins_pair {q : Int} : ∀ {D : List Int}, D.Pairwise (fun a b => b ≤ a) → (ins q D).Pairwise (fun a b => b ≤ a)
  | [], _ => by simp [ins]
  | d :: D, h => by
    obtain ⟨h1, h2⟩ := List.pairwise_cons.mp h
    unfold ins
    by_cases c : d ≤ q
    · rw [if_pos c]
      refine List.pairwise_cons.mpr ⟨?_, h⟩
      intro x hx
      rcases List.mem_cons.mp hx with rfl | hx
      · exact c
      · have := h1 x hx
        omega
    · rw [if_neg c]
      refine List.pairwise_cons.mpr ⟨?_, ins_pair h2⟩
      intro x hx
      rcases ins_mem hx with rfl | hx
      · omega
      · exact h1 x hx
theorem ins_count {q v : Int} : ∀ {D : List Int}, (ins q D).count v = D.count v + (if q = v then 1 else 0)
  | [] => by simp [ins, List.count_cons]
  | d :: D => by
    unfold ins
    by_cases c : d ≤ q
    · rw [if_pos c]
      simp only [List.count_cons, beq_iff_eq]
    · rw [if_neg c]
      simp only [List.count_cons, beq_iff_eq, ins_count (D := D)]
      omega
theorem g_some {start p q r₀ s₀ r s : Int} {pre : List (Int × Int)} {gs : List Dat} {h₀ h h' : List Int} (G : GInv start pre gs h₀ r₀ s₀) (hw : ∀ x ∈ pre, x.1 ≤ p) (hq : 0 ≤ q) (W : WhR p h₀ r₀ s₀ h r s) (hr : ¬ r < p) (P : PushE h (-q) h') :
    GInv start (pre ++ [(p, q)]) (gs ++ [Dat.int s]) h' r s := by
  obtain ⟨g1, g2⟩ := G
  obtain ⟨hok, H⟩ := W _ (g2 p hw)
  obtain ⟨p1, p2, p3⟩ := P
  rw [GInv, trun_snoc]
  rcases H with ⟨A, D, hT, hA, hlt, hs, hD, hc⟩ | ⟨_, _, _, hh⟩
  · have hfit : fitsTo (trun start pre).1 p (trun start pre).1.length = (List.range (D.length + 1)).map (fun i => ((A.length + i : Nat) : Int)) := by
      rw [hT, List.length_append, scan_len]
      exact fits_app hlt (scan_ge (by omega) hD) _ (by rw [scan_len]; omega)
    have hent : entryT (trun start pre).1 p = Dat.int s := by
      unfold entryT
      rw [hfit, if_neg (by rw [List.length_map, List.length_range]; omega), ← hA]
      rw [List.range_succ_eq_map]
      exact Eq.refl _
    refine ⟨?_, fun p' hp' => ⟨p2 hok, .inl ⟨A, ins q D, ?_, hA, ?_, ins_pair hs, ?_, ?_⟩⟩⟩
    · show gs ++ [Dat.int s] = (trun start pre).2 ++ [entryT (trun start pre).1 p]
      rw [hent, g1]
    · show stepT (trun start pre).1 p q = _
      rw [hT, step_app hlt (by omega) hD, nxt_ins hq r D hs]
    · intro a ha
      have h1 := hlt a ha
      have h2 : p ≤ p' := hp' (p, q) (by simp)
      omega
    · intro d hd
      rcases ins_mem hd with rfl | hd
      · exact hq
      · exact hD d hd
    · intro v
      have h1 := hc v
      have h2 := p3 (-v)
      rw [ins_count]
      simp only [List.count_append, List.count_cons, List.count_nil, beq_iff_eq] at h2
      have e : (if q = v then 1 else 0) = (if -q = -v then 1 else 0 : Nat) := by
        by_cases c : q = v
        · rw [if_pos c, if_pos (by omega)]
        · rw [if_neg c, if_neg (by omega)]
      omega
  · exact absurd hh hr
theorem g_none {start p q r₀ s₀ r s : Int} {pre : List (Int × Int)} {gs : List Dat} {h₀ h : List Int} (G : GInv start pre gs h₀ r₀ s₀) (hw : ∀ x ∈ pre, x.1 ≤ p) (W : WhR p h₀ r₀ s₀ h r s) (hr : r < p) (hh : decide (h = []) = true) :
    GInv start (pre ++ [(p, q)]) (gs ++ [Dat.none]) h r s := by
  obtain ⟨g1, g2⟩ := G
  obtain ⟨hok, H⟩ := W _ (g2 p hw)
  have hh := of_decide_eq_true hh
  subst hh
  have HD : (trun start pre).1 ≠ [] ∧ ∀ a ∈ (trun start pre).1, a < p := by
    rcases H with ⟨A, D, hT, hA, hlt, hs, hD, hc⟩ | ⟨h1, h2, _, _⟩
    · have hDn : D = [] := by
        cases D with
        | nil => exact Eq.refl _
        | cons d D =>
          have h1 := hc d
          have h2 : 0 < (d :: D).count d := List.count_pos_iff.mpr (.head _)
          simp at h1
      subst hDn
      rw [hT]
      refine ⟨by simp [scan], fun a ha => ?_⟩
      rcases List.mem_append.mp ha with ha | ha
      · exact hlt a ha
      · rw [List.mem_singleton.mp ha]; exact hr
    · exact ⟨h1, h2⟩
  obtain ⟨hne, hall⟩ := HD
  have hfit := fits_nil hall _ (Nat.le_refl _)
  rw [GInv, trun_snoc]
  refine ⟨?_, fun p' hp' => ⟨hok, .inr ⟨?_, ?_, Eq.refl _, ?_⟩⟩⟩
  · show gs ++ [Dat.none] = (trun start pre).2 ++ [entryT (trun start pre).1 p]
    unfold entryT
    rw [hfit, g1]
    exact Eq.refl _
  · show stepT (trun start pre).1 p q ≠ []
    unfold stepT
    rw [hfit]
    simp
  · intro a ha
    have h2 : p ≤ p' := hp' (p, q) (by simp)
    have ha : a ∈ stepT (trun start pre).1 p q := ha
    unfold stepT at ha
    rw [hfit] at ha
    have hlen : 0 < (trun start pre).1.length := List.length_pos_iff.mpr hne
    rcases List.mem_append.mp ha with ha | ha
    · have := hall a ha
      omega
    · rw [List.mem_singleton.mp ha]
      have := hall _ (getD_mem (h := (trun start pre).1) (i := (-1 + ((trun start pre).1.length : Int)).toNat) (by omega))
      omega
  · have h2 : p ≤ p' := hp' (p, q) (by simp)
    omega
end Mine
end
section -- MgT
open PySem PySem.W PyProof.Rows PySem.Calls PySem.Spec
namespace Mine
theorem offCells {C : List (Addr × Obj)} {L : Addr} (h : ∀ p ∈ C, p.1 < L) : OwnOff C [L + 1 + 1, L + 1] := by
  intro p hp b hb
  have h1 := h p hp
  rcases List.mem_cons.mp hb with rfl | hb
  · exact Nat.ne_of_lt (Nat.lt_of_lt_of_le h1 (Nat.le_trans (Nat.le_succ _) (Nat.le_succ _)))
  · rw [List.mem_singleton.mp hb]
    exact Nat.ne_of_lt (Nat.lt_of_lt_of_le h1 (Nat.le_succ _))
theorem offOne {C : List (Addr × Obj)} {d : Addr} (h : ∀ p ∈ C, p.1 ≠ d) : OwnOff C [d] := by
  intro p hp b hb
  rw [List.mem_singleton.mp hb]
  exact h p hp
theorem offOf1 {D : Addr} : ∀ {l : List (Addr × Obj)}, LCg.Off1 D l → OwnOff l [D]
  | [], _ => fun _ h => nomatch h
  | q :: r, h => fun p hp b hb => by
    rcases List.mem_cons.mp hp with rfl | hp
    · rw [List.mem_singleton.mp hb]; exact h.1
    · exact offOf1 h.2 p hp b hb
theorem pos_of_ne {l : List Int} (h : decide (l = []) = false) : 0 < l.length := by
  cases l with
  | nil => simp at h
  | cons a t => simp
theorem off_swap {own : List (Addr × Obj)} {c lG lR lR' cR l : Addr} {Cs : List Addr} (h : OwnOff own (c :: lG :: lR :: cR :: l :: Cs)) (h' : ∀ p ∈ own, p.1 ≠ lR') : OwnOff own (c :: lG :: lR' :: cR :: l :: Cs) := by
  intro p hp b hb
  simp only [List.mem_cons] at hb
  rcases hb with hb | hb | hb | hb
  · exact h p hp b (by simp [hb])
  · exact h p hp b (by simp [hb])
  · rw [hb]; exact h' p hp
  · exact h p hp b (by simp only [List.mem_cons]; exact .inr (.inr (.inr hb)))
section
variable {M : Program} {w : World} {A : Around} {E : Value → Shared → Prop} {s : Shared} {h₀ : Heap} {L a b : Addr}
theorem ne_led {vs us : List Value} {ns ms : List Int} {n k : Nat} {C : List (Addr × Obj)} {Q : Value → Shared → Prop} (N : News h₀ L s.heap C) (hm : (a, listOf vs.toArray n) ∈ C) (hi : IntsAre vs ns) (hm' : (b, listOf us.toArray k) ∈ C) (hi' : IntsAre us ms)
    (hu : A.units + 64 < cLine) (h : Q (.bool (!decide (ns = ms))) s) : wpAny (model M w) A (compareOp .NotEq (.ref a) (.ref b)) Q E s :=
  ne_intsK ⟨_, (N _ hm).1, rfl, n, rfl⟩ hi ⟨_, (N _ hm').1, rfl, k, rfl⟩ hi' hu h
end
section
variable {w : World} {A A₀ : Around} {E : Value → Shared → Prop} {s : Shared} {h₀ base : Heap} {L : Addr} {m mg mb : Str → Option Value} {mean : ExcName → Option Value} {Q : Value → Shared → Prop} {env : Env} {outer : List Env}
  {l : Addr} {vs : List Value} {qs : List (Int × Int)} {n : Nat} {C : List (Addr × Obj)}
local macro_rules | `(tactic| walk_at "InvEndN") => `(tactic| k_dflt ((rename News _ _ _ _ => nE'); (refine' kst_end ⟨_, _, _⟩ (by assumption) nE' ?zb ?zc ?zd ?ze ?zf ?zg ?zh); (case zb => kst_in); (case zc => (intro p hp; kst_mem)); (case zd => rfl); (case ze => kst_facts); (case zf => kst_all); (case zg => kst_same); (case zh => ((try dsimp only); with_reducible exact tb_turn (by assumption) (by assumption)))))
set_option maxRecDepth 100000 in
set_option maxHeartbeats 8000000 in
theorem table_call {start : Int} {t1 : Tok}
    (B : Below A₀ base outer h₀) (F : Fr h₀ L s.heap m) (X : (hd.heap_39 w.params).In h₀) (N : News h₀ L s.heap ((l, listOf vs.toArray n) :: C)) (T : Top hd.view_39 (looseW hd.view_39 []) mean mg mb h₀)
    (hA : A.frames = some (env :: outer)) (hf : env.frame = some L) (hke : env.scope.kind = .function) {e₁ : Env} (hAe : A = callerA.deeper e₁)
    (hoff : OwnOff C [l]) (hD : DatAll C vs (qs.map encP)) (hL : vs.length = qs.length) (hlen : qs.length ≤ 20)
    (done : ∀ h' tk lG gv ng, Fr h₀ L h' m → News h₀ L h' ((lG, listOf gv.toArray ng) :: (l, listOf vs.toArray n) :: C) → DatAll [] gv (trun start qs).2 → Q (.ref lG) { s with heap := h', toks := tk }) :
    wpAny (model PySem.Challenge.rw_mg0007_01.row.prog w) A (call (.ref 54) [.ref l, .int start t1]) Q E s := by
  have kM : KstMark := kstMark
  subst hAe
  have hh : (callerA.deeper e₁).handled = none := rfl
  w_top off
  revert X; k_fill; intro X
  refine wpAny_call ?_
  refine' code_defC ?k1 ?k2 ?k3 ?k4 ?k5 ?kA ?kF ?kK ?k6 ?k7 ?k8 ?k9 ?kB ?kD ?_ ?c2 ?c3 ?c4
  (case kA => exact hA); (case kF => exact hf); (case kK => exact hke); (case k1 => k_asm); (case k2 => k_asm); (case k3 => k_asm); (case k4 => k_asm); (case k5 => k_asm); (case k6 => k_is); (case k7 => k_is); (case k8 => (simp only [depth_deeper, depth_caller, recursionLimit]; omega)); (case k9 => first | exact BindsTo.of_eq rfl | exact binds_K (by k_in) rfl (by k_is) rfl rfl rfl); (case kB => exact rfl); (case kD => decide +kernel); (case c2 => exact rfl); (case c3 => exact rfl); (case c4 => exact rfl)
  intro g' L' h' tk' cells' FG' F' N' Y' B' X' T' l1; (try k_lt l1); k_cells Y'; (try simp only [List.cons_append, List.nil_append] at N'); (try dsimp only); (try k_fold)
  have kO : OwnOff C [L' + 1 + 1, L' + 1] := offCells (kst_ltOf l1.2)
  (k_with_none)
  (k_with "exec For Tuple Name cons nil" => (k_here; (rename Fr _ _ _ _ => lF'); (with_unfolding_all refine' For_invTF lF' ?_ ?hs; (case hs => intro _; rfl); k_whole)))
  k_steps
  (rename Fr _ _ _ _ => lF'); (rename News _ _ _ _ => lN')
  refine' table_loop (fun pre gs rs => gs.length = pre.length ∧ rs.length = pre.length + 1 ∧ TbP start pre gs rs) ?k1 ?k2 ?k3 ?k4 ?k5 lF' lN' ?k6 ?k7 hD ?k8 ?k9 ?k10 ?k11 ?k12 ?k13 ?k14 ?turn ?done
  case k1 => exact hh
  case k2 => rfl
  case k3 => rfl
  case k4 => rfl
  case k5 => rfl
  case k6 => assumption
  case k7 => assumption
  case k8 => exact ⟨by omega, by omega, by omega, by omega⟩
  case k9 => exact offOne (by k_all)
  case k10 => (refine neN ?_; omega)
  case k11 => (refine neN ?_; omega)
  case k12 => (refine neN ?_; omega)
  case k13 => exact fun p hp => kO p hp _ (.head _)
  case k14 => exact ⟨rfl, rfl, rfl⟩
  rotate_left
  · clear lF' lN'
    intro gv gs ng u h tk rs news' mgL1 mgD mgP mgF mgN mgN'
    clear mgN'
    have mgG : gs = (trun start qs).2 := by rw [mgP.2.2]
    subst mgG
    k_steps
    exact done _ _ _ _ _ (by assumption) (by assumption) mgD
  clear lF' lN'
  intro gv gs ng lR rv rs nR oR oP pre p q post tp tq u h tk own s₁ mgEq mgL1 mgL2 mgOff mgAp mgApC mgD mgI mgP mgoP mgoR mgF mgN
  obtain ⟨ap1, ap2, ap3, ap4⟩ := mgAp
  obtain ⟨mgP1, mgP2, mgP3⟩ := mgP
  have mgB : pre.length < qs.length := by rw [mgEq, List.length_append, List.length_cons]; omega
  try k_fold
  (k_with "compareOp NotEq ref ref" => (k_here; (rename News _ _ _ _ => lN'); (refine' ne_led lN' ?k1 ?k2 ?k3 ?k4 ?k5 ?_); (case k1 => exact .tail _ (.head _)); (case k2 => assumption); (case k3 => exact .head _); (case k4 => exact .nil); (case k5 => (simp only [units_deeper, units_caller, cLine_is]; omega))))
  (k_with "subscriptTail Name Constant ref int" => ((with_reducible rename decide (_ = ([] : List Int)) = false => hz9); (have hz8 := pos_of_ne hz9); clear hz9))
  (k_with "pyIter ref" => k_state (fun pre f => f.length = rs.length + 1 ∧ f = pre.foldl (updT rs q) (rs ++ [rs.getD (-1 + (rs.length : Int)).toNat 0])) "farther")
  (k_with "subscriptTail Name BinOp ref int" => (replace kMem := fits_bd kMem))
  (first | (k_unfold; (try dsimp only)) | (k_end; wrow_close) | walk1 | (dsimp only; walk1) | (leave1; walk_say "STEP leave1"; try dsimp only))
  (refine LCt.Assign_ListComp_T (F₀ := by k_asm) (by rfl) (by with_unfolding_all rfl) (by with_unfolding_all rfl) (by decide) (by rfl) (by decide) (by rfl) (by rfl) (by rfl) ?_)
  iterate 13 (first | (k_unfold; (try dsimp only)) | (k_end; wrow_close) | walk1 | (dsimp only; walk1) | (leave1; walk_say "STEP leave1"; try dsimp only))
  refine LCt.CompSrcT.range (n := rs.length) hh (by assumption) (by assumption) (by assumption) (small_one (by omega) (by omega) (by omega) (by omega)) (rangeSize_nat _ _) (by rw [sizeLine_eq]; omega) ?_
  intro gh
  refine comp_ind (fun i ys => IntsAre ys (fitsTo rs p i)) .nil ?step ?fin
  · intro i ys hin mgY v' I' oI' C' oC' D' m' h' tk' E' hv' hC' hx' F' N' off' ne'
    obtain ⟨t9', hv9'⟩ := hv'
    subst hv9'
    simp only [Int.zero_add] at hx'
    k_steps
    · exact LCg.CompEnd.intro F' N' _ (fun _ h => h) off' trivial ⟨rfl, fits_in mgY (by assumption)⟩
    · exact LCg.CompEnd.intro F' N' _ (fun _ h => h) off' trivial ⟨rfl, fits_out mgY (by assumption)⟩
  refine fun ys mgY D' h' tk' F' N' off' => ?_
  replace N' : News g' L' h' ((D', listOf ys.toArray ys.length) :: _) := N'
  dsimp only at F'
  simp only [LCg.Off1] at off'
  have mgOffD : OwnOff (C ++ own) [D'] := offOf1 off'.2.2.2.2.2
  have hfL := mgY.length
  have hfB := fitsTo_len rs p rs.length
  (k_with "exec For Name Name cons nil" => ((rename News _ _ _ _ => nP'); (simp only [List.push_toArray] at nP')))
  k_steps
  · ((rename News _ _ _ _ => nE'); (rename Fr _ _ _ _ => fE'); (simp only [List.push_toArray] at nE'); (refine' table_end fE' nE' ?h1 ?h2 ?h3 ?h5 ?h6 ?h7 ?h8 ?hoff ?hap ?hapC ?hoP ?hoR ?hI ?hsame ?hD ?hP); (case h3 => k_mem); (case hoR => assumption); (case h2 => k_mem); (case h1 => k_mem); (case h5 => k_mem); (case h6 => k_mem); (case h7 => (intro p9 h9; kst_mem)); (case h8 => (intro p9 h9; kst_mem)); (case hoff => exact off_swap mgOff (by k_all)); (case hap => exact ⟨by omega, by omega, by omega, by omega⟩); (case hapC => exact offOne (by k_all)); (case hoP => assumption); (case hI => assumption); (case hsame => (intro z h1 h2 h3 h4; simp [h1, h2, h3, h4])); (case hD => exact (DatAll.append mgD (.one .none))); (case hP => exact ⟨by (simp only [List.length_append, List.length_cons, List.length_nil]; omega), by (simp only [List.length_append, List.length_cons, List.length_nil]; omega), (tb_none mgP3 (by assumption) (by assumption))⟩))
  · ((rename News _ _ _ _ => nE'); (rename Fr _ _ _ _ => fE'); (simp only [List.push_toArray] at nE'); (refine' table_end fE' nE' ?h1 ?h2 ?h3 ?h5 ?h6 ?h7 ?h8 ?hoff ?hap ?hapC ?hoP ?hoR ?hI ?hsame ?hD ?hP); (case h3 => k_mem); (case hoR => assumption); (case h2 => k_mem); (case h1 => k_mem); (case h5 => k_mem); (case h6 => k_mem); (case h7 => (intro p9 h9; kst_mem)); (case h8 => (intro p9 h9; kst_mem)); (case hoff => exact off_swap mgOff (by k_all)); (case hap => exact ⟨by omega, by omega, by omega, by omega⟩); (case hapC => exact offOne (by k_all)); (case hoP => assumption); (case hI => assumption); (case hsame => (intro z h1 h2 h3 h4; simp [h1, h2, h3, h4])); (case hD => exact (DatAll.append mgD (.one (.int _ _)))); (case hP => exact ⟨by (simp only [List.length_append, List.length_cons, List.length_nil]; omega), by (simp only [List.length_append, List.length_cons, List.length_nil]; omega), (tb_some mgP3 (by assumption) (by assumption))⟩))
end
end Mine
end
section -- MgS
open PySem PySem.W PyProof.Rows PySem.Calls PySem.Spec
namespace Mine
theorem news_swap3 {h₀ h : Heap} {L : Addr} {a b c : Addr × Obj} {r : List (Addr × Obj)} (N : News h₀ L h (a :: b :: c :: r)) : News h₀ L h (c :: a :: b :: r) := by
  intro p hp
  apply N p
  simp only [List.mem_cons] at hp ⊢
  rcases hp with h | h | h | h
  · exact .inr (.inr (.inl h))
  · exact .inl h
  · exact .inr (.inl h)
  · exact .inr (.inr (.inr h))
theorem news_drop2 {h₀ h : Heap} {L : Addr} {a b : Addr × Obj} {r : List (Addr × Obj)} (N : News h₀ L h (a :: b :: r)) : News h₀ L h (a :: r) := by
  intro p hp
  apply N p
  simp only [List.mem_cons] at hp ⊢
  rcases hp with h | h
  · exact .inl h
  · exact .inr (.inr h)
theorem way_pre {qs pre post : List (Int × Int)} {p q top : Int} (h : Way qs top) (e : qs = pre ++ (p, q) :: post) : (∀ x ∈ pre, x.1 ≤ p) ∧ 0 ≤ q := by
  subst e
  obtain ⟨h1, _, h3⟩ := h
  refine ⟨fun x hx => ?_, h3 (p, q) (by simp)⟩
  exact (List.pairwise_append.mp h1).2.2 x hx (p, q) (by simp)
theorem news_swap2 {h₀ h : Heap} {L : Addr} {a b : Addr × Obj} {r : List (Addr × Obj)} (N : News h₀ L h (a :: b :: r)) : News h₀ L h (b :: a :: r) := by
  intro p hp
  apply N p
  simp only [List.mem_cons] at hp ⊢
  rcases hp with h | h | h
  · exact .inr (.inl h)
  · exact .inl h
  · exact .inr (.inr h)
section
variable {w : World} {A A₀ : Around} {E : Value → Shared → Prop} {s : Shared} {h₀ base : Heap} {L : Addr} {m mg mb : Str → Option Value} {mean : ExcName → Option Value} {Q : Value → Shared → Prop} {env : Env} {outer : List Env}
  {l : Addr} {vs : List Value} {qs : List (Int × Int)} {n : Nat} {C : List (Addr × Obj)}
set_option maxRecDepth 100000 in
set_option maxHeartbeats 8000000 in
theorem stops_call {start : Int} {t1 : Tok}
    (B : Below A₀ base outer h₀) (F : Fr h₀ L s.heap m) (X : (hd.heap_39 w.params).In h₀) (N : News h₀ L s.heap ((l, listOf vs.toArray n) :: C)) (T : Top hd.view_39 (looseW hd.view_39 []) mean mg mb h₀)
    (hA : A.frames = some (env :: outer)) (hf : env.frame = some L) (hke : env.scope.kind = .function) {e₁ : Env} (hAe : A = callerA.deeper e₁)
    (hD : DatAll C vs (qs.map encP)) (hL : vs.length = qs.length) (hlen : qs.length ≤ 20) {top : Int} (hway : Way qs top)
    (done : ∀ h' tk lG gv ng, Fr h₀ L h' m → News h₀ L h' ((lG, listOf gv.toArray ng) :: (l, listOf vs.toArray n) :: C) → (@Ne Nat lG l) → DatAll [] gv (trun start qs).2 → Q (.ref lG) { s with heap := h', toks := tk }) :
    wpAny (model PySem.Challenge.rw_mg0007_01.row.prog w) A (call (.ref 49) [.ref l, .int start t1]) Q E s := by
  have kM : KstMark := kstMark
  subst hAe
  have hh : (callerA.deeper e₁).handled = none := rfl
  w_top off
  revert X; k_fill; intro X
  refine wpAny_call ?_
  refine' code_def ?k1 ?k2 ?k3 ?k4 ?k5 ?kA ?kF ?kK ?k6 ?k7 ?k8 ?k9 ?kB ?_ ?c2 ?c3 ?c4 ?c5
  (case kA => exact hA); (case kF => exact hf); (case kK => exact hke); (case k1 => k_asm); (case k2 => k_asm); (case k3 => k_asm); (case k4 => k_asm); (case k5 => k_asm); (case k6 => k_is); (case k7 => k_is); (case k8 => (simp only [depth_deeper, depth_caller, recursionLimit]; omega)); (case k9 => first | exact BindsTo.of_eq rfl | exact binds_K (by k_in) rfl (by k_is) rfl rfl rfl); (case c5 => decide); (case kB => exact locs rfl); (case c2 => exact rfl); (case c3 => exact rfl); (case c4 => exact rfl)
  intro g' L' h' FG' F' N' B' X' T'; (try dsimp only); (try k_fold)
  (k_with_none)
  (k_with "exec For Tuple Name cons nil" => (k_here; (rename Fr _ _ _ _ => lF'); (with_unfolding_all refine' For_invTF lF' ?_ ?hs; (case hs => intro _; rfl); k_whole)))
  k_steps
  (rename Fr _ _ _ _ => lF'); (rename News _ _ _ _ => lN')
  refine' stops_loop (fun pre gs hs r st => gs.length = pre.length ∧ hs.length ≤ pre.length ∧ GInv start pre gs hs r st) ?k1 lF' ?k2 ?k3 ?k4 ?k5 ?k6 ?k7 ?k8 ?k9 ?k10 ?turn ?done
  case k2 => exact lN'
  case k3 => exact hD
  case k4 => exact fun p hp => .tail _ hp
  case k1 => exact hh
  case k5 => rfl
  case k6 => rfl
  case k7 => rfl
  case k8 => rfl
  case k9 => rfl
  case k10 => exact ⟨rfl, Nat.le_refl _, g_start⟩
  rotate_left
  · clear lF' lN'
    intro gv gs ng hv hs nh r tr st ts u h tk mgL1 mgD mgP mgF mgN
    have mgG : gs = (trun start qs).2 := mgP.2.2.1
    subst mgG
    have mgN2 := news_drop2 mgN
    clear mgN
    k_steps
    exact done _ _ _ _ _ (by assumption) (by assumption) (by omega) mgD
  clear lF' lN'
  intro gv gs ng hv hs nh r tr st ts pre p q post tp tq u h tk own s₁ mgEq mgL1 mgL2 mgOff mgD mgI mgP mgF mgN
  obtain ⟨mgP1, mgP2, mgP3⟩ := mgP
  have mgB : pre.length < qs.length := by rw [mgEq, List.length_append, List.length_cons]; omega
  have mgW := way_pre hway mgEq
  try k_fold
  (k_with "compareOp NotEq ref ref" => (k_here; (rename News _ _ _ _ => lN'); (refine' ne_led lN' ?k1 ?k2 ?k3 ?k4 ?k5 ?_); (case k1 => k_mem); (case k2 => assumption); (case k3 => exact .head _); (case k4 => exact .nil); (case k5 => (simp only [units_deeper, units_caller, cLine_is]; omega))))
  (k_with "subscriptTail Name Constant ref int" => ((with_reducible rename decide (_ = ([] : List Int)) = false => hz9); (have hz8 := pos_of_ne hz9); clear hz9))
  (k_with "exec While BoolOp cons nil" => k_while_given ["heap!", "reach!", "stops!", "place"] (fun h₀ r₀ s₀ p script h r s => h.length ≤ h₀.length ∧ WhR p h₀ r₀ s₀ h r s) (fun h₀ r₀ s₀ p script h r s => h.length) "heap" "reach" "stops")
  (k_with "state" => first | exact ⟨Nat.le_refl _, WhR.rfl⟩ | exact ⟨by omega, wh_step (by assumption) (by assumption) (by assumption)⟩)
  (k_with "call ref" => (k_here; (with_reducible show wpAny _ _ (call (Value.ref 28) _) _ _ _); (rename News _ _ _ _ => lN'); (refine' pop_call ?k1 ?k2 ?k3 (news_swap3 lN') ?k5 ?hA ?hf ?hke ?hr ?ho ?hi ?hl ?h2 ?h1 ?_); (case k1 => k_asm); (case k2 => k_asm); (case k3 => k_asm); (case k5 => k_asm); (case hA => exact Around.frames_deeper (Below.stack (by assumption))); (case hf => rfl); (case hke => rfl); (case hr => (simp only [depth_deeper, depth_caller, recursionLimit]; omega)); (case ho => exact offOne (by k_all)); (case hi => assumption); (case hl => exact IntsAre.length (by assumption)); (case h1 => omega); (case h2 => omega); (clear lN'; intro h' tk' vs' ns' n' v' t' F' N' hi' hE'; obtain ⟨hv9, hE1, hE2⟩ := id hE'; subst hv9)))
  (k_with "call ref" => (k_here; (with_reducible show wpAny _ _ (call (Value.ref 21) _) _ _ _); (rename News _ _ _ _ => lN'); (refine' push_call ?k1 ?k2 ?k3 (news_swap2 lN') ?k5 ?hA ?hf ?hke ?hr ?ho ?hi ?hl ?h2 ?_); (case k1 => k_asm); (case k2 => k_asm); (case k3 => k_asm); (case k5 => k_asm); (case hA => exact Around.frames_deeper (Below.stack (by assumption))); (case hf => rfl); (case hke => rfl); (case hr => (simp only [depth_deeper, depth_caller, recursionLimit]; omega)); (case ho => exact offOne (by k_all)); (case hi => assumption); (case hl => exact IntsAre.length (by assumption)); (case h2 => omega); (clear lN'; intro h' tk' vs' ns' n' F' N' hi' hE'; have hE1 := hE'.1)))
  k_steps
  · ((rename News _ _ _ _ => nE'); (rename Fr _ _ _ _ => fE'); (simp only [List.push_toArray] at nE'); (refine' stops_end fE' nE' ?h1 ?h2 ?h3 ?h4 ?hoff ?hI ?hr ?hst ?hsame ?hD ?hP); (case h1 => k_mem); (case h2 => k_mem); (case h3 => (refine List.forall_mem_cons.mpr ⟨by k_mem, ?_⟩; intro p9 h9; kst_mem)); (case h4 => (intro p9 h9; kst_mem)); (case hoff => exact mgOff); (case hI => assumption); (case hr => with_unfolding_all rfl); (case hst => with_unfolding_all rfl); (case hsame => (intro z h1 h2 h3 h4 h5; simp [h1, h2, h3, h4, h5])); (case hD => exact DatAll.append mgD (.one .none)); (case hP => exact ⟨by (simp only [List.length_append, List.length_cons, List.length_nil]; omega), by (simp only [List.length_append, List.length_cons, List.length_nil]; omega), g_none mgP3 mgW.1 (by assumption) (by assumption) (by assumption)⟩))
  · exact absurd rfl (by assumption)
  · ((rename News _ _ _ _ => nE'); (rename Fr _ _ _ _ => fE'); (simp only [List.push_toArray] at nE'); (refine' stops_end fE' nE' ?h1 ?h2 ?h3 ?h4 ?hoff ?hI ?hr ?hst ?hsame ?hD ?hP); (case h1 => k_mem); (case h2 => k_mem); (case h3 => (refine List.forall_mem_cons.mpr ⟨by k_mem, ?_⟩; intro p9 h9; kst_mem)); (case h4 => (intro p9 h9; kst_mem)); (case hoff => exact mgOff); (case hI => assumption); (case hr => with_unfolding_all rfl); (case hst => with_unfolding_all rfl); (case hsame => (intro z h1 h2 h3 h4 h5; simp [h1, h2, h3, h4, h5])); (case hD => exact DatAll.append mgD (.one (.int _ _))); (case hP => exact ⟨by (simp only [List.length_append, List.length_cons, List.length_nil]; omega), by (simp only [List.length_append, List.length_cons, List.length_nil]; omega), g_some mgP3 mgW.1 mgW.2 (by assumption) (by assumption) (by assumption)⟩))
end
end Mine
end
section -- MgM
open PySem PySem.W PyProof.Rows PySem.Calls PySem.Spec
namespace Mine
theorem trun_ok (start : Int) (qs : List (Int × Int)) : ∀ d ∈ (trun start qs).2, kqdOk 8 d = true := by
  have H : ∀ (qs : List (Int × Int)) (s : List Int × List Dat), (∀ d ∈ s.2, kqdOk 8 d = true) → ∀ d ∈ (qs.foldl tstep s).2, kqdOk 8 d = true := by
    intro qs
    induction qs with
    | nil => intro s h; exact h
    | cons x qs ih =>
      intro s h
      refine ih (tstep s x) ?_
      intro d hd
      rcases List.mem_append.mp hd with hd | hd
      · exact h d hd
      · rw [List.mem_singleton.mp hd]
        unfold entryT
        split <;> rfl
  exact H qs _ (fun _ h => nomatch h)
theorem way_len {qs : List (Int × Int)} {l : List Int} {m : Nat} (h : (qs.map encP).length = (List.take (min 9 m - 1) l ++ [37, 95, 48, 116, 59]).length) : qs.length ≤ 20 := by
  simp only [List.length_map, List.length_append, List.length_take, List.length_cons, List.length_nil] at h
  omega
section
variable {M : Program} {w : World} {A : Around} {E : Value → Shared → Prop} {s : Shared} {h₀ : Heap} {L a b : Addr}
theorem eq_logs {gv fv : List Value} {ds : List Dat} {n k : Nat} {C : List (Addr × Obj)} {Q : Value → Shared → Prop} (N : News h₀ L s.heap C) (hm : (a, listOf gv.toArray n) ∈ C) (hi : DatAll [] gv ds) (hm' : (b, listOf fv.toArray k) ∈ C) (hi' : DatAll [] fv ds)
    (hok : ∀ d ∈ ds, kqdOk 8 d = true) (hu : A.units + 64 < cLine) (h : Q (.bool true) s) : wpAny (model M w) A (compareOp .Eq (.ref a) (.ref b)) Q E s :=
  kqd_eq N hm rfl rfl hi (fun _ h => nomatch h) hm' rfl rfl hi' (fun _ h => nomatch h) hok hok hu (by simpa using h)
end
local macro_rules | `(tactic| walk_at "compareOp Eq ref ref") => `(tactic| k_extra "compareOp Eq ref ref")
set_option maxRecDepth 100000 in
set_option maxHeartbeats 8000000 in
theorem holds : PySem.Challenge.rw_mg0007_01.Holds := hd (by
  (k_with_none)
  (k_with "exec For Name BinOp cons nil" => (k_here; (rename Fr _ _ _ _ => lF'); (with_unfolding_all refine' For_invVF lF' ?k1 ?k2 ?_; (case k1 => exact rfl); (case k2 => exact rfl); k_whole)))
  (k_with "pyIter ref" => (k_of "number" => k_dat (fun pre place out => out.length = pre.length ∧ PlP pre place out) "place" "places*"))
  (k_with "state" => first | exact plp_start | exact plp_step ⟨by assumption, by assumption⟩)
  (k_with "call ref" => (k_here; (with_reducible show wpAny _ _ (call (Value.ref 49) _) _ _ _); k_dflt ((rename PlP _ _ _ => hPl); (obtain ⟨qs, rfl, hway⟩ := hPl); (rename News _ _ _ _ => lN'); (rename DatAll _ _ _ => lD'); (refine' stops_call ?k1 ?k2 ?k3 lN' ?k5 ?hA ?hf ?hke ?hAe lD' ?hl ?hn hway ?_); (case k1 => k_asm); (case k2 => k_asm); (case k3 => k_asm); (case k5 => k_asm); (case hA => rfl); (case hf => rfl); (case hke => rfl); (case hAe => rfl); (case hl => (rw [lD'.length, List.length_map])); (case hn => exact way_len (by assumption)); (clear lN'; intro h' tk' lG gv ng F' N' hne' hG'))))
  (k_with "call ref" => (k_here; (with_reducible show wpAny _ _ (call (Value.ref 54) _) _ _ _); k_dflt ((rename News _ _ _ _ => lN'); (refine' table_call ?k1 ?k2 ?k3 (news_swap2 lN') ?k5 ?hA ?hf ?hke ?hAe ?ho ?hd ?hl ?hn ?_); (case k1 => k_asm); (case k2 => k_asm); (case k3 => k_asm); (case k5 => k_asm); (case hA => rfl); (case hf => rfl); (case hke => rfl); (case hAe => rfl); (case hd => exact lD'.mono (fun p hp => .tail _ hp)); (case ho => exact offOne (by k_all)); (case hl => (rw [lD'.length, List.length_map])); (case hn => exact way_len (by assumption)); (clear lN'; intro h' tk' lF fv nf F' N' hF'))))
  (k_with "compareOp Eq ref ref" => (k_here; k_dflt ((rename News _ _ _ _ => lN'); (refine' eq_logs lN' ?k1 hG' ?k2 hF' (trun_ok _ _) ?k5 ?_); (case k1 => k_mem); (case k2 => k_mem); (case k5 => (simp only [units_deeper, units_caller, cLine_is]; omega)); (clear lN'))))
  k_go0; (all_goals try k_fold); k_steps)
end Mine
end
theorem PySem.Challenge.cw_mg0007_01_holds : PySem.Challenge.rw_mg0007_01.Holds :=
  Mine.holds
