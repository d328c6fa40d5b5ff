import PyProof.Rows.All
import Wide.All
import OpenK.AllK
import Wide.FinOn
import PySem.Challenge.RW_jb0015_01
open PySem PySem.W PyProof.Rows PySem.Spec PySem.Calls
set_option Elab.async false
set_option maxRecDepth 100000

namespace Mine
section
variable {prog : Program} {w : World} {A : Around} {E : Value → Shared → Prop} {s : Shared} {env : Env} {h₀ : Heap} {x : Str} {body : List Stmt} {Q : Flow → Shared → Prop}

def JEnd (h₀ : Heap) (L : Addr) (J : (Str → Option Value) → List (Addr × Obj) → Prop) (own : List (Addr × Obj)) (I : Addr) (s₁ s₂ : Shared) : Prop :=
  ∃ h' tk m' news' nx, s₂ = { s₁ with heap := h', toks := tk } ∧ Fr h₀ L h' m' ∧ News h₀ L h' news' ∧ (∀ p ∈ nx, p ∈ news') ∧ (∀ p ∈ own, p ∈ news') ∧ (∀ p ∈ nx, I < p.1) ∧ J m' nx
def JPost (h₀ : Heap) (L : Addr) (J : (Str → Option Value) → List (Addr × Obj) → Prop) (own : List (Addr × Obj)) (I : Addr) (s₁ : Shared) (Q : Flow → Shared → Prop) (f : Flow) (s₂ : Shared) : Prop :=
  match f with
  | .ret v => Q (.ret v) s₂
  | .brk => Q .next s₂
  | _ => JEnd h₀ L J own I s₁ s₂

theorem JEnd.intro {L : Addr} {J : (Str → Option Value) → List (Addr × Obj) → Prop} {m' : Str → Option Value} {own news' nx : List (Addr × Obj)} {I : Addr} {s₁ : Shared} {h' : Heap} {tk : Nat} (F : Fr h₀ L h' m') (N : News h₀ L h' news')
    (hn : ∀ p ∈ nx, p ∈ news') (ho : ∀ p ∈ own, p ∈ news') (hI : ∀ p ∈ nx, I < p.1) (hj : J m' nx) : JEnd h₀ L J own I s₁ { s₁ with heap := h', toks := tk } := ⟨h', tk, m', news', nx, rfl, F, N, hn, ho, hI, hj⟩

theorem iter_J {L l : Addr} {vs : List Value} {ns : List Int} {nn : Nat} {m₀ : Str → Option Value} {news : List (Addr × Obj)} (J : Nat → (Str → Option Value) → List (Addr × Obj) → Prop)
    (hL : env.locals = L) (hh : A.handled = none) (hl : (l, listOf vs.toArray nn) ∈ news) (hi : IntsAre vs ns) (F : Fr h₀ L s.heap m₀) (N : News h₀ L s.heap news) (hj : J 0 m₀ [])
    (turn : ∀ i n t m₁ news₁ h tk I it lo, i < ns.length → l < I → J i m₁ news₁ → (∀ p ∈ news₁, I < p.1) → Fr h₀ L h (fun y => if y = x then some (.int n t) else m₁ y) → News h₀ L h (news₁ ++ [(I, it), (l, lo)]) →
      wpAny (model prog w) A (execs body env) (JPost h₀ L (J (i + 1)) [(I, it), (l, lo)] I { s with heap := h, toks := tk } Q) E { s with heap := h, toks := tk })
    (done : ∀ m₁ news₁ h tk, J ns.length m₁ news₁ → Fr h₀ L h m₁ → News h₀ L h news₁ → Q .next { s with heap := h, toks := tk }) :
    wpAny (model prog w) A (pyIter (.ref l)) (fun it s₂ => LoopAtV prog w A h₀ env x body Q E it s₂) E s := by
  subst hL
  have hol : s.heap.get? l = some (listOf vs.toArray nn) := (N _ hl).1
  have hls : s.heap.IsList l vs.toArray := ⟨_, hol, rfl, nn, rfl⟩
  have hlI : l < s.heap.objs.size := Heap.lt_size hol
  have hne : l ≠ s.heap.objs.size := Nat.ne_of_lt hlI
  have hl0 : h₀.get? l = none := (N _ hl).2.2
  have hI0 : h₀.get? s.heap.objs.size = none := next_is_new F
  refine wpAny_pyIter_list hls ?_
  have W := Walks.list (prog := prog) (w := w) hh s.heap.objs.size l hne vs.toArray
  have hlen : vs.toArray.size = ns.length := by simp [hi.length]
  rw [hlen] at W
  refine ⟨_, _, _, ns.length, _, _, m₀, [], (fun i m nx => (∀ p ∈ nx, s.heap.objs.size < p.1) ∧ J i m nx), rfl, W, ?_, ?_, (fun _ hp => nomatch hp), ⟨⟨_, Heap.get?_push_size _ rfl, rfl, rfl⟩, hls.at fun o e => Heap.get?_push_of_some _ e⟩, F.push _, News.nil, ⟨(fun _ hp => nomatch hp), hj⟩, ?_, ?_⟩
  · intro hm
    rcases List.mem_cons.mp hm with e | hm
    · exact absurd F.ns.lt (e ▸ Nat.lt_irrefl _)
    · exact (N _ hl).2.1 ((List.mem_singleton.mp hm).symm)
  · intro b hb
    rw [List.mem_singleton.mp hb]
    exact hI0
  · rintro i v m₁ news₁ s₁ own ⟨hh', tk', rfl⟩ hin hP ⟨habove, hJ⟩ _ hown hget hfp hst F₁ N₁
    have hlt' : i < ns.length := hin
    obtain ⟨t, hx⟩ := hi.get i ns[i] (by simp [hlt'])
    have hv : v = .int ns[i] t := by
      have hP' : vs[i]? = some v := by simpa using hP
      rw [hx] at hP'; exact (Option.some.inj hP').symm
    subst hv
    obtain ⟨⟨it, hit, _⟩, hls'⟩ := hst
    obtain ⟨lo, hlo, _⟩ := hls'
    have mI : (s.heap.objs.size, it) ∈ own := hfp _ (List.mem_cons_self ..) hI0 it hit
    have ml : (l, lo) ∈ own := hfp _ (List.mem_cons_of_mem _ (List.mem_singleton.mpr rfl)) hl0 lo hlo
    have hsub : ∀ p ∈ own, p ∈ [(s.heap.objs.size, it), (l, lo)] := by
      intro p hp
      have hg : hh'.get? p.1 = some p.2 := hget p hp
      rcases List.mem_cons.mp (hown p hp) with h2 | h2
      · rw [h2, hit] at hg
        exact List.mem_cons.mpr (.inl (Prod.ext h2 (Option.some.inj hg).symm))
      · have h3 := List.mem_singleton.mp h2
        rw [h3, hlo] at hg
        exact List.mem_cons_of_mem _ (List.mem_singleton.mpr (Prod.ext h3 (Option.some.inj hg).symm))
    have N₂ : News h₀ env.locals hh' (news₁ ++ [(s.heap.objs.size, it), (l, lo)]) := by
      intro p hp
      rcases List.mem_append.mp hp with h | h
      · exact N₁ p (List.mem_append.mpr (.inr h))
      · rcases List.mem_cons.mp h with h | h
        · rw [h]; exact N₁ _ (List.mem_append.mpr (.inl mI))
        · rw [List.mem_singleton.mp h]; exact N₁ _ (List.mem_append.mpr (.inl ml))
    refine wpAny_mono (turn i ns[i] t m₁ news₁ hh' tk' _ it lo hlt' hlI hJ habove F₁ N₂) (fun f s₂ p => ?_) fun _ _ e => e
    have fin : JEnd h₀ env.locals (J (i + 1)) [(s.heap.objs.size, it), (l, lo)] s.heap.objs.size { s with heap := hh', toks := tk' } s₂ →
        LoopStepU h₀ env.locals [s.heap.objs.size] own (fun m nx => (∀ p ∈ nx, s.heap.objs.size < p.1) ∧ J (i + 1) m nx) { s with heap := hh', toks := tk' } .next s₂ := by
      rintro ⟨h', tk, m', news', nx, e, F', N', hn, ho, hI, hm⟩
      refine ⟨rfl, h', tk, m', nx, e, F', fun p hp => ?_, fun p hp => ?_, hI, hm⟩
      · rcases List.mem_append.mp hp with h | h
        · exact N' p (ho p (hsub p h))
        · exact N' p (hn p h)
      · intro hb
        have := hI p hp
        rw [List.mem_singleton.mp hb] at this
        exact absurd this (Nat.lt_irrefl _)
    cases f with
    | ret v => exact .ret p
    | brk => exact .brk p
    | next => exact .next (fin p)
    | cont => exact .cont (fin p)
  · rintro h' tk m' news' F' N' _ ⟨_, hJ⟩
    exact done m' news' h' tk hJ F' N'
end
end Mine

namespace Mine

def MaxIs (l : List Int) (G : Int) : Prop := G ∈ l ∧ ∀ a, a ∈ l → a ≤ G
theorem MaxIs.one (a : Int) : MaxIs [a] a := ⟨by simp, by simp⟩
theorem MaxIs.snoc {l : List Int} {G : Int} (h : MaxIs l G) (x : Int) : MaxIs (l ++ [x]) (max x G) := by
  obtain ⟨h1, h2⟩ := h
  refine ⟨?_, ?_⟩
  · rw [List.mem_append, List.mem_singleton]
    by_cases c : x ≤ G
    · left; rw [show max x G = G by omega]; exact h1
    · right; omega
  · intro a ha
    rw [List.mem_append, List.mem_singleton] at ha
    rcases ha with ha | ha
    · have := h2 a ha; omega
    · omega
theorem MaxIs.snoc_eq {l : List Int} {G M : Int} (h : MaxIs l G) (x : Int) (e : M = max x G) : MaxIs (l ++ [x]) M := e ▸ h.snoc x
theorem MaxIs.eq {l : List Int} {G M : Int} (h : MaxIs l G) (h1 : M ∈ l) (h2 : ∀ a, a ∈ l → a ≤ M) : M = G := by
  have a := h.2 M h1
  have b := h2 G h.1
  omega

/-- the loop's source: a list of ints of at most 31 items -/
def Src (h₀ : Heap) (L : Addr) (m : Str → Option Value) (s : Shared) (v : Value) (s₁ : Shared) : Prop :=
  ∃ l vs ns nn h tk, v = .ref l ∧ s₁ = { s with heap := h, toks := tk } ∧ IntsAre vs ns ∧ ns.length ≤ 31 ∧ Fr h₀ L h m ∧ News h₀ L h [(l, listOf vs.toArray nn)]
theorem Src.intro {h₀ : Heap} {L : Addr} {m : Str → Option Value} {s : Shared} {l : Addr} {vs : List Value} {ns : List Int} {nn : Nat} {h : Heap} {tk : Nat} {news : List (Addr × Obj)}
    (F : Fr h₀ L h m) (N : News h₀ L h ((l, listOf vs.toArray nn) :: news)) (hi : IntsAre vs ns) (hn : ns.length ≤ 31) : Src h₀ L m s (.ref l) { s with heap := h, toks := tk } :=
  ⟨l, vs, ns, nn, h, tk, rfl, rfl, hi, hn, F, fun p hp => N p (by rw [List.mem_singleton.mp hp]; exact List.mem_cons_self ..)⟩

theorem join_src {M : Model} {A : Around} {t : Sem Value} {Q : Value → Shared → Prop} {E : Value → Shared → Prop} {s : Shared} {h₀ : Heap} {L : Addr} {m : Str → Option Value} (_F : Fr h₀ L s.heap m)
    (h1 : wpAny M A t (Src h₀ L m s) E s)
    (h2 : ∀ l vs ns nn h tk, IntsAre vs ns → ns.length ≤ 31 → Fr h₀ L h m → News h₀ L h [(l, listOf vs.toArray nn)] → Q (.ref l) { s with heap := h, toks := tk }) : wpAny M A t Q E s :=
  wpAny_mono h1 (by rintro v s₁ ⟨l, vs, ns, nn, h, tk, rfl, rfl, hi, hn, F, N⟩; exact h2 l vs ns nn h tk hi hn F N) fun _ _ e => e

/-- a call that gives back an int of which P holds, and keeps what was made -/
def IntOut (h₀ : Heap) (L : Addr) (m : Str → Option Value) (news : List (Addr × Obj)) (s : Shared) (P : Int → Prop) (r : Value) (s₁ : Shared) : Prop :=
  ∃ v t h tk, r = .int v t ∧ s₁ = { s with heap := h, toks := tk } ∧ Fr h₀ L h m ∧ News h₀ L h news ∧ P v
theorem IntOut.intro {h₀ : Heap} {L : Addr} {m : Str → Option Value} {news news' : List (Addr × Obj)} {s : Shared} {P : Int → Prop} {v : Int} {t : Tok} {h : Heap} {tk : Nat}
    (F : Fr h₀ L h m) (N : News h₀ L h news') (hs : ∀ p ∈ news, p ∈ news') (hP : P v) : IntOut h₀ L m news s P (.int v t) { s with heap := h, toks := tk } :=
  ⟨v, t, h, tk, rfl, rfl, F, fun p hp => N p (hs p hp), hP⟩
theorem join_int {M : Model} {A : Around} {t : Sem Value} {Q : Value → Shared → Prop} {E : Value → Shared → Prop} {s : Shared} {h₀ : Heap} {L : Addr} {m : Str → Option Value} {news : List (Addr × Obj)} (_F : Fr h₀ L s.heap m) (_N : News h₀ L s.heap news)
    (P : Int → Prop) (h1 : wpAny M A t (IntOut h₀ L m news s P) E s)
    (h2 : ∀ v u h tk, P v → Fr h₀ L h m → News h₀ L h news → Q (.int v u) { s with heap := h, toks := tk }) : wpAny M A t Q E s :=
  wpAny_mono h1 (by rintro v s₁ ⟨v, u, h, tk, rfl, rfl, F, N, hP⟩; exact h2 v u h tk hP F N) fun _ _ e => e

theorem getD_add {l : List Int} (h : (l.all fun a => decide (0 ≤ a)) = true) (k : Nat) {x : Int} (hx : 0 ≤ x) : 0 ≤ l.getD k 0 + x := by
  have h0 : 0 ≤ l.getD k 0 := by
    rw [List.getD_eq_getElem?_getD]
    cases e : l[k]? with
    | none => exact Int.le_refl _
    | some a => exact of_decide_eq_true (List.all_eq_true.mp h a (List.mem_of_getElem? e))
  omega

theorem fr_one {h₀ h : Heap} {L : Addr} {x k1 : Str} {m₁ : Str → Option Value} {v : Option Value} {v1 : Value} (F : Fr h₀ L h (fun y => if y = x then v else m₁ y)) (e1 : m₁ k1 = some v1) :
    Fr h₀ L h (fun y => if y = x then v else if y = k1 then some v1 else m₁ y) := by
  have e : m₁ = fun y => if y = k1 then some v1 else m₁ y := by
    funext y
    by_cases c : y = k1
    · rw [if_pos c, c, e1]
    · rw [if_neg c]
  rw [e] at F
  exact F
theorem fr_seven {h₀ h : Heap} {L : Addr} {x k1 k2 k3 k4 k5 k6 k7 : Str} {m₁ : Str → Option Value} {v : Option Value} {v1 v2 v3 v4 v5 v6 v7 : Value} (F : Fr h₀ L h (fun y => if y = x then v else m₁ y))
    (e1 : m₁ k1 = some v1) (e2 : m₁ k2 = some v2) (e3 : m₁ k3 = some v3) (e4 : m₁ k4 = some v4) (e5 : m₁ k5 = some v5) (e6 : m₁ k6 = some v6) (e7 : m₁ k7 = some v7) :
    Fr h₀ L h (fun y => if y = x then v else if y = k1 then some v1 else if y = k2 then some v2 else if y = k3 then some v3 else if y = k4 then some v4 else if y = k5 then some v5 else if y = k6 then some v6 else if y = k7 then some v7 else m₁ y) := by
  have e : m₁ = fun y => if y = k1 then some v1 else if y = k2 then some v2 else if y = k3 then some v3 else if y = k4 then some v4 else if y = k5 then some v5 else if y = k6 then some v6 else if y = k7 then some v7 else m₁ y := by
    funext y
    by_cases c : y = k1
    · rw [if_pos c, c, e1]
    rw [if_neg c]
    by_cases c : y = k2
    · rw [if_pos c, c, e2]
    rw [if_neg c]
    by_cases c : y = k3
    · rw [if_pos c, c, e3]
    rw [if_neg c]
    by_cases c : y = k4
    · rw [if_pos c, c, e4]
    rw [if_neg c]
    by_cases c : y = k5
    · rw [if_pos c, c, e5]
    rw [if_neg c]
    by_cases c : y = k6
    · rw [if_pos c, c, e6]
    rw [if_neg c]
    by_cases c : y = k7
    · rw [if_pos c, c, e7]
    rw [if_neg c]
  rw [e] at F
  exact F

theorem own_two {a b : Addr × Obj} {news : List (Addr × Obj)} (h1 : a ∈ news) (h2 : b ∈ news) : ∀ p ∈ [a, b], p ∈ news := by
  intro p hp
  rcases List.mem_cons.mp hp with rfl | hp
  · exact h1
  · rw [List.mem_singleton.mp hp]; exact h2

/-- the objects of a running story -/
abbrev Led (C xm dm xb db a1 a2 a3 a4 a5 : Addr) (h1 h2 h3 k1 k2 k3 : Int) (t1 t2 t3 u1 u2 u3 p1 p2 p3 q1 q2 q3 : Tok) (v1 v2 v3 v4 v5 : List Value) (c1 c2 c3 c4 c5 : Nat) (W G P S : Int) : List (Addr × Obj) :=
  [(a5, listOf v5.toArray c5), (a4, listOf v4.toArray c4), (a3, listOf v3.toArray c3), (a2, listOf v2.toArray c2), (a1, listOf v1.toArray c1),
   (xb, instObj C db), (db, dictOf [⟨k1, .str (Str.ofString "max_window_size") u1, .int S q1⟩, ⟨k2, .str (Str.ofString "current_window_size") u2, .int S q2⟩, ⟨k3, .str (Str.ofString "_bytes_processed") u3, .int 0 q3⟩] 3),
   (xm, instObj C dm), (dm, dictOf [⟨h1, .str (Str.ofString "max_window_size") t1, .int G p1⟩, ⟨h2, .str (Str.ofString "current_window_size") t2, .int W p2⟩, ⟨h3, .str (Str.ofString "_bytes_processed") t3, .int P p3⟩] 3)]

structure Facts (i : Nat) (v1 v2 v3 v4 v5 : List Value) (story came opened given waiting : List Int) (W G P S : Int) : Prop where
  i1 : IntsAre v1 story
  i2 : IntsAre v2 came
  i3 : IntsAre v3 opened
  i4 : IntsAre v4 given
  i5 : IntsAre v5 waiting
  w : W = opened.sum + given.sum - came.sum
  g : MaxIs story G
  p : P = waiting.sum
  first : ∃ rest, story = S :: rest
  w0 : 0 ≤ W
  wg : W ≤ G
  gt : G ≤ 2147483647
  p0 : 0 ≤ P
  l1 : story.length ≤ i + 1
  l2 : came.length ≤ i + 1
  l3 : opened.length ≤ i + 1
  l4 : given.length ≤ i + 1
  l5 : waiting.length ≤ i + 1

def Chain (a b c d e f g h i : Nat) : Prop := a < b ∧ b < c ∧ c < d ∧ d < e ∧ e < f ∧ f < g ∧ g < h ∧ h < i
theorem chain_of {I a b c d e f g h i : Nat} (x : I < a ∧ a < b ∧ b < c ∧ c < d ∧ d < e ∧ e < f ∧ f < g ∧ g < h ∧ h < i) : I < a ∧ Chain a b c d e f g h i := x

inductive JB (C : Addr) (i : Nat) (m : Str → Option Value) (nx : List (Addr × Obj)) : Prop
  | mk (xm dm xb db a1 a2 a3 a4 a5 : Addr) (h1 h2 h3 k1 k2 k3 : Int) (t1 t2 t3 u1 u2 u3 p1 p2 p3 q1 q2 q3 : Tok) (v1 v2 v3 v4 v5 : List Value) (c1 c2 c3 c4 c5 : Nat) (story came opened given waiting : List Int) (W G P S : Int)
    (e : nx = Led C xm dm xb db a1 a2 a3 a4 a5 h1 h2 h3 k1 k2 k3 t1 t2 t3 u1 u2 u3 p1 p2 p3 q1 q2 q3 v1 v2 v3 v4 v5 c1 c2 c3 c4 c5 W G P S)
    (e1 : m (Str.ofString "manager") = some (.ref xm)) (e2 : m (Str.ofString "beside") = some (.ref xb)) (e3 : m (Str.ofString "story") = some (.ref a1)) (e4 : m (Str.ofString "came") = some (.ref a2))
    (e5 : m (Str.ofString "opened") = some (.ref a3)) (e6 : m (Str.ofString "given") = some (.ref a4)) (e7 : m (Str.ofString "waiting") = some (.ref a5))
    (o : Chain dm xm db xb a1 a2 a3 a4 a5) (fa : Facts i v1 v2 v3 v4 v5 story came opened given waiting W G P S) : JB C i m nx
def JA (m : Str → Option Value) (nx : List (Addr × Obj)) : Prop := nx = [] ∧ m (Str.ofString "manager") = some .none
def J (C : Addr) (i : Nat) (m : Str → Option Value) (nx : List (Addr × Obj)) : Prop := JA m nx ∨ JB C i m nx
theorem JEnd.none {h₀ : Heap} {L C : Addr} {i : Nat} {m' : Str → Option Value} {own news' : List (Addr × Obj)} {I : Addr} {s₁ : Shared} {h' : Heap} {tk : Nat} (F : Fr h₀ L h' m') (N : News h₀ L h' news')
    (ho : ∀ p ∈ own, p ∈ news') (hm : m' (Str.ofString "manager") = some .none) : JEnd h₀ L (J C i) own I s₁ { s₁ with heap := h', toks := tk } :=
  JEnd.intro (nx := []) F N (fun _ hp => nomatch hp) ho (fun _ hp => nomatch hp) (.inl ⟨rfl, hm⟩)
theorem JEnd.imp {h₀ : Heap} {L : Addr} {J K : (Str → Option Value) → List (Addr × Obj) → Prop} {own : List (Addr × Obj)} {I : Addr} {s₁ s₂ : Shared} (h : ∀ m nx, J m nx → K m nx) (e : JEnd h₀ L J own I s₁ s₂) : JEnd h₀ L K own I s₁ s₂ := by
  obtain ⟨h', tk, m', news', nx, e, F', N', hn, ho, hI, hm⟩ := e
  exact ⟨h', tk, m', news', nx, e, F', N', hn, ho, hI, h _ _ hm⟩
theorem JEnd.storyB {h₀ : Heap} {L C : Addr} {i : Nat} {m' : Str → Option Value} {own news' : List (Addr × Obj)} {I : Addr} {s₁ : Shared} {h' : Heap} {tk : Nat}
    {xm dm xb db a1 a2 a3 a4 a5 : Addr} {h1 h2 h3 k1 k2 k3 : Int} {t1 t2 t3 u1 u2 u3 p1 p2 p3 q1 q2 q3 : Tok} {v1 v2 v3 v4 v5 : List Value} {c1 c2 c3 c4 c5 : Nat} {story came opened given waiting : List Int} {W G P S : Int}
    (F : Fr h₀ L h' m') (N : News h₀ L h' news') (ho : ∀ p ∈ own, p ∈ news')
    (e1 : m' (Str.ofString "manager") = some (.ref xm)) (e2 : m' (Str.ofString "beside") = some (.ref xb)) (e3 : m' (Str.ofString "story") = some (.ref a1)) (e4 : m' (Str.ofString "came") = some (.ref a2))
    (e5 : m' (Str.ofString "opened") = some (.ref a3)) (e6 : m' (Str.ofString "given") = some (.ref a4)) (e7 : m' (Str.ofString "waiting") = some (.ref a5))
    (n1 : (xm, instObj C dm) ∈ news') (n2 : (xb, instObj C db) ∈ news')
    (n3 : (dm, dictOf [⟨h1, .str (Str.ofString "max_window_size") t1, .int G p1⟩, ⟨h2, .str (Str.ofString "current_window_size") t2, .int W p2⟩, ⟨h3, .str (Str.ofString "_bytes_processed") t3, .int P p3⟩] 3) ∈ news')
    (n4 : (db, dictOf [⟨k1, .str (Str.ofString "max_window_size") u1, .int S q1⟩, ⟨k2, .str (Str.ofString "current_window_size") u2, .int S q2⟩, ⟨k3, .str (Str.ofString "_bytes_processed") u3, .int 0 q3⟩] 3) ∈ news')
    (l1 : (a1, listOf v1.toArray c1) ∈ news') (l2 : (a2, listOf v2.toArray c2) ∈ news') (l3 : (a3, listOf v3.toArray c3) ∈ news') (l4 : (a4, listOf v4.toArray c4) ∈ news') (l5 : (a5, listOf v5.toArray c5) ∈ news')
    (o : @LT.lt Nat _ I dm ∧ Chain dm xm db xb a1 a2 a3 a4 a5)
    (fa : Facts (i + 1) v1 v2 v3 v4 v5 story came opened given waiting W G P S) : JEnd h₀ L (JB C (i + 1)) own I s₁ { s₁ with heap := h', toks := tk } := by
  obtain ⟨o0, o1, o2, o3, o4, o5, o6, o7, o8⟩ := o
  refine JEnd.intro (nx := Led C xm dm xb db a1 a2 a3 a4 a5 h1 h2 h3 k1 k2 k3 t1 t2 t3 u1 u2 u3 p1 p2 p3 q1 q2 q3 v1 v2 v3 v4 v5 c1 c2 c3 c4 c5 W G P S) F N ?_ ho ?_
    (.mk xm dm xb db a1 a2 a3 a4 a5 h1 h2 h3 k1 k2 k3 t1 t2 t3 u1 u2 u3 p1 p2 p3 q1 q2 q3 v1 v2 v3 v4 v5 c1 c2 c3 c4 c5 story came opened given waiting W G P S rfl e1 e2 e3 e4 e5 e6 e7 ⟨o1, o2, o3, o4, o5, o6, o7, o8⟩ fa)
  · simp only [Led, List.forall_mem_cons]
    exact ⟨l5, l4, l3, l2, l1, n2, n4, n1, n3, fun _ hp => nomatch hp⟩
  · simp only [Led, List.forall_mem_cons]
    have b1 : I < xm := Nat.lt_trans o0 o1
    have b2 : I < db := Nat.lt_trans b1 o2
    have b3 : I < xb := Nat.lt_trans b2 o3
    have b4 : I < a1 := Nat.lt_trans b3 o4
    have b5 : I < a2 := Nat.lt_trans b4 o5
    have b6 : I < a3 := Nat.lt_trans b5 o6
    have b7 : I < a4 := Nat.lt_trans b6 o7
    have b8 : I < a5 := Nat.lt_trans b7 o8
    exact ⟨b8, b7, b6, b5, b4, b3, b2, b1, o0, fun _ hp => nomatch hp⟩

/-- the turn's middle: behind the first if, before the tests of the turn's end -/
def JMid (h₀ : Heap) (L C : Addr) (i : Nat) (own : List (Addr × Obj)) (I : Addr) (s₁ : Shared) (f : Flow) (s₂ : Shared) : Prop :=
  (f = .next ∧ JEnd h₀ L (JB C i) own I s₁ s₂) ∨ (f = .cont ∧ JEnd h₀ L JA own I s₁ s₂)
theorem JMid.none {h₀ : Heap} {L C : Addr} {i : Nat} {m' : Str → Option Value} {own news' : List (Addr × Obj)} {I : Addr} {s₁ : Shared} {h' : Heap} {tk : Nat} (F : Fr h₀ L h' m') (N : News h₀ L h' news')
    (ho : ∀ p ∈ own, p ∈ news') (hm : m' (Str.ofString "manager") = some .none) : JMid h₀ L C i own I s₁ .cont { s₁ with heap := h', toks := tk } :=
  .inr ⟨rfl, JEnd.intro (nx := []) F N (fun _ hp => nomatch hp) ho (fun _ hp => nomatch hp) ⟨rfl, hm⟩⟩
theorem JMid.next {h₀ : Heap} {L C : Addr} {i : Nat} {own : List (Addr × Obj)} {I : Addr} {s₁ s₂ : Shared} (h : JEnd h₀ L (JB C i) own I s₁ s₂) : JMid h₀ L C i own I s₁ .next s₂ := .inl ⟨rfl, h⟩
theorem fr_sevens {h₀ h : Heap} {L : Addr} {k1 k2 k3 k4 k5 k6 k7 : Str} {m₁ : Str → Option Value} {v1 v2 v3 v4 v5 v6 v7 : Value} (F : Fr h₀ L h m₁)
    (e1 : m₁ k1 = some v1) (e2 : m₁ k2 = some v2) (e3 : m₁ k3 = some v3) (e4 : m₁ k4 = some v4) (e5 : m₁ k5 = some v5) (e6 : m₁ k6 = some v6) (e7 : m₁ k7 = some v7) :
    Fr h₀ L h (fun y => if y = k1 then some v1 else if y = k2 then some v2 else if y = k3 then some v3 else if y = k4 then some v4 else if y = k5 then some v5 else if y = k6 then some v6 else if y = k7 then some v7 else m₁ y) := by
  have F0 : Fr h₀ L h (fun y => if y = k1 then m₁ k1 else m₁ y) := by
    have e : m₁ = fun y => if y = k1 then m₁ k1 else m₁ y := by
      funext y
      by_cases c : y = k1
      · rw [if_pos c, c]
      · rw [if_neg c]
    rw [← e]; exact F
  have F1 := fr_seven F0 e1 e2 e3 e4 e5 e6 e7
  have e : (fun y => if y = k1 then some v1 else if y = k2 then some v2 else if y = k3 then some v3 else if y = k4 then some v4 else if y = k5 then some v5 else if y = k6 then some v6 else if y = k7 then some v7 else m₁ y) =
      (fun y => if y = k1 then m₁ k1 else if y = k1 then some v1 else if y = k2 then some v2 else if y = k3 then some v3 else if y = k4 then some v4 else if y = k5 then some v5 else if y = k6 then some v6 else if y = k7 then some v7 else m₁ y) := by
    funext y
    by_cases c : y = k1
    · rw [if_pos c, if_pos c, e1]
    · simp only [if_neg c]
  rw [e]; exact F1
theorem news_two {h₀ h : Heap} {L : Addr} {nx own news : List (Addr × Obj)} (N : News h₀ L h news) (hn : ∀ p ∈ nx, p ∈ news) (ho : ∀ p ∈ own, p ∈ news) : News h₀ L h (nx ++ own) :=
  fun p hp => (List.mem_append.mp hp).elim (fun a => N p (hn p a)) (fun a => N p (ho p a))
theorem JEnd.elim {h₀ : Heap} {L C : Addr} {i : Nat} {own : List (Addr × Obj)} {I : Addr} {s₁ s₂ : Shared} {X : Shared → Prop} (e : JEnd h₀ L (JB C i) own I s₁ s₂)
    (f : ∀ (xm dm xb db a1 a2 a3 a4 a5 : Addr) (h1 h2 h3 k1 k2 k3 : Int) (t1 t2 t3 u1 u2 u3 p1 p2 p3 q1 q2 q3 : Tok) (v1 v2 v3 v4 v5 : List Value) (c1 c2 c3 c4 c5 : Nat) (rest came opened given waiting : List Int) (W G P S : Int) (h' : Heap) (tk' : Nat) (m' : Str → Option Value),
      Fr h₀ L h' (fun y => if y = Str.ofString "manager" then some (.ref xm) else if y = Str.ofString "beside" then some (.ref xb) else if y = Str.ofString "story" then some (.ref a1) else if y = Str.ofString "came" then some (.ref a2) else if y = Str.ofString "opened" then some (.ref a3) else if y = Str.ofString "given" then some (.ref a4) else if y = Str.ofString "waiting" then some (.ref a5) else m' y) → News h₀ L h' (Led C xm dm xb db a1 a2 a3 a4 a5 h1 h2 h3 k1 k2 k3 t1 t2 t3 u1 u2 u3 p1 p2 p3 q1 q2 q3 v1 v2 v3 v4 v5 c1 c2 c3 c4 c5 W G P S ++ own) → @LT.lt Nat _ I dm → @LT.lt Nat _ dm xm → @LT.lt Nat _ xm db → @LT.lt Nat _ db xb → @LT.lt Nat _ xb a1 → @LT.lt Nat _ a1 a2 → @LT.lt Nat _ a2 a3 → @LT.lt Nat _ a3 a4 → @LT.lt Nat _ a4 a5 → IntsAre v1 (S :: rest) → IntsAre v2 came → IntsAre v3 opened → IntsAre v4 given → IntsAre v5 waiting → W = opened.sum + given.sum - came.sum → MaxIs (S :: rest) G → P = waiting.sum → 0 ≤ W → W ≤ G → G ≤ 2147483647 → 0 ≤ P → rest.length + 1 ≤ i + 1 → came.length ≤ i + 1 → opened.length ≤ i + 1 → given.length ≤ i + 1 → waiting.length ≤ i + 1 → v1.length = rest.length + 1 → v2.length = came.length → v3.length = opened.length → v4.length = given.length → v5.length = waiting.length → X { s₁ with heap := h', toks := tk' }) : X s₂ := by
  obtain ⟨h', tk', m', news', nx, rfl, F', N', hn, ho, hI, hB⟩ := e
  cases hB with | mk xm dm xb db a1 a2 a3 a4 a5 h1 h2 h3 k1 k2 k3 t1 t2 t3 u1 u2 u3 p1 p2 p3 q1 q2 q3 v1 v2 v3 v4 v5 c1 c2 c3 c4 c5 story came opened given waiting W G P S e e1 e2 e3 e4 e5 e6 e7 o fa =>
  subst e
  have o0 := hI (dm, _) (List.mem_of_mem_getLast? (by rfl))
  have i1 := fa.i1
  have fg := fa.g
  have l1 := fa.l1
  obtain ⟨rest, es⟩ := fa.first
  rw [es] at i1 fg l1
  exact f xm dm xb db a1 a2 a3 a4 a5 h1 h2 h3 k1 k2 k3 t1 t2 t3 u1 u2 u3 p1 p2 p3 q1 q2 q3 v1 v2 v3 v4 v5 c1 c2 c3 c4 c5 rest came opened given waiting W G P S h' tk' m' (fr_sevens F' e1 e2 e3 e4 e5 e6 e7) (news_two N' hn ho) o0 o.1 o.2.1 o.2.2.1 o.2.2.2.1 o.2.2.2.2.1 o.2.2.2.2.2.1 o.2.2.2.2.2.2.1 o.2.2.2.2.2.2.2 i1 fa.i2 fa.i3 fa.i4 fa.i5 fa.w fg fa.p fa.w0 fa.wg fa.gt fa.p0 l1 fa.l2 fa.l3 fa.l4 fa.l5 i1.length fa.i2.length fa.i3.length fa.i4.length fa.i5.length
theorem JB.elim {h₀ h : Heap} {L C : Addr} {i : Nat} {m : Str → Option Value} {nx own : List (Addr × Obj)} {I : Addr} {x : Str} {v : Option Value} {X : Prop} (e : JB C i m nx) (F : Fr h₀ L h (fun y => if y = x then v else m y)) (N : News h₀ L h (nx ++ own)) (hI : ∀ p ∈ nx, I < p.1)
    (f : ∀ (xm dm xb db a1 a2 a3 a4 a5 : Addr) (h1 h2 h3 k1 k2 k3 : Int) (t1 t2 t3 u1 u2 u3 p1 p2 p3 q1 q2 q3 : Tok) (v1 v2 v3 v4 v5 : List Value) (c1 c2 c3 c4 c5 : Nat) (rest came opened given waiting : List Int) (W G P S : Int),
      Fr h₀ L h (fun y => if y = x then v else if y = Str.ofString "manager" then some (.ref xm) else if y = Str.ofString "beside" then some (.ref xb) else if y = Str.ofString "story" then some (.ref a1) else if y = Str.ofString "came" then some (.ref a2) else if y = Str.ofString "opened" then some (.ref a3) else if y = Str.ofString "given" then some (.ref a4) else if y = Str.ofString "waiting" then some (.ref a5) else m y) → News h₀ L h (Led C xm dm xb db a1 a2 a3 a4 a5 h1 h2 h3 k1 k2 k3 t1 t2 t3 u1 u2 u3 p1 p2 p3 q1 q2 q3 v1 v2 v3 v4 v5 c1 c2 c3 c4 c5 W G P S ++ own) → @LT.lt Nat _ I dm → @LT.lt Nat _ dm xm → @LT.lt Nat _ xm db → @LT.lt Nat _ db xb → @LT.lt Nat _ xb a1 → @LT.lt Nat _ a1 a2 → @LT.lt Nat _ a2 a3 → @LT.lt Nat _ a3 a4 → @LT.lt Nat _ a4 a5 → IntsAre v1 (S :: rest) → IntsAre v2 came → IntsAre v3 opened → IntsAre v4 given → IntsAre v5 waiting → W = opened.sum + given.sum - came.sum → MaxIs (S :: rest) G → P = waiting.sum → 0 ≤ W → W ≤ G → G ≤ 2147483647 → 0 ≤ P → rest.length + 1 ≤ i + 1 → came.length ≤ i + 1 → opened.length ≤ i + 1 → given.length ≤ i + 1 → waiting.length ≤ i + 1 → v1.length = rest.length + 1 → v2.length = came.length → v3.length = opened.length → v4.length = given.length → v5.length = waiting.length → X) : X := by
  cases e with | mk xm dm xb db a1 a2 a3 a4 a5 h1 h2 h3 k1 k2 k3 t1 t2 t3 u1 u2 u3 p1 p2 p3 q1 q2 q3 v1 v2 v3 v4 v5 c1 c2 c3 c4 c5 story came opened given waiting W G P S ee e1 e2 e3 e4 e5 e6 e7 o fa =>
  subst ee
  have o0 := hI (dm, _) (List.mem_of_mem_getLast? (by rfl))
  have i1 := fa.i1
  have fg := fa.g
  have l1 := fa.l1
  obtain ⟨rest, es⟩ := fa.first
  rw [es] at i1 fg l1
  exact f xm dm xb db a1 a2 a3 a4 a5 h1 h2 h3 k1 k2 k3 t1 t2 t3 u1 u2 u3 p1 p2 p3 q1 q2 q3 v1 v2 v3 v4 v5 c1 c2 c3 c4 c5 rest came opened given waiting W G P S (fr_seven F e1 e2 e3 e4 e5 e6 e7) N o0 o.1 o.2.1 o.2.2.1 o.2.2.2.1 o.2.2.2.2.1 o.2.2.2.2.2.1 o.2.2.2.2.2.2.1 o.2.2.2.2.2.2.2 i1 fa.i2 fa.i3 fa.i4 fa.i5 fa.w fg fa.p fa.w0 fa.wg fa.gt fa.p0 l1 fa.l2 fa.l3 fa.l4 fa.l5 i1.length fa.i2.length fa.i3.length fa.i4.length fa.i5.length

theorem mid_join {M : Model} {A : Around} {t : Sem Flow} {Q : Flow → Shared → Prop} {E : Value → Shared → Prop} {s : Shared} {h₀ : Heap} {L : Addr} {m : Str → Option Value} (C : Addr) (i : Nat) (own : List (Addr × Obj)) (I : Addr) (_F : Fr h₀ L s.heap m)
    (h1 : wpAny M A t (JMid h₀ L C i own I s) E s) (hc : ∀ s₂, JEnd h₀ L JA own I s s₂ → Q .cont s₂)
    (hn : ∀ (xm dm xb db a1 a2 a3 a4 a5 : Addr) (h1 h2 h3 k1 k2 k3 : Int) (t1 t2 t3 u1 u2 u3 p1 p2 p3 q1 q2 q3 : Tok) (v1 v2 v3 v4 v5 : List Value) (c1 c2 c3 c4 c5 : Nat) (rest came opened given waiting : List Int) (W G P S : Int) (h' : Heap) (tk' : Nat) (m' : Str → Option Value),
      Fr h₀ L h' (fun y => if y = Str.ofString "manager" then some (.ref xm) else if y = Str.ofString "beside" then some (.ref xb) else if y = Str.ofString "story" then some (.ref a1) else if y = Str.ofString "came" then some (.ref a2) else if y = Str.ofString "opened" then some (.ref a3) else if y = Str.ofString "given" then some (.ref a4) else if y = Str.ofString "waiting" then some (.ref a5) else m' y) → News h₀ L h' (Led C xm dm xb db a1 a2 a3 a4 a5 h1 h2 h3 k1 k2 k3 t1 t2 t3 u1 u2 u3 p1 p2 p3 q1 q2 q3 v1 v2 v3 v4 v5 c1 c2 c3 c4 c5 W G P S ++ own) → @LT.lt Nat _ I dm → @LT.lt Nat _ dm xm → @LT.lt Nat _ xm db → @LT.lt Nat _ db xb → @LT.lt Nat _ xb a1 → @LT.lt Nat _ a1 a2 → @LT.lt Nat _ a2 a3 → @LT.lt Nat _ a3 a4 → @LT.lt Nat _ a4 a5 → IntsAre v1 (S :: rest) → IntsAre v2 came → IntsAre v3 opened → IntsAre v4 given → IntsAre v5 waiting → W = opened.sum + given.sum - came.sum → MaxIs (S :: rest) G → P = waiting.sum → 0 ≤ W → W ≤ G → G ≤ 2147483647 → 0 ≤ P → rest.length + 1 ≤ i + 1 → came.length ≤ i + 1 → opened.length ≤ i + 1 → given.length ≤ i + 1 → waiting.length ≤ i + 1 → v1.length = rest.length + 1 → v2.length = came.length → v3.length = opened.length → v4.length = given.length → v5.length = waiting.length → Q .next { s with heap := h', toks := tk' }) : wpAny M A t Q E s :=
  wpAny_mono h1 (by
    rintro f s₂ (⟨rfl, e⟩ | ⟨rfl, e⟩)
    · exact JEnd.elim (X := fun s₂ => Q .next s₂) e hn
    · exact hc _ e) fun _ _ e => e

/-- where the window is to be given back -/
abbrev Due (P W G : Int) : Prop := G - G % 2 ≤ 2 * P ∨ (W = 0 ∧ (1024 < P ∨ G + 4 - G % 4 ≤ 4 * P))
/-- a test that is true just where c holds, and keeps what was made -/
def TestOut (h₀ : Heap) (L : Addr) (m : Str → Option Value) (news : List (Addr × Obj)) (s : Shared) (c : Prop) (b : Bool) (s₁ : Shared) : Prop :=
  ∃ h tk, s₁ = { s with heap := h, toks := tk } ∧ Fr h₀ L h m ∧ News h₀ L h news ∧ (b = true ↔ c)
theorem TestOut.intro {h₀ : Heap} {L : Addr} {m : Str → Option Value} {news news' : List (Addr × Obj)} {s : Shared} {c : Prop} {b : Bool} {h : Heap} {tk : Nat}
    (F : Fr h₀ L h m) (N : News h₀ L h news') (hs : ∀ p ∈ news, p ∈ news') (hb : b = true ↔ c) : TestOut h₀ L m news s c b { s with heap := h, toks := tk } :=
  ⟨h, tk, rfl, F, fun p hp => N p (hs p hp), hb⟩
theorem tt_iff {c : Prop} (h : c) : true = true ↔ c := ⟨fun _ => h, fun _ => rfl⟩
theorem ff_iff {c : Prop} (h : ¬ c) : false = true ↔ c := ⟨nofun, fun a => absurd a h⟩
theorem dec_iff {c d : Prop} [Decidable d] (h : d ↔ c) : decide d = true ↔ c := by rw [decide_eq_true_iff]; exact h
theorem join_test {M : Model} {A : Around} {t : Sem Bool} {Q : Bool → Shared → Prop} {E : Value → Shared → Prop} {s : Shared} {h₀ : Heap} {L : Addr} {m : Str → Option Value} {news : List (Addr × Obj)} {d w v P W G : Int} {ws os gs cs l : List Int} (_F : Fr h₀ L s.heap m) (_N : News h₀ L s.heap news)
    (_fp : P = ws.sum) (_fw : W = os.sum + gs.sum - cs.sum) (_fg : MaxIs l G) (_hv : (d = 1 → 0 - w ≤ v) ∧ (d ≠ 1 → 0 ≤ v)) (h1 : wpAny M A t (TestOut h₀ L m news s (Due (P + v) W G)) E s)
    (ht : Due (P + v) W G → ∀ h tk, Fr h₀ L h m → News h₀ L h news → Q true { s with heap := h, toks := tk }) (hf : ¬ Due (P + v) W G → ∀ h tk, Fr h₀ L h m → News h₀ L h news → Q false { s with heap := h, toks := tk }) : wpAny M A t Q E s :=
  wpAny_mono h1 (by
    rintro b s₁ ⟨h, tk, rfl, F, N, hb⟩
    cases b with
    | true => exact ht (hb.mp rfl) h tk F N
    | false => exact hf (fun c => Bool.noConfusion (hb.mpr c)) h tk F N) fun _ _ e => e

/-- the order of a running story's addresses, as one fact -/
structure Line (l I dm xm db xb a1 a2 a3 a4 a5 : Nat) : Prop where
  c : l < I ∧ I < dm ∧ dm < xm ∧ xm < db ∧ db < xb ∧ xb < a1 ∧ a1 < a2 ∧ a2 < a3 ∧ a3 < a4 ∧ a4 < a5
section
variable {l I dm xm db xb a1 a2 a3 a4 a5 : Addr} {o o' b0 b1 b2 b3 b4 b5 b6 b7 b8 b9 b10 : Obj}
theorem upd_one {d : Addr} {p : Addr × Obj} {r r' : List (Addr × Obj)} (h : @Ne Nat p.1 d) (u : Upd d o o' r r') : Upd d o o' (p :: r) (p :: r') := .tail h u
theorem off_nil {d : Addr} : ∀ p ∈ ([] : List (Addr × Obj)), p.1 ≠ d := fun _ h => nomatch h
theorem off_cons {d : Addr} {p : Addr × Obj} {r : List (Addr × Obj)} (h : @Ne Nat p.1 d) (u : ∀ p ∈ r, p.1 ≠ d) : ∀ q ∈ p :: r, q.1 ≠ d := List.forall_mem_cons.mpr ⟨h, u⟩
theorem upd_dm (h : Line l I dm xm db xb a1 a2 a3 a4 a5) : Upd dm o o' [(a5, b0), (a4, b1), (a3, b2), (a2, b3), (a1, b4), (xb, b5), (db, b6), (xm, b7), (dm, o), (I, b9), (l, b10)] [(a5, b0), (a4, b1), (a3, b2), (a2, b3), (a1, b4), (xb, b5), (db, b6), (xm, b7), (dm, o'), (I, b9), (l, b10)] := by
  have c := h.c
  exact upd_one (by dsimp only; omega) <| upd_one (by dsimp only; omega) <| upd_one (by dsimp only; omega) <| upd_one (by dsimp only; omega) <| upd_one (by dsimp only; omega) <| upd_one (by dsimp only; omega) <| upd_one (by dsimp only; omega) <| upd_one (by dsimp only; omega) <| .head <| off_cons (by dsimp only; omega) <| off_cons (by dsimp only; omega) <| off_nil
theorem upd_db (h : Line l I dm xm db xb a1 a2 a3 a4 a5) : Upd db o o' [(a5, b0), (a4, b1), (a3, b2), (a2, b3), (a1, b4), (xb, b5), (db, o), (xm, b7), (dm, b8), (I, b9), (l, b10)] [(a5, b0), (a4, b1), (a3, b2), (a2, b3), (a1, b4), (xb, b5), (db, o'), (xm, b7), (dm, b8), (I, b9), (l, b10)] := by
  have c := h.c
  exact upd_one (by dsimp only; omega) <| upd_one (by dsimp only; omega) <| upd_one (by dsimp only; omega) <| upd_one (by dsimp only; omega) <| upd_one (by dsimp only; omega) <| upd_one (by dsimp only; omega) <| .head <| off_cons (by dsimp only; omega) <| off_cons (by dsimp only; omega) <| off_cons (by dsimp only; omega) <| off_cons (by dsimp only; omega) <| off_nil
theorem upd_a5 (h : Line l I dm xm db xb a1 a2 a3 a4 a5) : Upd a5 o o' [(a5, o), (a4, b1), (a3, b2), (a2, b3), (a1, b4), (xb, b5), (db, b6), (xm, b7), (dm, b8), (I, b9), (l, b10)] [(a5, o'), (a4, b1), (a3, b2), (a2, b3), (a1, b4), (xb, b5), (db, b6), (xm, b7), (dm, b8), (I, b9), (l, b10)] := by
  have c := h.c
  exact .head <| off_cons (by dsimp only; omega) <| off_cons (by dsimp only; omega) <| off_cons (by dsimp only; omega) <| off_cons (by dsimp only; omega) <| off_cons (by dsimp only; omega) <| off_cons (by dsimp only; omega) <| off_cons (by dsimp only; omega) <| off_cons (by dsimp only; omega) <| off_cons (by dsimp only; omega) <| off_cons (by dsimp only; omega) <| off_nil
theorem upd_a4 (h : Line l I dm xm db xb a1 a2 a3 a4 a5) : Upd a4 o o' [(a5, b0), (a4, o), (a3, b2), (a2, b3), (a1, b4), (xb, b5), (db, b6), (xm, b7), (dm, b8), (I, b9), (l, b10)] [(a5, b0), (a4, o'), (a3, b2), (a2, b3), (a1, b4), (xb, b5), (db, b6), (xm, b7), (dm, b8), (I, b9), (l, b10)] := by
  have c := h.c
  exact upd_one (by dsimp only; omega) <| .head <| off_cons (by dsimp only; omega) <| off_cons (by dsimp only; omega) <| off_cons (by dsimp only; omega) <| off_cons (by dsimp only; omega) <| off_cons (by dsimp only; omega) <| off_cons (by dsimp only; omega) <| off_cons (by dsimp only; omega) <| off_cons (by dsimp only; omega) <| off_cons (by dsimp only; omega) <| off_nil
theorem upd_a3 (h : Line l I dm xm db xb a1 a2 a3 a4 a5) : Upd a3 o o' [(a5, b0), (a4, b1), (a3, o), (a2, b3), (a1, b4), (xb, b5), (db, b6), (xm, b7), (dm, b8), (I, b9), (l, b10)] [(a5, b0), (a4, b1), (a3, o'), (a2, b3), (a1, b4), (xb, b5), (db, b6), (xm, b7), (dm, b8), (I, b9), (l, b10)] := by
  have c := h.c
  exact upd_one (by dsimp only; omega) <| upd_one (by dsimp only; omega) <| .head <| off_cons (by dsimp only; omega) <| off_cons (by dsimp only; omega) <| off_cons (by dsimp only; omega) <| off_cons (by dsimp only; omega) <| off_cons (by dsimp only; omega) <| off_cons (by dsimp only; omega) <| off_cons (by dsimp only; omega) <| off_cons (by dsimp only; omega) <| off_nil
theorem upd_a2 (h : Line l I dm xm db xb a1 a2 a3 a4 a5) : Upd a2 o o' [(a5, b0), (a4, b1), (a3, b2), (a2, o), (a1, b4), (xb, b5), (db, b6), (xm, b7), (dm, b8), (I, b9), (l, b10)] [(a5, b0), (a4, b1), (a3, b2), (a2, o'), (a1, b4), (xb, b5), (db, b6), (xm, b7), (dm, b8), (I, b9), (l, b10)] := by
  have c := h.c
  exact upd_one (by dsimp only; omega) <| upd_one (by dsimp only; omega) <| upd_one (by dsimp only; omega) <| .head <| off_cons (by dsimp only; omega) <| off_cons (by dsimp only; omega) <| off_cons (by dsimp only; omega) <| off_cons (by dsimp only; omega) <| off_cons (by dsimp only; omega) <| off_cons (by dsimp only; omega) <| off_cons (by dsimp only; omega) <| off_nil
theorem upd_a1 (h : Line l I dm xm db xb a1 a2 a3 a4 a5) : Upd a1 o o' [(a5, b0), (a4, b1), (a3, b2), (a2, b3), (a1, o), (xb, b5), (db, b6), (xm, b7), (dm, b8), (I, b9), (l, b10)] [(a5, b0), (a4, b1), (a3, b2), (a2, b3), (a1, o'), (xb, b5), (db, b6), (xm, b7), (dm, b8), (I, b9), (l, b10)] := by
  have c := h.c
  exact upd_one (by dsimp only; omega) <| upd_one (by dsimp only; omega) <| upd_one (by dsimp only; omega) <| upd_one (by dsimp only; omega) <| .head <| off_cons (by dsimp only; omega) <| off_cons (by dsimp only; omega) <| off_cons (by dsimp only; omega) <| off_cons (by dsimp only; omega) <| off_cons (by dsimp only; omega) <| off_cons (by dsimp only; omega) <| off_nil
end

theorem cut_tt {c : Prop} [Decidable c] {P Q : Prop} (hc : c) (h : P) : if c then P else Q := by rw [if_pos hc]; exact h
theorem cut_ff {c : Prop} [Decidable c] {P Q : Prop} (hc : ¬ c) (h : Q) : if c then P else Q := by rw [if_neg hc]; exact h
theorem two_way {c : Prop} [Decidable c] {P Q : Prop} (ht : c → P) (hf : ¬ c → Q) : if c then P else Q := by
  by_cases hc : c
  · rw [if_pos hc]; exact ht hc
  · rw [if_neg hc]; exact hf hc

theorem getD_ge {l : List Int} {b : Int} (hb : b ≤ 0) (h : ∀ a ∈ l, b ≤ a) (k : Nat) : b ≤ l.getD k 0 := by
  rw [List.getD_eq_getElem?_getD]
  cases e : l[k]? with
  | none => exact hb
  | some a => exact h a (List.mem_of_getElem? e)
theorem size_one (m W G : Int) (k : Nat) (w0 : 0 ≤ W) (wg : W ≤ G) (gt : G ≤ 2147483647) :
    0 - W ≤ [m.fmod 11, 2 ^ Int.toNat 31 - 1 - W, 1, 2 ^ Int.toNat 31 - 1 - W + 1, G - W, 0 - if W < m.fmod 9 then W else m.fmod 9, m.fmod 5000, 1, 0, m.fmod 70000, 2, 5, m.fmod 3].getD k 0 := by
  refine getD_ge (by omega) ?_ k
  have h1 := Int.fmod_nonneg_of_pos m (b := 11) (by decide)
  have h2 := Int.fmod_nonneg_of_pos m (b := 9) (by decide)
  have h3 := Int.fmod_nonneg_of_pos m (b := 5000) (by decide)
  have h4 := Int.fmod_nonneg_of_pos m (b := 70000) (by decide)
  have h5 := Int.fmod_nonneg_of_pos m (b := 3) (by decide)
  have e : (2 : Int) ^ Int.toNat 31 = 2147483648 := by decide +kernel
  rw [e]
  have h6 : 0 - W ≤ 0 - if W < m.fmod 9 then W else m.fmod 9 := by split <;> omega
  simp only [List.forall_mem_cons]
  exact ⟨by omega, by omega, by omega, by omega, by omega, h6, by omega, by omega, by omega, by omega, by omega, by omega, by omega, fun _ hp => nomatch hp⟩

section
variable {prog : Program} {w : World} {A : Around} {E : Value → Shared → Prop} {s : Shared} {h₀ : Heap} {L : Addr} {m : Str → Option Value} {news : List (Addr × Obj)} {Q : Value → Shared → Prop}
/-- what _law_size gives: an int that never takes the window below nothing -/
theorem join_size {deed number window greatest : Int} {t1 t2 t3 t4 : Tok} (F : Fr h₀ L s.heap m) (N : News h₀ L s.heap news)
    (h1 : wpAny (model prog w) A (call (.ref 149) [.int deed t1, .int number t2, .int window t3, .int greatest t4]) (IntOut h₀ L m news s fun v => (deed = 1 → 0 - window ≤ v) ∧ (deed ≠ 1 → 0 ≤ v)) E s)
    (h2 : ∀ v u h tk, (deed = 1 → 0 - window ≤ v) ∧ (deed ≠ 1 → 0 ≤ v) → Fr h₀ L h m → News h₀ L h news → Q (.int v u) { s with heap := h, toks := tk }) :
    wpAny (model prog w) A (call (.ref 149) [.int deed t1, .int number t2, .int window t3, .int greatest t4]) Q E s := join_int F N _ h1 h2
theorem max_is {l : Addr} {vs : List Value} {ns : List Int} {G : Int} (F : Fr h₀ L s.heap m) (N : News h₀ L s.heap news) (hl : s.heap.IsList l vs.toArray) (hi : IntsAre vs ns) (hm : MaxIs ns G) (hh : A.handled = none)
    (h : ∀ h' (t : Tok) tk, Fr h₀ L h' m → News h₀ L h' news → Q (.int G t) { s with heap := h', toks := tk }) : wpAny (model prog w) A (call (.builtin "max") [.ref l]) Q E s :=
  kso_max F N hl hi (List.length_pos_of_mem hm.1) hh fun h' M t tk F' N' a b => by rw [hm.eq a b]; exact h h' t tk F' N'
theorem isList_push {l : Addr} {vs : List Value} {v : Value} {n : Nat} (N : News h₀ L s.heap news) (hm : (l, listOf (vs.toArray.push v) n) ∈ news) : s.heap.IsList l (vs ++ [v]).toArray := by
  have e : vs.toArray.push v = (vs ++ [v]).toArray := by simp
  rw [e] at hm
  exact ⟨_, (N _ hm).1, rfl, n, rfl⟩
theorem max_push {l : Addr} {vs : List Value} {ns : List Int} {x G : Int} {t : Tok} {n : Nat} (F : Fr h₀ L s.heap m) (N : News h₀ L s.heap news) (hm : (l, listOf (vs.toArray.push (.int x t)) n) ∈ news) (hi : IntsAre vs ns) (hg : MaxIs ns G) (hh : A.handled = none)
    (h : ∀ h' (t : Tok) tk, Fr h₀ L h' m → News h₀ L h' news → Q (.int (max x G) t) { s with heap := h', toks := tk }) : wpAny (model prog w) A (call (.builtin "max") [.ref l]) Q E s :=
  max_is F N (isList_push N hm) (IntsAre.append hi (.cons _ _ .nil)) (hg.snoc x) hh h
theorem sum_push {l : Addr} {vs : List Value} {ns : List Int} {x : Int} {t : Tok} {n : Nat} (F : Fr h₀ L s.heap m) (N : News h₀ L s.heap news) (hm : (l, listOf (vs.toArray.push (.int x t)) n) ∈ news) (hi : IntsAre vs ns) (hh : A.handled = none)
    (h : ∀ h' (t : Tok) tk, Fr h₀ L h' m → News h₀ L h' news → Q (.int (ns.sum + x) t) { s with heap := h', toks := tk }) : wpAny (model prog w) A (call (.builtin "sum") [.ref l]) Q E s := by
  have e : (ns ++ [x]).sum = ns.sum + x := by simp
  exact LSm.sum_ints F N hh (isList_push N hm) (IntsAre.append hi (.cons _ _ .nil)) fun h' tk t' F' N' => by rw [e]; exact h h' t' tk F' N'
theorem item0 {value slice : PySem.Expr} {l : Addr} {vs : List Value} {S : Int} {rest : List Int} {n : Nat} {u : Tok} (N : News h₀ L s.heap news) (hm : (l, listOf vs.toArray n) ∈ news) (hi : IntsAre vs (S :: rest)) (h : ∀ t, Q (.int S t) s)
    (hs : subscripted slice false (.ref l) (.int 0 u) = operate [.ref l, .int 0 u] (getItem (.ref l) (.int 0 u)) := by with_unfolding_all rfl) :
    wpAny (model prog w) A (subscriptTail value slice (.ref l) (.int 0 u)) Q E s :=
  ksa_sub N hm hi (by decide) (by simp only [List.length_cons]; omega) (by decide) h hs
theorem item0_push {value slice : PySem.Expr} {l : Addr} {vs : List Value} {v : Int} {tv : Tok} {S : Int} {rest : List Int} {n : Nat} {u : Tok} (N : News h₀ L s.heap news) (hm : (l, listOf (vs.toArray.push (.int v tv)) n) ∈ news) (hi : IntsAre vs (S :: rest)) (h : ∀ t, Q (.int S t) s)
    (hs : subscripted slice false (.ref l) (.int 0 u) = operate [.ref l, .int 0 u] (getItem (.ref l) (.int 0 u)) := by with_unfolding_all rfl) :
    wpAny (model prog w) A (subscriptTail value slice (.ref l) (.int 0 u)) Q E s := by
  have e : vs.toArray.push (Value.int v tv) = (vs ++ [Value.int v tv]).toArray := by simp
  rw [e] at hm
  exact item0 (rest := rest ++ [v]) N hm (IntsAre.append hi (.cons _ _ .nil)) h hs
end
end Mine

namespace Mine
/-- the object at e bears no dict -/
def DN (e : Addr) (h : Heap) : Prop := ∃ o, h.objs[e]? = some o ∧ o.dict = none
theorem DN.push {e : Addr} {h : Heap} (x : DN e h) (o' : Obj) : DN e (h.push o') := by
  obtain ⟨o, h1, h2⟩ := x
  refine ⟨o, ?_, h2⟩
  have hlt : e < h.objs.size := by
    rcases Array.getElem?_eq_some_iff.mp h1 with ⟨q, _⟩
    exact q
  show (h.objs.push o')[e]? = some o
  rw [Array.getElem?_push_lt hlt]
  exact (Array.getElem?_eq_getElem hlt).symm.trans h1
theorem DN.update {e : Addr} {h : Heap} (x : DN e h) (a : Addr) {f : Obj → Obj} (hf : ∀ o, (f o).dict = o.dict) : DN e (h.update a f) := by
  obtain ⟨o, h1, h2⟩ := x
  by_cases c : a = e
  · refine ⟨f o, ?_, (hf o).trans h2⟩
    show (h.objs.modify a f)[e]? = some (f o)
    rw [Array.getElem?_modify, if_pos c, h1]; rfl
  · refine ⟨o, ?_, h2⟩
    show (h.objs.modify a f)[e]? = some o
    rw [Array.getElem?_modify, if_neg c, h1]

/-- a tree that calls nothing and turns no object's dict -/
inductive Tame {α : Type} : Sem α → Prop
  | pure (a) : Tame (.pure a)
  | raise (e) : Tame (.raise e)
  | unsupported (w) : Tame (.unsupported w)
  | finish (e) : Tame (.finish e)
  | rule (t k) : (∀ x, Tame (k x)) → Tame (.rule t k)
  | at (p k) : (∀ x, Tame (k x)) → Tame (.at p k)
  | load (a p k) : (∀ x, Tame (k x)) → Tame (.load a p k)
  | update (a p f k) : (∀ o, (f o).dict = o.dict) → (∀ x, Tame (k x)) → Tame (.update a p f k)
  | alloc (o k) : (∀ x, Tame (k x)) → Tame (.alloc o k)
  | loadIfAlive (a k) : (∀ x, Tame (k x)) → Tame (.loadIfAlive a k)
  | point (l k) : (∀ x, Tame (k x)) → Tame (.point l k)
  | fresh (k) : (∀ x, Tame (k x)) → Tame (.fresh k)
  | ask (k) : (∀ x, Tame (k x)) → Tame (.ask k)
  | handled (o k) : (∀ x, Tame (k x)) → Tame (.handled o k)
  | stack (k) : (∀ x, Tame (k x)) → Tame (.stack k)

theorem Tame.bind {α β : Type} {m : Sem α} {f : α → Sem β} (hm : Tame m) (hf : ∀ a, Tame (f a)) : Tame (m >>= f) := by
  show Tame (m.bind f)
  induction hm with
  | pure a => exact hf a
  | raise e => exact .raise e
  | unsupported w => exact .unsupported w
  | finish e => exact .finish e
  | rule t k _ ih => exact .rule t _ ih
  | «at» p k _ ih => exact .at p _ ih
  | load a p k _ ih => exact .load a p _ ih
  | update a p f k hf' _ ih => exact .update a p f _ hf' ih
  | alloc o k _ ih => exact .alloc o _ ih
  | loadIfAlive a k _ ih => exact .loadIfAlive a _ ih
  | point l k _ ih => exact .point l _ ih
  | fresh k _ ih => exact .fresh _ ih
  | ask k _ ih => exact .ask _ ih
  | handled o k _ ih => exact .handled o _ ih
  | stack k _ ih => exact .stack _ ih

theorem wp_tame {α : Type} {M : Model} {Γ : PySem.Ctx} {e : Addr} {t : Sem α} (ht : Tame t) : ∀ (Q : α → Pos → Shared → Prop) (E : Value → Pos → Shared → Prop) (p : Pos) (s : Shared), DN e s.heap → Sem.wp M Γ t Q E p s →
    Sem.wp M Γ t (fun a p' s' => DN e s'.heap ∧ Q a p' s') (fun x p' s' => DN e s'.heap ∧ E x p' s') p s := by
  induction ht with
  | pure a => intro Q E p s hd h; exact ⟨hd, h⟩
  | raise x => intro Q E p s hd h; exact ⟨hd, h⟩
  | unsupported _ => intro Q E p s _ h; exact h
  | finish _ => intro Q E p s _ h; exact h
  | rule t k _ ih => intro Q E p s hd h; exact ih () Q E p s hd h
  | «at» p' k _ ih => intro Q E p s hd h; exact ih () Q E p' s hd h
  | load a p' k _ ih => intro Q E p s hd h; obtain ⟨o, ho, h⟩ := h; exact ⟨o, ho, ih o Q E p s hd h⟩
  | update a p' f k hf _ ih => intro Q E p s hd h; exact ⟨h.1, ih () Q E p _ (hd.update a hf) h.2⟩
  | alloc o k _ ih => intro Q E p s hd h; exact ih _ Q E p _ (hd.push o) h
  | loadIfAlive a k _ ih => intro Q E p s hd h; exact ih _ Q E p s hd h
  | point l k _ ih => intro Q E p s hd h; exact ih () Q E p s hd h
  | fresh k _ ih => intro Q E p s hd h; exact ih _ Q E p _ hd h
  | ask k _ ih => intro Q E p s hd h; exact ih _ Q E p s hd h
  | handled o k _ ih => intro Q E p s hd h; exact ih _ Q E p s hd h
  | stack k _ ih => intro Q E p s hd h; exact ih _ Q E p s hd h

theorem any_tame {α : Type} {M : Model} {A : Around} {e : Addr} {t : Sem α} {s : Shared} {Q : α → Shared → Prop} {E : Value → Shared → Prop} (ht : Tame t) (hd : DN e s.heap) (h : wpAny M A t Q E s) :
    wpAny M A t (fun a s' => DN e s'.heap ∧ Q a s') (fun x s' => DN e s'.heap ∧ E x s') s := fun Γ p hΓ => wp_tame ht _ _ p s hd (h Γ p hΓ)

theorem tame_pure {α : Type} (a : α) : Tame (Pure.pure a : Sem α) := .pure a
theorem tame_load (a : Addr) : Tame (PySem.load a) := .load a none _ fun o => .pure o
theorem tame_unsupported {α : Type} (w : String) : Tame (PySem.unsupported w : Sem α) := .unsupported w
theorem tame_fieldsOf (v : Value) : Tame (fieldsOf v) := by
  unfold fieldsOf
  split
  · refine (tame_load _).bind fun o => ?_
    split
    · exact tame_pure _
    · exact tame_unsupported _
  · exact tame_unsupported _
theorem tame_field (v : Value) (i : Nat) : Tame (field v i) := by
  unfold field
  refine (tame_fieldsOf v).bind fun o => ?_
  split
  · exact tame_pure _
  · exact tame_unsupported _
theorem tame_setField (v : Value) (i : Nat) (x : Value) : Tame (setField v i x) := by
  unfold setField
  split
  · unfold updateField
    refine (tame_load _).bind fun o => ?_
    split
    · split
      · refine .update _ _ _ _ (fun o => ?_) fun _ => .pure _
        unfold Obj.mapFields
        split <;> rfl
      · exact tame_unsupported _
    · exact tame_unsupported _
  · exact tame_unsupported _
theorem tame_setFlight (e : Value) (f : Option Addr) : Tame (setFlight e f) := by
  unfold setFlight
  refine (tame_field e 1).bind fun tb => ?_
  split
  · exact tame_setField _ _ _
  · exact tame_pure _
theorem tame_stack : Tame PySem.stack := .stack _ fun x => .pure x
theorem tame_ite {α : Type} {c : Prop} [Decidable c] {a b : Sem α} (ha : Tame a) (hb : Tame b) : Tame (if c then a else b) := by split <;> assumption
theorem tame_frameEnvs : Tame frameEnvs := by
  unfold frameEnvs
  exact tame_stack.bind fun _ => tame_pure _
theorem tame_under : Tame underTheClaimsCaller := by
  unfold underTheClaimsCaller
  exact tame_stack.bind fun _ => tame_pure _
theorem tame_behind (env : Env) (outer : List Env) : Tame (behindIsImport env outer) := by
  unfold behindIsImport
  split
  · exact tame_pure _
  · split
    · exact tame_pure _
    · exact (tame_field _ _).bind fun _ => tame_pure _
theorem tame_keptBack (env : Env) (i : Bool) (outer : List Env) : Tame (keptBack env i outer) := by
  cases outer with
  | nil =>
    show Tame (if (env.scope.isGenerator || env.scope.isCoroutine) = true then Pure.pure Value.none else _)
    exact tame_ite (tame_pure _) (tame_under.bind fun _ => tame_pure _)
  | cons c r => exact tame_pure _
theorem tame_ready : ∀ l : List Env, Tame (readyFrames l)
  | [] => by unfold readyFrames; exact tame_pure _
  | env :: outer => by
    unfold readyFrames
    split
    · refine (tame_load _).bind fun o => ?_
      split
      · exact tame_pure _
      · refine (tame_behind _ _).bind fun i => ?_
        refine (tame_keptBack _ _ _).bind fun b => ?_
        refine Tame.bind (.update _ _ _ _ (fun _ => rfl) fun _ => .pure _) fun _ => ?_
        exact tame_ready outer
    · exact tame_unsupported _
theorem tame_frameObject (l : List Env) : Tame (frameObject l) := by
  cases l with
  | nil => unfold frameObject; exact tame_pure _
  | cons env outer => unfold frameObject; exact (tame_ready _).bind fun _ => tame_pure _
theorem tame_frameOf (env : Env) : Tame (PySem.frameOf env) := by
  unfold PySem.frameOf
  refine tame_frameEnvs.bind fun es => ?_
  refine (tame_frameObject _).bind fun o => ?_
  split
  · exact tame_pure _
  · exact tame_unsupported _
theorem tame_entryPlace (f : Addr) (b : Bool) : Tame (entryPlaceOf f b) := by
  unfold entryPlaceOf
  refine tame_stack.bind fun acts => ?_
  split <;> exact tame_pure _
theorem tame_newEntry (a b c d e : Value) (pl : List Value) : Tame (EntryCells.newEntry a b c d e pl) := by
  have asIs : ∀ d, Tame (newObjAsIs (Value.type "traceback") d) := fun d => .alloc _ _ fun _ => .pure _
  unfold EntryCells.newEntry newFields newObj
  exact tame_ite ((tame_unsupported _).bind fun _ => asIs _) (asIs _)
theorem tame_noteFrame (e : Value) (env : Env) : Tame (noteFrame e env) := by
  unfold noteFrame
  split
  · have last : ∀ head : Value, ∀ f : Addr, Tame (do setField e 1 (← EntryCells.newEntry head (← PySem.frameOf env) .none (rawInt f) .none (← entryPlaceOf f (head != .none)))) := fun head f =>
      (tame_frameOf env).bind fun _ => (tame_entryPlace _ _).bind fun _ => (tame_newEntry _ _ _ _ _ _).bind fun _ => tame_setField _ _ _
    refine (tame_field _ _).bind fun head => ?_
    split
    · refine (tame_field _ _).bind fun x => ?_
      split
      · exact tame_pure _
      · exact (tame_setField _ _ _).bind fun _ => last _ _
    · exact last _ _
  · exact tame_unsupported _
theorem tame_leaving (env : Env) (e : Value) : Tame (leaving env e) := by
  unfold leaving
  exact (tame_noteFrame e env).bind fun _ => tame_setFlight _ _
end Mine

namespace Mine
section
variable {M : Model} {A : Around} {E : Value → Shared → Prop} {s : Shared}
theorem dn_of_get {h : Heap} {e : Addr} {o : Obj} (x : h.get? e = some o) (hd : o.dict = none) : DN e h := ⟨o, (Heap.get?_some_iff.mp x).1, hd⟩
theorem DN.dict {h : Heap} {e : Addr} {o : Obj} (d : DN e h) (x : h.get? e = some o) : o.dict = none := by
  obtain ⟨o', h1, h2⟩ := d
  rw [(Heap.get?_some_iff.mp x).1] at h1
  rw [Option.some.inj h1]
  exact h2
theorem looks_onD {base : Heap} {env : Env} {outer : List Env} {L e : Addr} {cls a0 : Value} {Q : Unit → Shared → Prop} (dn : DN e s.heap)
    (hfr : A.frames = some (env :: outer)) (hf : env.frame = some L) (hfl : Heap.FlyingW base (env :: outer) e cls a0 s.heap)
    (hQ : ∀ h', DN e h' → Heap.HeldW base (env :: outer) e cls a0 L h' → s.heap.UpToSlots h' → Q () { s with heap := h' }) : wpAny M A (noteFrame (.ref e) env) Q E s := by
  refine wpAny_mono (any_tame (tame_noteFrame _ _) dn (wpAny_looks_onW (E := E) (Q := fun _ s₁ => ∃ h', s₁ = { s with heap := h' } ∧ Heap.HeldW base (env :: outer) e cls a0 L h' ∧ s.heap.UpToSlots h') hfr hf hfl fun h' a b => ⟨h', rfl, a, b⟩)) ?_ fun _ _ x => x.2
  rintro _ s₁ ⟨d, h', rfl, a, b⟩
  exact hQ h' d a b
theorem landsD {base : Heap} {l : List Env} {e L : Addr} {cls a0 : Value} {Q : Unit → Shared → Prop} (dn : DN e s.heap) (hh : Heap.HeldW base l e cls a0 L s.heap)
    (hQ : ∀ h', DN e h' → Heap.FlyingW base l e cls a0 h' → s.heap.UpToSlots h' → Q () { s with heap := h' }) : wpAny M A (setFlight (.ref e) none) Q E s := by
  refine wpAny_mono (any_tame (tame_setFlight _ _) dn (wpAny_landsW (E := E) (Q := fun _ s₁ => ∃ h', s₁ = { s with heap := h' } ∧ Heap.FlyingW base l e cls a0 h' ∧ s.heap.UpToSlots h') hh fun h' a b => ⟨h', rfl, a, b⟩)) ?_ fun _ _ x => x.2
  rintro _ s₁ ⟨d, h', rfl, a, b⟩
  exact hQ h' d a b
theorem lands_againD {base : Heap} {l : List Env} {e : Addr} {cls a0 : Value} {Q : Unit → Shared → Prop} (dn : DN e s.heap) (hh : Heap.FlyingW base l e cls a0 s.heap)
    (hQ : ∀ h', DN e h' → Heap.FlyingW base l e cls a0 h' → s.heap.UpToSlots h' → Q () { s with heap := h' }) : wpAny M A (setFlight (.ref e) none) Q E s := by
  refine wpAny_mono (any_tame (tame_setFlight _ _) dn (lands_againW (E := E) (Q := fun _ s₁ => ∃ h', s₁ = { s with heap := h' } ∧ Heap.FlyingW base l e cls a0 h' ∧ s.heap.UpToSlots h') hh fun h' a b => ⟨h', rfl, a, b⟩)) ?_ fun _ _ x => x.2
  rintro _ s₁ ⟨d, h', rfl, a, b⟩
  exact hQ h' d a b
end
section
variable {M : Model} {A : Around} {E : Value → Shared → Prop} {s' : Shared} {base g h : Heap} {outer : List Env} {L a e : Addr} {m : Str → Option Value} {name : Str} {scope : Scope} {cd : Value} {Q : Unit → Shared → Prop} {news : List (Addr × Obj)}
theorem leave_raiseD {cls : Value} {vs : List Value} (K : Below A base outer g) (hx : Heap.MadeExcOf h s'.heap e cls vs) (F : Fr g L h m) (N : News g L h news)
    (hQ : ∀ h' t, RaisedS base g outer e cls t vs news h' → RaisedK base outer e cls t vs news h' → g.UpToSlots h' → DN e h' → Q () { s' with heap := h' }) (hk : scope.kind = .function := by rfl) :
    wpAny M (A.deeper (envOf name scope L a cd)) (leaving (envOf name scope L a cd) (.ref e)) Q E s' := by
  obtain ⟨t0, ht, _⟩ := hx.there
  refine wpAny_mono (any_tame (tame_leaving _ _) (dn_of_get ht rfl) (leave_raiseS (E := E) (Q := fun _ s₁ => ∃ h' t, s₁ = { s' with heap := h' } ∧ RaisedS base g outer e cls t vs news h' ∧ RaisedK base outer e cls t vs news h' ∧ g.UpToSlots h') K hx F N (fun h' t a b c => ⟨h', t, rfl, a, b, c⟩) hk)) ?_ fun _ _ x => x.2
  rintro _ s₁ ⟨d, h', t, rfl, a, b, c⟩
  exact hQ h' t a b c d
end
/-- the ledger bears e, of that class and without a dict -/
def GotD (news : List (Addr × Obj)) (e : Addr) (cls : Value) : Prop := ∃ oe ws, (e, oe) ∈ news ∧ oe.cls = cls ∧ oe.dict = none ∧ oe.data = .fields ws
section
variable {prog : Program} {w : World} {A₀ : Around} {E : Value → Shared → Prop} {s' : Shared} {base g g₀ G : Heap} {outer : List Env} {L a e t C : Addr} {m : Str → Option Value} {name : Str} {scope : Scope} {cd : Value}
  {vs : List Value} {n : Str} {b₀ : Stmt} {suite : List Stmt} {pos np : Pos} {rest : List ExceptHandler} {Q : Flow → Shared → Prop} {news : List (Addr × Obj)} {KF : Frag}
  {p : Program} {loose : List Str} {mean : ExcName → Option Value} {mg mb : Str → Option Value} {x : Str}
theorem caught_D (dn : DN e s'.heap) (R : RaisedS base G (envOf name scope L a cd :: outer) e (.ref C) t vs news s'.heap) (F : Fr g L G m) (K : Below A₀ base outer g) (hsm : G.UpToSlots s'.heap) (XB : KF.In base) (TB : Top p loose mean mg mb base)
    (D : KtsDicts (outer.filterMap (·.frame)) g) (T0 : KtsTurn (outer.filterMap (·.frame)) g₀ g)
    (ex : nsIn KF mainGlobals x = some (some (.ref C))) (q : ktsIn KF C "BaseException" = true)
    (k : ∀ h' g' news₂ tk, KtsTurn (outer.filterMap (·.frame)) g₀ g' → Fr g' L h' (fun y => if y = n then some (.ref e) else m y) → News g' L h' news₂ → GotD news₂ e (.ref C) → News g' L h' news → Below A₀ base outer g' → KF.In g' → Top p loose mean mg mb g' → KtsDicts (outer.filterMap (·.frame)) g' →
      wpAny (model prog w) ((A₀.deeper (envOf name scope L a cd)).mark (some (.ref e))) (execs (b₀ :: suite) (envOf name scope L a cd))
        (fun f s₄ => wpAny (model prog w) (A₀.deeper (envOf name scope L a cd)) (do bindName (envOf name scope L a cd) n .none; unbindBehindTheSuite (envOf name scope L a cd) n pos) (fun _ s₅ => Q f s₅) E s₄)
        (AsSuiteRaised (model prog w) ((A₀.deeper (envOf name scope L a cd)).mark (some (.ref e))) (envOf name scope L a cd) n pos (notedBy (model prog w) ((A₀.deeper (envOf name scope L a cd)).mark (some (.ref e))) (envOf name scope L a cd) (cameBackBy (model prog w) (A₀.deeper (envOf name scope L a cd)) (envOf name scope L a cd) E)))
        { s' with heap := h', toks := tk })
    (hk : scope.kind = .function := by rfl) (hlo : (envOf name scope L a cd).kindOf n = some .local := by rfl) (hx : (envOf name scope L a cd).kindOf x = some .globalImplicit := by rfl) (hd : (x == ("__debug__" : Str)) = false := by decide) :
    wpAny (model prog w) (A₀.deeper (envOf name scope L a cd)) (noteFrame (.ref e) (envOf name scope L a cd))
      (fun _ s₂ => wpAny (model prog w) (A₀.deeper (envOf name scope L a cd)) (setFlight (.ref e) none) (fun _ s₃ =>
        wpAny (model prog w) (A₀.deeper (envOf name scope L a cd)) (handleBy (.ref e) (envOf name scope L a cd) (.ExceptHandler (some (.Name x np)) (some n) (b₀ :: suite) pos :: rest)) Q E s₃) E s₂) E s' := by
  obtain ⟨⟨B, hB, hBG, hl, hfl, hnew⟩, _⟩ := R
  refine looks_onD dn (Around.frames_deeper K.stack) rfl hfl fun h₁ d₁ held up₁ => ?_
  refine landsD d₁ held fun h₂ d₂ fly up₂ => ?_
  have up := hsm.trans (up₁.trans up₂)
  -- the class, and the handler's test
  obtain ⟨g₂, _, F₂, K₂⟩ := kts_ground K F hBG fly.1 up
  have X₂ : KF.In g₂ := XB.keeps K₂.stays
  obtain ⟨ob, hob, hobc⟩ := fly.there
  obtain ⟨_, _, _, _, _, _, _, _, _, _, _, _, _, _, _, _, _, hC, hbase, _⟩ := kts_cls X₂ q
  refine wpAny_handleBy_cons (codeAny_handlers_test (name_K F₂ X₂ (topRead_of (TB.keeps K₂.stays)) ex ?_ hk hx hd)) (by intro z; cases z)
  refine wpAny_excMatches_sub_self (F₂.keep _ _ hC) hob hobc hbase (codeAny_handlers_suite_as ?_)
  refine lands_againD d₂ fly fun h₃ d₃ fly₃ up₃ => ?_
  have up' := up.trans up₃
  obtain ⟨g₃, T₃, F₃, K₃⟩ := kts_ground K F hBG fly₃.1 up'
  obtain ⟨oe, ws, hoe, hoec, hoed, _⟩ := fly₃.first
  have ne₃ : g₃.get? e = none := T₃.none_ _ (kts_fresh F hBG fly₃.2.1 fun o ho mem => by
    obtain ⟨_, o', ho', nf⟩ := K.frames.mem mem
    rw [ho] at ho'
    obtain rfl := Option.some.inj ho'
    obtain ⟨sl, hs⟩ := up' _ _ (F.keep _ _ ho) nf
    rw [hoe] at hs
    exact nf ws (by rw [Option.some.inj hs] at hoed; exact hoed))
  have hL : B.get? L = none := by
    obtain ⟨_, ⟨L', _, hf, hn', _⟩, _⟩ := hfl.2.2.1
    rw [Option.some.inj hf]
    exact hn'
  have one : News g₃ L h₃ [(e, oe)] := News.more F₃ News.nil hoe (fun es n' z => by rw [hoed] at z; cases z) ne₃
  have all : News g₃ L h₃ news := fun y hy => ⟨fly₃.1 _ _ (hl y hy).1, (fun z => by have h0 := (hl y hy).1; rw [z, hL] at h0; cases h0), T₃.none_ _ (kts_none F.keep (hl y hy).2.1)⟩
  refine stN F₃ (news := [(e, oe)] ++ news) (fun y hy => (List.mem_append.mp hy).elim (one y) (all y)) (fun h₄ F₄ N₄ => ?_) hk hlo
  exact k h₄ g₃ [(e, oe)] _ (T0.trans T₃) F₄ (fun y hy => N₄ y (List.mem_append_left _ hy)) ⟨oe, ws, .head _, hoec, d₃.dict hoe, hoed⟩ (fun y hy => N₄ y (List.mem_append_right _ hy)) K₃ (XB.keeps K₃.stays) (TB.keeps K₃.stays) (D.turn T₃)
end
end Mine

namespace Mine
section
variable {prog : Program} {w : World} {A : Around} {E : Value → Shared → Prop} {s : Shared} {K : Frag} {x C : Addr} {ox : Obj} {od : Option Obj} {name : Str} {expr : Bool} {Q : Value → Shared → Prop}
/-- an attribute of an exception that its class alone holds -/
theorem get_exc {v : Value} (X : K.In s.heap) (I : InstAt s.heap x ox C od) (hga : findIn K (.ref C) "__getattribute__" = some (some (.builtin "BaseException.__getattribute__"))) (hno : findIn K (.ref C) "__getattr__" = some none)
    (hm : mroIn K C (.type "BaseException") = some true) (hf : findObj K C od name = some (.value v)) (hh : handedIn v = true) (h : Q v { s with toks := s.toks + 1 }) : wpAny (model prog w) A (getAttr (.ref x) name expr) Q E s := by
  obtain ⟨hp, g, d, t, os⟩ := s
  have L0 := I.type (M := model prog w)
  have L1 := looks_findIn (M := model prog w) X hga
  have L2 := looks_findIn (M := model prog w) X hno
  have L3 := looks_find (M := model prog w) X I hf
  have sub : Looks (model prog w) hp (isInstance (.ref x) (.type "BaseException")) true := (I.type (M := model prog w)).andThen (looks_mroIn X hm)
  have bnd := PySem.F.attr_Exception.ga.bind (.ref x)
  unfold getAttr getAttrBy
  refine wpAny_bind (wpAny_mkText (wpAny_holding (wpAny_bind (L0.at (wpAny_bind (L1.at ?_))))))
  show wpAny _ _ (getAttrByItsOwn (.ref x) (.str name t) (.ref C) (.builtin "BaseException.__getattribute__") true expr) _ _ _
  unfold getAttrByItsOwn
  refine wpAny_bind ?_
  show wpAny _ _ (typeLookup (.ref C) "__getattr__") _ _ _
  refine L2.at ?_
  refine wpAny_bind (wpAny_attempt (wpAny_holding ?_))
  have e1 : callGetattribute (.ref x) (.str name t) (.builtin "BaseException.__getattribute__") expr = boundAndCalled (.builtin "BaseException.__getattribute__") (.ref x) (.str name t) := by
    unfold callGetattribute
    rw [if_neg (by cases expr <;> decide)]
  rw [e1]
  unfold boundAndCalled
  rw [bnd]
  show wpAny _ _ (call (.builtin "BaseException.__getattribute__") [.ref x, .str name t]) _ _ _
  have hk : builtinKind "BaseException.__getattribute__" = some .slot := by decide +kernel
  have hs : splitId "BaseException.__getattribute__" = some ("BaseException", "__getattribute__") := by decide +kernel
  have ha := PySem.F.args_bexc_ga (.ref x) (.str name t)
  have ck : wpAny (model prog w) A.in1 (checkBuiltinCall "BaseException.__getattribute__" ⟨[.ref x, .str name t], []⟩) (fun _ s₁ => s₁ = ⟨hp, g, d, t + 1, os⟩) (fun _ _ => False) ⟨hp, g, d, t + 1, os⟩ :=
    by
      refine check_slot (owner := "BaseException") (n := "__getattribute__") ?_ ?_ ?_ ?_ ?_
      · exact hk
      · exact hs
      · exact sub
      · exact ha
      · rfl
  refine wpAny_call ?_
  refine codeAny_call_builtin PySem.F.attr_Exception.ga.plain PySem.F.entry_bexc_ga ?_
  refine wpAny_mono ck ?_ fun _ _ z => z.elim
  rintro _ s₁ rfl
  have L0' := I.type (M := model prog w)
  refine wpAny_bind (wpAny_pure (wpAny_bind (wpAny_pure (wpAny_bind (L0'.at (wpAny_bind (L3.at ?_)))))))
  refine wpAny_pure ?_
  show wpAny _ _ (handedOut v) _ _ _
  rw [handedOut_of hh]
  exact wpAny_pure h
end
section
variable {prog : Program} {w : World} {A : Around} {E : Value → Shared → Prop} {s : Shared} {K : Frag} {e C L : Addr} {h₀ : Heap} {m : Str → Option Value} {news : List (Addr × Obj)} {name : Str} {expr : Bool} {Q : Value → Shared → Prop}
theorem get_gotD {v : Value} (F : Fr h₀ L s.heap m) (X₀ : K.In h₀) (N : News h₀ L s.heap news) (G : GotD news e (.ref C)) (hga : findIn K (.ref C) "__getattribute__" = some (some (.builtin "BaseException.__getattribute__"))) (hno : findIn K (.ref C) "__getattr__" = some none)
    (hm : mroIn K C (.type "BaseException") = some true) (hf : ∀ od, od = none → findObj K C od name = some (.value v)) (hh : handedIn v = true) (h : Q v { s with toks := s.toks + 1 }) : wpAny (model prog w) A (getAttr (.ref e) name expr) Q E s := by
  obtain ⟨oe, ws, hm', hc, hd, hf'⟩ := G
  exact get_exc (X₀.keeps F.keep) ⟨(N _ hm').1, hc, by unfold notCls; rw [hf'], by rw [hd]; trivial⟩ hga hno hm (hf none rfl) hh h
theorem findObj_excls {cd : ClassData} {a : Value} (hc : clsIn K C = some cd) (ha : findIn K (.ref C) name = some (some a)) (hn : specialIn K a "__get__" = some none) (hv : handedIn a = true) (hcp : copiedNames.contains name = false) :
    findObj K C none name = some (.value a) := by
  unfold findObj
  rw [hc, Option.bind_some, ha, Option.bind_some]
  have ho : W.ownOf cd none name = some none := by unfold W.ownOf; split <;> rfl
  simp only [hn, Option.bind_some, ho, hcp, Bool.false_and, Bool.false_eq_true, if_false, hv, if_true]
end
end Mine

namespace Mine
section
variable {M : Model} {A : Around} {E : Value → Shared → Prop} {s : Shared} {K : Frag} {h₀ : Heap} {L a : Addr} {m mg mb : Str → Option Value} {cn : Str} {cs : Scope} {ccd : Value} {cl : List (Str × Addr)} {p : Program} {loose : List Str} {mean : ExcName → Option Value}
  {x : Str} {pos : Pos} {v : Value} {Q : Value → Shared → Prop}
/-- what a name's rule asks of the scope, as one closed test -/
def okName (cs : Scope) (x : Str) (k : NameKind) : Bool := cs.kind == .function && cs.names.lookup x == some k && !(x == ("__debug__" : Str))
theorem okName.kind {k : NameKind} (h : okName cs x k = true) : cs.kind = .function := by
  simp only [okName, Bool.and_eq_true, beq_iff_eq] at h; exact h.1.1
theorem okName.look {k : NameKind} (h : okName cs x k = true) : cs.names.lookup x = some k := by
  simp only [okName, Bool.and_eq_true, beq_iff_eq] at h; exact h.1.2
theorem okName.no {k : NameKind} (h : okName cs x k = true) : (x == ("__debug__" : Str)) = false := by
  simp only [okName, Bool.and_eq_true, Bool.not_eq_true'] at h; exact h.2
theorem var_L (F : Fr h₀ L s.heap m) (ok : okName cs x .local = true) (hv : m x = some v) (h : Q v s) : wpAny M A (eval (.Name x pos) (envX cn cs L a ccd cl)) Q E s :=
  nameX_L F hv h (okName.kind ok) (okName.look ok) (okName.no ok)
theorem var_K (F : Fr h₀ L s.heap m) (ok : okName cs x .globalImplicit = true) (X : K.In h₀) (T : TopRead p loose mg mb h₀) (e : nsIn K mainGlobals x = some (some v)) (h : Q v s) :
    wpAny M A (eval (.Name x pos) (envX cn cs L a ccd cl)) Q E s := nameX_K F X T e h (okName.kind ok) (okName.look ok) (okName.no ok)
theorem var_B (F : Fr h₀ L s.heap m) (ok : okName cs x .globalImplicit = true) (X : K.In h₀) (T : TopRead p loose mg mb h₀) (e : nsIn K mainGlobals x = some none) (hv : bootBuiltins x = some v) (hn : x ≠ "__name__") (h : Q v s) :
    wpAny M A (eval (.Name x pos) (envX cn cs L a ccd cl)) Q E s := nameX_B F X T e hv hn h (okName.kind ok) (okName.look ok) (okName.no ok)
theorem put_L {Q : Unit → Shared → Prop} {news : List (Addr × Obj)} (F : Fr h₀ L s.heap m) (N : News h₀ L s.heap news) (ok : okName cs x .local = true)
    (h : ∀ h', Fr h₀ L h' (fun y => if y = x then some v else m y) → News h₀ L h' news → Q () { s with heap := h', toks := s.toks + 1 }) : wpAny M A (storeName (envX cn cs L a ccd cl) x v) Q E s :=
  storeX_L F N h (okName.kind ok) (okName.look ok)
end
end Mine

open Mine
local macro_rules | `(tactic| walk_at "my dec") => `(tactic| first | omega | ((simp only [decide_eq_true_eq, decide_eq_false_iff_not, Bool.not_eq_true', Bool.not_eq_false', Bool.not_eq_true, Bool.and_eq_true, Bool.or_eq_true, beq_iff_eq, bne_iff_ne, bne_eq_false_iff_eq, beq_eq_false_iff_ne, ne_eq, Decidable.not_not, Bool.false_bne, Bool.true_bne, Bool.false_eq_true, Bool.true_eq_false, not_false_eq_true, not_true_eq_false, Int.reduceToNat, Int.reducePow, Int.reduceSub, List.sum_append, List.sum_cons, List.sum_nil, List.length_append, List.length_cons, List.length_nil, List.getD_cons_zero, List.cons_append]); done) | ((simp only [decide_eq_true_eq, decide_eq_false_iff_not, Bool.not_eq_true', Bool.not_eq_false', Bool.not_eq_true, Bool.and_eq_true, Bool.or_eq_true, beq_iff_eq, bne_iff_ne, bne_eq_false_iff_eq, beq_eq_false_iff_ne, ne_eq, Decidable.not_not, Bool.false_bne, Bool.true_bne, Bool.false_eq_true, Bool.true_eq_false, not_false_eq_true, not_true_eq_false, Int.reduceToNat, Int.reducePow, Int.reduceSub, List.sum_append, List.sum_cons, List.sum_nil, List.length_append, List.length_cons, List.length_nil, List.getD_cons_zero, List.cons_append]); omega))
local macro_rules | `(tactic| walk_at "my step") => `(tactic| (first | (k_unfold; (try dsimp only)) | ((fail_if_success k_end); walk1) | walk_at "my end" | (k_end; (fail_if_success (with_reducible show JEnd _ _ _ _ _ _ _)); (fail_if_success (with_reducible show IntOut _ _ _ _ _ _ _ _)); (fail_if_success (with_reducible show JMid _ _ _ _ _ _ _ _ _)); (fail_if_success (with_reducible show TestOut _ _ _ _ _ _ _ _)); wrow_close) | walk1 | (dsimp only; walk1) | (leave1; walk_say "STEP leave1"; try dsimp only) | fail "no step"))
local macro_rules | `(tactic| walk_at "getAttr ref") => `(tactic| (k_here; k_dflt (refine' get_own ?k1 ?k2 ?k3 ?k4 ?k5 ?k6 ?k7 ?k8 ?k9 ?_; (case k1 => k_asm); (case k2 => k_asm); (case k3 => k_inst); (case k4 => k_is); (case k5 => k_is); (case k6 => k_is); (case k7 => k_is); (case k8 => k_get); (case k9 => k_handed); k_whole)))
local macro_rules | `(tactic| walk_at "eval Name") => `(tactic| (k_here; (name_kind "globalImplicit"); k_dflt (refine' var_K ?F ?ok ?X ?T ?e ?_; (case ok => decide +kernel); (case F => k_asm); (case X => k_asm); (case T => k_asm); (case e => k_is); k_whole)))
local macro_rules | `(tactic| walk_at "eval Name") => `(tactic| (k_here; (name_kind "globalImplicit"); name_is_builtin; k_dflt (refine' var_B ?F ?ok ?X ?T ?e ?v ?n ?_; (case ok => decide +kernel); (case F => k_asm); (case X => k_asm); (case T => k_asm); (case e => k_is); (case v => boot_fast); (case n => decide); k_whole)))
local macro_rules | `(tactic| walk_at "eval Name") => `(tactic| (k_here; (name_kind "local"); k_dflt (refine' var_L ?F ?ok ?v ?_; (case ok => decide +kernel); (case F => k_asm); (case v => rfl); k_whole)))
local macro_rules | `(tactic| walk_at "storeName") => `(tactic| (k_here; (name_kind "local"); k_dflt (refine' put_L ?F ?N ?ok ?_; (case ok => decide +kernel); (case F => k_asm); (case N => k_asm); k_whole); intro h' F' N'; (try k_sweep)))
local macro_rules | `(tactic| walk_at "newList") => `(tactic| (k_here; k_dflt (refine' newList_K (hsz := ?z) ?k1 ?k2 ?_; (case z => exact Nat.le_of_ble_eq_true rfl); (case k1 => k_asm); (case k2 => k_asm); k_whole); intro l' h' F' N' l1; (try k_lt l1); (try k_sweep)))
local macro_rules | `(tactic| walk_at "execs cons Assign cons") => `(tactic| first | (k_here; k_gentoks) | ((with_reducible refine wpAny_execs_cons ?_); try dsimp only))
local macro_rules | `(tactic| walk_at "my loop") => `(tactic| (show wpAny _ _ (eval (Expr.IfExp _ _ _ _) _) (fun xv s₁ => wpAny _ _ (pyIter xv) _ _ s₁) _ _))
local macro_rules | `(tactic| walk_at "Src") => `(tactic| ((rename Fr _ _ _ _ => lF'); (rename News _ _ _ _ => lN'); (with_unfolding_all refine' Src.intro lF' lN' ?k1 ?k2); (case k1 => first | assumption | exact .cons _ _ .nil); (case k2 => first | (simp only [List.length_take]; omega) | decide)))
local macro_rules | `(tactic| walk_at "call ref") => `(tactic| (k_here; (with_reducible show wpAny _ _ (call (Value.ref 142) _) _ _ _); (fail_if_success (with_reducible show wpAny _ _ _ (IntOut _ _ _ _ _ _) _ _)); (rename Fr _ _ _ _ => lF'); (rename News _ _ _ _ => lN'); (with_unfolding_all refine' join_int lF' lN' (fun v => 0 ≤ v) ?_ ?_); rotate_left; ((try clear lF' lN'); intro v' u' h' tk' hP' F' N'; (try dsimp only)); rotate_right))
local macro_rules | `(tactic| walk_at "call ref") => `(tactic| (k_here; (with_reducible show wpAny _ _ (call (Value.ref 121) _) _ _ _); (fail_if_success (with_reducible show wpAny _ _ _ (IntOut _ _ _ _ _ _) _ _)); (rename Fr _ _ _ _ => lF'); (rename News _ _ _ _ => lN'); (with_unfolding_all refine' join_int lF' lN' (fun v => v = 2147483647) ?_ ?_); rotate_left; ((try clear lF' lN'); intro v' u' h' tk' hP' F' N'; subst hP'; (try dsimp only)); rotate_right))
local macro_rules | `(tactic| walk_at "call ref") => `(tactic| (k_here; (with_reducible show wpAny _ _ (call (Value.ref 149) _) _ _ _); (fail_if_success (with_reducible show wpAny _ _ _ (IntOut _ _ _ _ _ _) _ _)); (rename Fr _ _ _ _ => lF'); (rename News _ _ _ _ => lN'); (with_unfolding_all refine' join_size lF' lN' ?_ ?_); rotate_left; ((try clear lF' lN'); intro v' u' h' tk' hP' F' N'; (try dsimp only)); rotate_right))
local macro_rules | `(tactic| walk_at "isTrue BoolOp") => `(tactic| (k_here; (first | (with_reducible show wpAny _ _ (isTrue (Expr.BoolOp BoolOp.Or [_, Expr.BoolOp BoolOp.And _ _] _) _ _) _ _ _) | (with_reducible show wpAny _ _ (isTrue (Expr.BoolOp BoolOp.Or [Expr.BoolOp BoolOp.And _ _, _] _) _ _) _ _ _)); (fail_if_success (with_reducible show wpAny _ _ _ (TestOut _ _ _ _ _ _) _ _)); (rename Fr _ _ _ _ => lF'); (rename News _ _ _ _ => lN'); (rename (_ = List.sum _) => fp'); (rename (_ = List.sum _ + List.sum _ - List.sum _) => fw'); (rename MaxIs _ _ => fg'); (rename ((_ = (1 : Int) → _) ∧ _) => hv'); (with_unfolding_all refine' join_test lF' lN' fp' fw' fg' hv' ?_ ?_ ?_); (rotate_left; (focus (try clear lF' lN'); intro hD h' tk' F' N'; (try dsimp only [Due] at hD); (try dsimp only); (try (exfalso; clear F' N'; omega))); rotate_left; (focus (try clear lF' lN'); intro hD h' tk' F' N'; (try dsimp only [Due] at hD); (try dsimp only); (try (exfalso; clear F' N'; omega))); rotate_left)))
local macro_rules | `(tactic| walk_at "my end") => `(tactic| ((with_reducible show TestOut _ _ _ _ _ _ _ _); (rename Fr _ _ _ _ => lF'); (rename News _ _ _ _ => lN'); (with_unfolding_all refine' TestOut.intro lF' lN' ?k1 ?k2); (case k1 => (intro p hp; (repeat first | exact hp | refine List.mem_cons_of_mem _ ?_))); (case k2 => ((try dsimp only [Due]); first | (refine tt_iff ?_; walk_at "my dec") | (refine ff_iff ?_; walk_at "my dec") | (refine dec_iff ?_; walk_at "my dec")))))
local macro_rules | `(tactic| walk_at "my out") => `(tactic| first | omega | ((try k_fmods); omega) | ((try simp only [Int.reduceToNat, Int.reducePow, Int.reduceSub]); done) | exact getD_add (by decide +kernel) _ (by (try k_fmods); omega) | exact ⟨fun _ => size_one _ _ _ _ (by omega) (by omega) (by omega), fun hd9 => absurd (by assumption) hd9⟩)
local macro_rules | `(tactic| walk_at "my end") => `(tactic| ((with_reducible show IntOut _ _ _ _ _ _ _ _); (rename Fr _ _ _ _ => lF'); (rename News _ _ _ _ => lN'); (with_unfolding_all refine' IntOut.intro lF' lN' ?k1 ?k2); (case k1 => (intro p hp; (repeat first | exact hp | refine List.mem_cons_of_mem _ ?_))); (case k2 => ((try dsimp only); walk_at "my out"))))
local macro_rules | `(tactic| walk_at "my end") => `(tactic| ((with_reducible show JPost _ _ _ _ _ _ _ _ _); dsimp only [JPost]))
local macro_rules | `(tactic| walk_at "my end") => `(tactic| ((with_reducible show InitBack _ _ _ _); dsimp only [InitBack]))
local macro_rules | `(tactic| walk_at "my facts") => `(tactic| (refine' Facts.mk ?i1 ?i2 ?i3 ?i4 ?i5 ?fw ?fg ?fp ?ff ?w0 ?wg ?gt ?p0 ?l1 ?l2 ?l3 ?l4 ?l5; (case i1 => walk_at "my ints"); (case i2 => walk_at "my ints"); (case i3 => walk_at "my ints"); (case i4 => walk_at "my ints"); (case i5 => walk_at "my ints"); (case fg => first | assumption | exact MaxIs.one _ | exact MaxIs.snoc (by assumption) _ | (refine MaxIs.snoc_eq (by assumption) _ ?_; first | omega | (split <;> omega))); (case ff => exact ⟨_, rfl⟩); all_goals walk_at "my dec"))
local macro_rules | `(tactic| walk_at "my ints") => `(tactic| first | assumption | exact .nil | exact .cons _ _ .nil | exact IntsAre.append (by assumption) (.cons _ _ .nil))
local macro_rules | `(tactic| walk_at "my end") => `(tactic| ((with_reducible show JEnd _ _ (JB _ _) _ _ _ _); (rename Fr _ _ _ _ => lF'); (rename News _ _ _ _ => lN'); (try simp only [List.push_toArray] at lN'); (with_unfolding_all refine' JEnd.storyB lF' lN' ?ow ?e1 ?e2 ?e3 ?e4 ?e5 ?e6 ?e7 ?n1 ?n2 ?n3 ?n4 ?l1 ?l2 ?l3 ?l4 ?l5 ?o ?fa); (case e1 => (with_unfolding_all rfl)); (case e2 => (with_unfolding_all rfl)); (case e3 => (with_unfolding_all rfl)); (case e4 => (with_unfolding_all rfl)); (case e5 => (with_unfolding_all rfl)); (case e6 => (with_unfolding_all rfl)); (case e7 => (with_unfolding_all rfl)); (case n1 => k_dflt k_mem); (case n2 => k_dflt k_mem); (case n3 => k_dflt k_mem); (case n4 => k_dflt k_mem); (case l1 => k_dflt k_mem); (case l2 => k_dflt k_mem); (case l3 => k_dflt k_mem); (case l4 => k_dflt k_mem); (case l5 => k_dflt k_mem); (case ow => (exact own_two (by k_mem) (by k_mem))); (case o => (refine chain_of ?_; omega)); (case fa => walk_at "my facts")))
local macro_rules | `(tactic| walk_at "my end") => `(tactic| ((with_reducible show JEnd _ _ (J _ _) _ _ _ _); refine JEnd.imp (fun _ _ => Or.inr) ?_))
local macro_rules | `(tactic| walk_at "my end") => `(tactic| ((with_reducible show JMid _ _ _ _ _ _ _ Flow.next _); refine JMid.next ?_))
local macro_rules | `(tactic| walk_at "my end") => `(tactic| ((with_reducible show JMid _ _ _ _ _ _ _ Flow.cont _); (rename Fr _ _ _ _ => lF'); (rename News _ _ _ _ => lN'); (with_unfolding_all refine' JMid.none lF' lN' ?k1 ?k2); (case k2 => (with_unfolding_all rfl)); (case k1 => (exact own_two (by k_mem) (by k_mem)))))
local macro_rules | `(tactic| walk_at "callWith ref") => `(tactic| (k_here; (with_reducible show wpAny _ _ (callWith _ (Value.ref _) _ (backTo _ (starEach [] _)) []) _ _ _); k_dflt (refine' callWith_K0 ?k1 ?k2 ?_; (case k1 => first | with_reducible assumption | exact Frag.In.keeps (by with_reducible assumption) (Fr.keep (by with_reducible assumption)) | k_in); (case k2 => k_is); k_whole)))
local macro_rules | `(tactic| walk_at "leaving ref") => `(tactic| (k_here; (with_reducible rename KtsDicts _ _ => kdX); (with_reducible rename Heap.MadeExcOf _ _ _ (Value.ref 63) _ => mxX); (refine' leave_raiseD ?k1 mxX ?k2 ?k3 ?_; (case k2 => with_reducible assumption); (case k1 => with_reducible assumption); (case k3 => k_asm); k_whole; intro h' t' S' R' U' dn'; (try dsimp only at S' R' U' dn' ⊢))))
local macro_rules | `(tactic| walk_at "noteFrame ref") => `(tactic| (k_here; (rename RaisedS _ _ _ _ _ _ _ _ _ => rsX); (rename DN _ _ => dnX); (with_reducible show wpAny _ _ (noteFrame _ _) (fun _ s₂ => wpAny _ _ (setFlight _ none) (fun _ s₃ => wpAny _ _ (handleBy _ _ (ExceptHandler.ExceptHandler (some (Expr.Name _ _)) (some _) _ _ :: _)) _ _ s₃) _ s₂) _ _); k_dflt (refine' caught_D dnX rsX ?F ?K ?U ?XB ?TB ?D ?T0 ?ex ?q ?_; (case F => first | with_reducible assumption | assumption); (case K => first | with_reducible assumption | assumption); (case U => first | with_reducible assumption | assumption); (case XB => first | with_reducible assumption | assumption); (case TB => first | with_reducible assumption | assumption); (case D => first | with_reducible assumption | assumption); (case T0 => first | with_reducible assumption | exact KtsTurn.refl | assumption); (case ex => k_is); (case q => kts_isx); k_whole); intro h' g' n₂ tk' T' F' N₂ G' N' K' X' P' D'; (try k_lift K'); (try k_sweep)))
local macro_rules | `(tactic| walk_at "getAttr ref") => `(tactic| (k_here; (rename GotD _ _ _ => gdX); (with_reducible show wpAny _ _ (getAttr (Value.ref _) _ _) _ _ _); k_dflt (refine' get_gotD ?k1 ?k2 ?k3 gdX ?k4 ?k5 ?k6 ?k7 ?k8 ?_; (case k1 => k_asm); (case k2 => k_asm); (case k3 => k_asm); (case k4 => k_is); (case k5 => k_is); (case k6 => k_is); (case k7 => (intro od9 e9; subst e9; refine' findObj_excls ?a ?b ?c ?d ?e; (case a => k_is); (case b => k_is); (case c => k_is); (case d => rfl); (case e => decide +kernel))); (case k8 => rfl); k_whole)))
local macro_rules | `(tactic| walk_at "call builtin:sum") => `(tactic| (k_here; (with_reducible show wpAny _ _ (call (Value.builtin _) [Value.ref _]) _ _ _); (with_unfolding_all refine' sum_push ?k1 ?k2 ?k3 ?k4 ?k5 ?_; (case k1 => k_asm); (case k2 => k_asm); (case k3 => k_mem); (case k4 => with_reducible assumption); (case k5 => with_unfolding_all rfl); k_whole); intro h' t' k' F' N'; (try k_sweep)))
local macro_rules | `(tactic| walk_at "call builtin:max") => `(tactic| (k_here; (with_reducible show wpAny _ _ (call (Value.builtin _) [Value.ref _]) _ _ _); (with_unfolding_all refine' max_push ?k1 ?k2 ?k3 ?k4 ?k5 ?k6 ?_; (case k1 => k_asm); (case k2 => k_asm); (case k3 => k_mem); (case k4 => with_reducible assumption); (case k5 => with_reducible assumption); (case k6 => with_unfolding_all rfl); k_whole); intro h' t' k' F' N'; (try k_sweep)))
local macro_rules | `(tactic| walk_at "subscriptTail Name Constant ref int") => `(tactic| (k_here; (with_reducible show wpAny _ _ (subscriptTail _ _ (Value.ref _) (Value.int 0 _)) _ _ _); first | (with_unfolding_all refine' item0 ?k1 ?k2 ?k3 ?_ ?k4; (case k1 => k_asm); (case k2 => k_mem); (case k3 => with_reducible assumption); (case k4 => with_unfolding_all rfl); k_whole; intro t') | (with_unfolding_all refine' item0_push ?k1 ?k2 ?k3 ?_ ?k4; (case k1 => k_asm); (case k2 => k_mem); (case k3 => with_reducible assumption); (case k4 => with_unfolding_all rfl); k_whole; intro t')))
local macro_rules | `(tactic| walk_at "subscriptTail Name Constant ref int") => `(tactic| (k_here; (with_reducible show wpAny _ _ (subscriptTail _ _ (Value.ref _) (Value.int _ _)) _ _ _); k_dflt (refine' item_tupleT ?t ?a ?b ?c ?d ?_; (case t => exact News.isTup (by k_asm) (by k_mem)); (case a => decide); (case b => decide); (case c => rfl); (case d => rfl); k_whole)))
local macro_rules | `(tactic| k_upd) => `(tactic| first | exact upd_dm (by with_reducible assumption) | exact upd_db (by with_reducible assumption) | exact upd_a5 (by with_reducible assumption) | exact upd_a4 (by with_reducible assumption) | exact upd_a3 (by with_reducible assumption) | exact upd_a2 (by with_reducible assumption) | exact upd_a1 (by with_reducible assumption))
local macro_rules | `(tactic| k_in) => `(tactic| first | with_reducible assumption | exact Frag.In.keeps (by with_reducible assumption) (Fr.keep (by with_reducible assumption)))
local macro_rules | `(tactic| size_fits) => `(tactic| ((simp only [List.size_toArray, PySem.sizeLine_eq]); omega))
local macro_rules | `(tactic| walk_at "eval Constant int") => `(tactic| (refine wpAny_Constant_int ?_; (try dsimp only)))
local macro_rules | `(tactic| walk_at "ite") => `(tactic| ((refine two_way (fun hc9 => ?_) (fun hc9 => ?_)) <;> (try simp only [decide_eq_true_eq, decide_eq_false_iff_not, Bool.not_eq_true', Bool.not_eq_false', Bool.not_eq_true, Bool.and_eq_true, Bool.or_eq_true, beq_iff_eq, bne_iff_ne, bne_eq_false_iff_eq, beq_eq_false_iff_ne, ne_eq, Decidable.not_not, Bool.false_bne, Bool.true_bne, Bool.false_eq_true, Bool.true_eq_false, not_false_eq_true, not_true_eq_false, Int.reduceToNat, Int.reducePow, Int.reduceSub, List.sum_append, List.sum_cons, List.sum_nil, List.length_append, List.length_cons, List.length_nil, List.getD_cons_zero, List.cons_append] at hc9)))
local macro_rules | `(tactic| walk_at "ite") => `(tactic| first | with_reducible refine ite_tt ?_ | with_reducible refine ite_ff ?_ | (refine cut_ff ?c9 ?_; (case c9 => walk_at "my dec"); walk_say "CUT") | (refine cut_tt ?c9 ?_; (case c9 => walk_at "my dec"); walk_say "CUT"))
local macro_rules | `(tactic| walk_at "call builtin:max") => `(tactic| (k_here; (with_reducible show wpAny _ _ (call (Value.builtin _) [Value.ref _]) _ _ _); (with_unfolding_all refine' max_is ?k1 ?k2 ?k3 ?k4 ?k5 ?k6 ?_; (case k1 => k_asm); (case k2 => k_asm); (case k3 => kso_list); (case k4 => l_ints); (case k5 => first | assumption | exact MaxIs.snoc (by assumption) _ | exact MaxIs.one _); (case k6 => with_unfolding_all rfl); k_whole); intro h' t' k' F' N'; (try k_sweep)))
set_option maxRecDepth 100000 in
set_option maxHeartbeats 0 in
theorem PySem.Challenge.cw_jb0015_01_holds : PySem.Challenge.rw_jb0015_01.Holds := by
  w_on
  o_law
  k_head
  (case hw => w_witness2)
  k_go0
  (all_goals try k_fold)
  repeat ((fail_if_success with_reducible walk_at "my loop"); walk_at "my step")
  rename Fr _ _ _ _ => lF'
  refine' join_src lF' ?src ?loop
  case src =>
    repeat' walk_at "my step"
  case loop =>
    clear lF'
    intro l vs ns nn h tk hi hn F N
    refine iter_J (J 110) ?hL ?_ (List.mem_cons_self ..) hi F N (.inl ⟨rfl, rfl⟩) ?turn ?done
    case hL => rfl
    · rfl
    case done =>
      clear F N
      intro m₁ nx h tk hJ F N
      clear hJ
      repeat' walk_at "my step"
    case turn =>
      clear F N hi
      intro i n t m₁ nx h tk I it lo hlt hlI hJ hab F N
      replace hlI := ltN hlI
      show wpAny _ _ _ _ _ _
      k_fold
      walk_at "my step"
      refine mid_join 110 (i + 1) [(I, it), (l, lo)] I F ?w ?cc ?tail
      case cc =>
        intro s₂ e
        exact JEnd.imp (fun _ _ => Or.inl) e
      case tail =>
        clear F N hJ hab
        intro xm dm xb db a1 a2 a3 a4 a5 h1 h2 h3 k1 k2 k3 t1 t2 t3 u1 u2 u3 p1 p2 p3 q1 q2 q3 v1 v2 v3 v4 v5 c1 c2 c3 c4 c5 rest came opened given waiting W G P S h' tk' m' F N o0 o1 o2 o3 o4 o5 o6 o7 o8 i1 i2 i3 i4 i5 fw fg fp w0 wg gt p0 l1 l2 l3 l4 l5 z1 z2 z3 z4 z5
        simp only [Led, List.cons_append, List.nil_append] at N
        have ord : Line l I dm xm db xb a1 a2 a3 a4 a5 := ⟨hlI, o0, o1, o2, o3, o4, o5, o6, o7, o8⟩
        show wpAny _ _ _ _ _ _
        try k_fold
        repeat' walk_at "my step"
      case w =>
        rcases hJ with ⟨rfl, hm⟩ | hB
        · replace F := fr_one F hm
          clear hab hm
          simp only [List.nil_append] at N
          show wpAny _ _ _ _ _ _
          try k_fold
          repeat' walk_at "my step"
        · refine JB.elim hB F N hab ?_
          clear hB F N hab
          intro xm dm xb db a1 a2 a3 a4 a5 h1 h2 h3 k1 k2 k3 t1 t2 t3 u1 u2 u3 p1 p2 p3 q1 q2 q3 v1 v2 v3 v4 v5 c1 c2 c3 c4 c5 rest came opened given waiting W G P S F N o0 o1 o2 o3 o4 o5 o6 o7 o8 i1 i2 i3 i4 i5 fw fg fp w0 wg gt p0 l1 l2 l3 l4 l5 z1 z2 z3 z4 z5
          simp only [Led, List.cons_append, List.nil_append] at N
          have ord : Line l I dm xm db xb a1 a2 a3 a4 a5 := ⟨hlI, o0, o1, o2, o3, o4, o5, o6, o7, o8⟩
          have g2 : G.fdiv 2 = G / 2 := Int.fdiv_eq_ediv_of_nonneg _ (by decide)
          have g4 : G.fdiv 4 = G / 4 := Int.fdiv_eq_ediv_of_nonneg _ (by decide)
          have m2 : G.fmod 2 = G % 2 := Int.fmod_eq_emod_of_nonneg _ (by decide)
          have m4 : G.fmod 4 = G % 4 := Int.fmod_eq_emod_of_nonneg _ (by decide)
          have n3 : n.fmod 3 = n % 3 := Int.fmod_eq_emod_of_nonneg _ (by decide)
          show wpAny _ _ _ _ _ _
          try k_fold
          repeat' walk_at "my step"
