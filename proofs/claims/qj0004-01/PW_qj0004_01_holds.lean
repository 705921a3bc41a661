import PyProof.Rows.All
import Wide.All
import OpenK.AllK
import Wide.FinOn
import PySem.Challenge.RW_qj0004_01
open PySem PySem.W PyProof.Rows
set_option Elab.async false

namespace Mine
set_option maxRecDepth 100000 in
set_option maxHeartbeats 8000000 in
open_top hd for PySem.Challenge.rw_qj0004_01
end Mine

namespace Mine
theorem frB1 {h₀ h : Heap} {L : Addr} {m : Str → Option Value} {x0 : Str} {v0 : Value} (F : Fr h₀ L h m) (h0 : m x0 = some v0) : Fr h₀ L h (fun z => if z = x0 then some v0 else m z) := by
  have e : (fun z => if z = x0 then some v0 else m z) = m := by
    funext z
    by_cases q0 : z = x0
    · rw [if_pos q0, q0, h0]
    rw [if_neg q0]
  rw [e]; exact F
theorem frB2 {h₀ h : Heap} {L : Addr} {m : Str → Option Value} {x0 x1 : Str} {v0 v1 : Value} (F : Fr h₀ L h m) (h0 : m x0 = some v0) (h1 : m x1 = some v1) : Fr h₀ L h (fun z => if z = x0 then some v0 else if z = x1 then some v1 else m z) := by
  have e : (fun z => if z = x0 then some v0 else if z = x1 then some v1 else m z) = m := by
    funext z
    by_cases q0 : z = x0
    · rw [if_pos q0, q0, h0]
    rw [if_neg q0]
    by_cases q1 : z = x1
    · rw [if_pos q1, q1, h1]
    rw [if_neg q1]
  rw [e]; exact F
theorem frB3 {h₀ h : Heap} {L : Addr} {m : Str → Option Value} {x0 x1 x2 : Str} {v0 v1 v2 : Value} (F : Fr h₀ L h m) (h0 : m x0 = some v0) (h1 : m x1 = some v1) (h2 : m x2 = some v2) : Fr h₀ L h (fun z => if z = x0 then some v0 else if z = x1 then some v1 else if z = x2 then some v2 else m z) := by
  have e : (fun z => if z = x0 then some v0 else if z = x1 then some v1 else if z = x2 then some v2 else m z) = m := by
    funext z
    by_cases q0 : z = x0
    · rw [if_pos q0, q0, h0]
    rw [if_neg q0]
    by_cases q1 : z = x1
    · rw [if_pos q1, q1, h1]
    rw [if_neg q1]
    by_cases q2 : z = x2
    · rw [if_pos q2, q2, h2]
    rw [if_neg q2]
  rw [e]; exact F
theorem frB4 {h₀ h : Heap} {L : Addr} {m : Str → Option Value} {x0 x1 x2 x3 : Str} {v0 v1 v2 v3 : Value} (F : Fr h₀ L h m) (h0 : m x0 = some v0) (h1 : m x1 = some v1) (h2 : m x2 = some v2) (h3 : m x3 = some v3) : Fr h₀ L h (fun z => if z = x0 then some v0 else if z = x1 then some v1 else if z = x2 then some v2 else if z = x3 then some v3 else m z) := by
  have e : (fun z => if z = x0 then some v0 else if z = x1 then some v1 else if z = x2 then some v2 else if z = x3 then some v3 else m z) = m := by
    funext z
    by_cases q0 : z = x0
    · rw [if_pos q0, q0, h0]
    rw [if_neg q0]
    by_cases q1 : z = x1
    · rw [if_pos q1, q1, h1]
    rw [if_neg q1]
    by_cases q2 : z = x2
    · rw [if_pos q2, q2, h2]
    rw [if_neg q2]
    by_cases q3 : z = x3
    · rw [if_pos q3, q3, h3]
    rw [if_neg q3]
  rw [e]; exact F
theorem frB5 {h₀ h : Heap} {L : Addr} {m : Str → Option Value} {x0 x1 x2 x3 x4 : Str} {v0 v1 v2 v3 v4 : Value} (F : Fr h₀ L h m) (h0 : m x0 = some v0) (h1 : m x1 = some v1) (h2 : m x2 = some v2) (h3 : m x3 = some v3) (h4 : m x4 = some v4) : Fr h₀ L h (fun z => if z = x0 then some v0 else if z = x1 then some v1 else if z = x2 then some v2 else if z = x3 then some v3 else if z = x4 then some v4 else m z) := by
  have e : (fun z => if z = x0 then some v0 else if z = x1 then some v1 else if z = x2 then some v2 else if z = x3 then some v3 else if z = x4 then some v4 else m z) = m := by
    funext z
    by_cases q0 : z = x0
    · rw [if_pos q0, q0, h0]
    rw [if_neg q0]
    by_cases q1 : z = x1
    · rw [if_pos q1, q1, h1]
    rw [if_neg q1]
    by_cases q2 : z = x2
    · rw [if_pos q2, q2, h2]
    rw [if_neg q2]
    by_cases q3 : z = x3
    · rw [if_pos q3, q3, h3]
    rw [if_neg q3]
    by_cases q4 : z = x4
    · rw [if_pos q4, q4, h4]
    rw [if_neg q4]
  rw [e]; exact F
theorem frB6 {h₀ h : Heap} {L : Addr} {m : Str → Option Value} {x0 x1 x2 x3 x4 x5 : Str} {v0 v1 v2 v3 v4 v5 : Value} (F : Fr h₀ L h m) (h0 : m x0 = some v0) (h1 : m x1 = some v1) (h2 : m x2 = some v2) (h3 : m x3 = some v3) (h4 : m x4 = some v4) (h5 : m x5 = some v5) : Fr h₀ L h (fun z => if z = x0 then some v0 else if z = x1 then some v1 else if z = x2 then some v2 else if z = x3 then some v3 else if z = x4 then some v4 else if z = x5 then some v5 else m z) := by
  have e : (fun z => if z = x0 then some v0 else if z = x1 then some v1 else if z = x2 then some v2 else if z = x3 then some v3 else if z = x4 then some v4 else if z = x5 then some v5 else m z) = m := by
    funext z
    by_cases q0 : z = x0
    · rw [if_pos q0, q0, h0]
    rw [if_neg q0]
    by_cases q1 : z = x1
    · rw [if_pos q1, q1, h1]
    rw [if_neg q1]
    by_cases q2 : z = x2
    · rw [if_pos q2, q2, h2]
    rw [if_neg q2]
    by_cases q3 : z = x3
    · rw [if_pos q3, q3, h3]
    rw [if_neg q3]
    by_cases q4 : z = x4
    · rw [if_pos q4, q4, h4]
    rw [if_neg q4]
    by_cases q5 : z = x5
    · rw [if_pos q5, q5, h5]
    rw [if_neg q5]
  rw [e]; exact F
theorem frB8 {h₀ h : Heap} {L : Addr} {m : Str → Option Value} {x0 x1 x2 x3 x4 x5 x6 x7 : Str} {v0 v1 v2 v3 v4 v5 v6 v7 : Value} (F : Fr h₀ L h m) (h0 : m x0 = some v0) (h1 : m x1 = some v1) (h2 : m x2 = some v2) (h3 : m x3 = some v3) (h4 : m x4 = some v4) (h5 : m x5 = some v5) (h6 : m x6 = some v6) (h7 : m x7 = some v7) : Fr h₀ L h (fun z => if z = x0 then some v0 else if z = x1 then some v1 else if z = x2 then some v2 else if z = x3 then some v3 else if z = x4 then some v4 else if z = x5 then some v5 else if z = x6 then some v6 else if z = x7 then some v7 else m z) := by
  have e : (fun z => if z = x0 then some v0 else if z = x1 then some v1 else if z = x2 then some v2 else if z = x3 then some v3 else if z = x4 then some v4 else if z = x5 then some v5 else if z = x6 then some v6 else if z = x7 then some v7 else m z) = m := by
    funext z
    by_cases q0 : z = x0
    · rw [if_pos q0, q0, h0]
    rw [if_neg q0]
    by_cases q1 : z = x1
    · rw [if_pos q1, q1, h1]
    rw [if_neg q1]
    by_cases q2 : z = x2
    · rw [if_pos q2, q2, h2]
    rw [if_neg q2]
    by_cases q3 : z = x3
    · rw [if_pos q3, q3, h3]
    rw [if_neg q3]
    by_cases q4 : z = x4
    · rw [if_pos q4, q4, h4]
    rw [if_neg q4]
    by_cases q5 : z = x5
    · rw [if_pos q5, q5, h5]
    rw [if_neg q5]
    by_cases q6 : z = x6
    · rw [if_pos q6, q6, h6]
    rw [if_neg q6]
    by_cases q7 : z = x7
    · rw [if_pos q7, q7, h7]
    rw [if_neg q7]
  rw [e]; exact F
theorem ws_next {h₀ h' : Heap} {L : Addr} {s : Shared} {J : Nat → (Str → Option Value) → List (Addr × Obj) → Prop} {Q : Flow → Shared → Prop} {n n' tk : Nat} {m₂ : Str → Option Value} {news₂ : List (Addr × Obj)}
    (F : Fr h₀ L h' m₂) (N : News h₀ L h' news₂) (hn : n' < n) (hJ : J n' m₂ news₂) : WhileStep2 h₀ L s J Q n .next { s with heap := h', toks := tk } := ⟨h', tk, m₂, news₂, n', rfl, F, N, hn, hJ⟩
theorem ws_cont {h₀ h' : Heap} {L : Addr} {s : Shared} {J : Nat → (Str → Option Value) → List (Addr × Obj) → Prop} {Q : Flow → Shared → Prop} {n n' tk : Nat} {m₂ : Str → Option Value} {news₂ : List (Addr × Obj)}
    (F : Fr h₀ L h' m₂) (N : News h₀ L h' news₂) (hn : n' < n) (hJ : J n' m₂ news₂) : WhileStep2 h₀ L s J Q n .cont { s with heap := h', toks := tk } := ⟨h', tk, m₂, news₂, n', rfl, F, N, hn, hJ⟩
theorem endG0 {h₀ : Heap} {L : Addr} {J : (Str → Option Value) → List (Addr × Obj) → Prop} {m' : Str → Option Value} {news own : List (Addr × Obj)} {s₁ : Shared} {h' : Heap} {tk : Nat} (F : Fr h₀ L h' m') (N : News h₀ L h' ((news ++ own)))
    (hj : J m' (news)) (ha : OwnOff own ((news).map (·.1))) : InvEndG h₀ L J own s₁ { s₁ with heap := h', toks := tk } :=
  InvEndG.intro F N hj ha (fun p hp => by simp only [List.mem_cons, List.mem_append] at hp ⊢; grind) (fun p hp => by simp only [List.mem_cons, List.mem_append]; grind)
theorem endG2 {h₀ : Heap} {L : Addr} {J : (Str → Option Value) → List (Addr × Obj) → Prop} {m' : Str → Option Value} {x0 x1 : Addr × Obj} {news own : List (Addr × Obj)} {s₁ : Shared} {h' : Heap} {tk : Nat} (F : Fr h₀ L h' m') (N : News h₀ L h' (x0 :: x1 :: (news ++ own)))
    (hj : J m' (x0 :: x1 :: news)) (ha : OwnOff own ((x0 :: x1 :: news).map (·.1))) : InvEndG h₀ L J own s₁ { s₁ with heap := h', toks := tk } :=
  InvEndG.intro F N hj ha (fun p hp => by simp only [List.mem_cons, List.mem_append] at hp ⊢; grind) (fun p hp => by simp only [List.mem_cons, List.mem_append]; grind)
theorem endG3 {h₀ : Heap} {L : Addr} {J : (Str → Option Value) → List (Addr × Obj) → Prop} {m' : Str → Option Value} {x0 x1 x2 : Addr × Obj} {news own : List (Addr × Obj)} {s₁ : Shared} {h' : Heap} {tk : Nat} (F : Fr h₀ L h' m') (N : News h₀ L h' (x0 :: x1 :: x2 :: (news ++ own)))
    (hj : J m' (x0 :: x1 :: x2 :: news)) (ha : OwnOff own ((x0 :: x1 :: x2 :: news).map (·.1))) : InvEndG h₀ L J own s₁ { s₁ with heap := h', toks := tk } :=
  InvEndG.intro F N hj ha (fun p hp => by simp only [List.mem_cons, List.mem_append] at hp ⊢; grind) (fun p hp => by simp only [List.mem_cons, List.mem_append]; grind)
theorem endG4 {h₀ : Heap} {L : Addr} {J : (Str → Option Value) → List (Addr × Obj) → Prop} {m' : Str → Option Value} {x0 x1 x2 x3 : Addr × Obj} {news own : List (Addr × Obj)} {s₁ : Shared} {h' : Heap} {tk : Nat} (F : Fr h₀ L h' m') (N : News h₀ L h' (x0 :: x1 :: x2 :: x3 :: (news ++ own)))
    (hj : J m' (x0 :: x1 :: x2 :: x3 :: news)) (ha : OwnOff own ((x0 :: x1 :: x2 :: x3 :: news).map (·.1))) : InvEndG h₀ L J own s₁ { s₁ with heap := h', toks := tk } :=
  InvEndG.intro F N hj ha (fun p hp => by simp only [List.mem_cons, List.mem_append] at hp ⊢; grind) (fun p hp => by simp only [List.mem_cons, List.mem_append]; grind)
theorem nTl {h₀ h : Heap} {L : Addr} {p : Addr × Obj} {l : List (Addr × Obj)} (N : News h₀ L h (p :: l)) : News h₀ L h l := fun q hq => N q (.tail _ hq)
theorem nSk {h₀ h : Heap} {L : Addr} {p q : Addr × Obj} {l : List (Addr × Obj)} (N : News h₀ L h (p :: q :: l)) : News h₀ L h (p :: l) := fun r hr => by
  rcases List.mem_cons.mp hr with e | hr
  · exact N r (e ▸ .head _)
  · exact N r (.tail _ (.tail _ hr))
section
variable {prog : Program} {w : World} {A : Around} {E : Value → Shared → Prop} {s : Shared} {env : Env} {h₀ : Heap} {x : Str} {body : List Stmt} {Q : Flow → Shared → Prop}
/-- a for over range(a, b), by an invariant over the turn's number, the frame's map and the ledger -/
theorem range_inv {r : Addr} {a₀ b₀ : Int} {t₀ u₀ v₀ : Tok} {m₀ : Str → Option Value} {news : List (Addr × Obj)} (n : Nat) (J : Nat → (Str → Option Value) → List (Addr × Obj) → Prop)
    (hh : A.handled = none) (hr : IsRange s.heap r a₀ b₀ 1 t₀ u₀ v₀) (hsmall : Builtin.Range.small a₀ b₀ 1 = true) (hsz : n = (b₀ - a₀).toNat) (F : Fr h₀ env.locals s.heap m₀) (N : News h₀ env.locals s.heap news) (hj : J 0 m₀ news)
    (turn : ∀ (i : Nat) t m₁ nx h tk own, i < n → OwnOff own (nx.map (·.1)) → J i m₁ nx → Fr h₀ env.locals h (fun y => if y = x then some (.int (a₀ + (i : Int)) t) else m₁ y) → News h₀ env.locals h (nx ++ own) →
      wpAny (model prog w) A (execs body env) (InvPostG h₀ env.locals (J (i + 1)) own { s with heap := h, toks := tk } Q) E { s with heap := h, toks := tk })
    (done : ∀ m₁ nx h tk, J n m₁ nx → Fr h₀ env.locals h m₁ → News h₀ env.locals h nx → Q .next { s with heap := h, toks := tk }) :
    wpAny (model prog w) A (pyIter (.ref r)) (fun it s₂ => LoopAtV prog w A h₀ env x body Q E it s₂) E s := by
  subst hsz
  refine wpAny_pyIter_range hr hsmall ?_
  have W : Walks prog w A s.heap.objs.size [s.heap.objs.size] [s.heap.objs.size] (b₀ - a₀).toNat (fun i v => i < (b₀ - a₀).toNat ∧ ∃ t, v = .int (a₀ + i * 1) t)
      (fun i h => IsRangeIter h s.heap.objs.size (a₀ + (i : Nat) * 1) (((b₀ - a₀).toNat : Int) - (i : Nat)) 1) := (Walks.range hh _ a₀ 1 _).bound
  refine kdr_loop J W (fun _ h => h) (fun _ h => h) ?_ ?_ ?_ ?_ (by show IsRangeIter _ _ _ _ _; rw [rangeSize_nat]; simpa using Heap.get?_push_size _ rfl) (F.push _) (fun p hp => ⟨Heap.get?_push_of_some _ (N p hp).1, (N p hp).2⟩) hj ?_ ?_
  · intro i h hi b hb
    rw [List.mem_singleton.mp hb]
    exact ⟨_, hi⟩
  · intro hm
    exact absurd F.ns.lt ((List.mem_singleton.mp hm) ▸ Nat.lt_irrefl _)
  · intro b hb
    rw [List.mem_singleton.mp hb]
    exact next_is_new F
  · intro p hp hI
    exact absurd (Heap.lt_size (N p hp).1) ((List.mem_singleton.mp hI) ▸ Nat.lt_irrefl _)
  · rintro i v m₁ nx h tk own hi ⟨_, t, rfl⟩ hoff hJ F₁ N₁
    have e1 : a₀ + (i : Int) * 1 = a₀ + (i : Int) := by omega
    rw [e1] at F₁
    exact turn i t m₁ nx h tk own hi hoff hJ F₁ N₁
  · intro m₁ nx h tk hJ F₁ N₁
    exact done m₁ nx h tk hJ F₁ N₁
/-- a for over a text's signs -/
theorem str_inv {xt : Str} {tx : Tok} {m₀ : Str → Option Value} {news : List (Addr × Obj)} (J : Nat → (Str → Option Value) → List (Addr × Obj) → Prop)
    (hh : A.handled = none) (F : Fr h₀ env.locals s.heap m₀) (N : News h₀ env.locals s.heap news) (hj : J 0 m₀ news)
    (turn : ∀ (i c : Nat) t m₁ nx h tk own, xt.cps[i]? = some c → OwnOff own (nx.map (·.1)) → J i m₁ nx → Fr h₀ env.locals h (fun y => if y = x then some (.str ⟨#[c]⟩ t) else m₁ y) → News h₀ env.locals h (nx ++ own) →
      wpAny (model prog w) A (execs body env) (InvPostG h₀ env.locals (J (i + 1)) own { s with heap := h, toks := tk } Q) E { s with heap := h, toks := tk })
    (done : ∀ m₁ nx h tk, J xt.cps.size m₁ nx → Fr h₀ env.locals h m₁ → News h₀ env.locals h nx → Q .next { s with heap := h, toks := tk }) :
    wpAny (model prog w) A (pyIter (.str xt tx)) (fun it s₂ => LoopAtV prog w A h₀ env x body Q E it s₂) E s := by
  have key : ∀ (nm : String) (o : Obj), (∀ i h, (h : Heap).IsStrIter s.heap.objs.size nm xt tx i → ∃ ob, h.get? s.heap.objs.size = some ob) →
      Walks prog w A s.heap.objs.size [s.heap.objs.size] [s.heap.objs.size] xt.cps.size (SignAt xt) (fun i h => h.IsStrIter s.heap.objs.size nm xt tx i) → (s.heap.push o).IsStrIter s.heap.objs.size nm xt tx 0 →
      LoopAtV prog w A h₀ env x body Q E (.ref s.heap.objs.size) { s with heap := s.heap.push o } := by
    intro nm o hex W hst
    refine kdr_loop (s := { s with heap := s.heap.push o }) J W (fun _ h => h) (fun _ h => h) ?_ ?_ ?_ ?_ hst (F.push _) (fun p hp => ⟨Heap.get?_push_of_some _ (N p hp).1, (N p hp).2⟩) hj ?_ ?_
    · intro i h hi b hb
      rw [List.mem_singleton.mp hb]
      exact hex i h hi
    · intro hm
      exact absurd F.ns.lt ((List.mem_singleton.mp hm) ▸ Nat.lt_irrefl _)
    · intro b hb
      rw [List.mem_singleton.mp hb]
      exact next_is_new F
    · intro p hp hI
      exact absurd (Heap.lt_size (N p hp).1) ((List.mem_singleton.mp hI) ▸ Nat.lt_irrefl _)
    · rintro i v m₁ nx h tk own hi ⟨c, u, hc, rfl⟩ hoff hJ F₁ N₁
      exact turn i c u m₁ nx h tk own hc hoff hJ F₁ N₁
    · intro m₁ nx h tk hJ F₁ N₁
      exact done m₁ nx h tk hJ F₁ N₁
  cases ha : xt.cps.all (· < 128)
  · exact wpAny_pyIter_wide ha (key "str_iterator" _ (fun _ _ ⟨o, ho, _⟩ => ⟨o, ho⟩) (Walks.strWide hh _ xt tx) ⟨_, Heap.get?_push_size _ rfl, rfl, rfl⟩)
  · exact wpAny_pyIter_ascii ha (key "str_ascii_iterator" _ (fun _ _ ⟨o, ho, _⟩ => ⟨o, ho⟩) (Walks.strAscii hh _ xt tx) ⟨_, Heap.get?_push_size _ rfl, rfl, rfl⟩)
end
/-- what a call of the def at f does, whoever calls it: k frames of room, then Ret -/
abbrev Calls (w : World) (f : Addr) (vs : List Value) (news : List (Addr × Obj)) (k : Nat) (Ret : Heap → Addr → (Str → Option Value) → Shared → (Value → Shared → Prop) → Prop) : Prop :=
  ∀ (loose : List Str) (mean : ExcName → Option Value) (mg mb : Str → Option Value) (dp un : Nat) (gd : Option (List Code)) (cn : Str) (cs : Scope) (a : Addr) (ccd : Value) (cl : List (Str × Addr)) (outer : List Env) (A₀ : Around) (base h₀ : Heap) (L : Addr) (m : Str → Option Value) (s : Shared) (Q E : Value → Shared → Prop),
    Below A₀ base outer h₀ → Fr h₀ L s.heap m → (Mine.hd.heap_39 w.params).In h₀ → News h₀ L s.heap news → Top Mine.hd.view_39 loose mean mg mb h₀ → cs.kind = .function →
    dp + k < recursionLimit → un + 8 * k < cLine → Ret h₀ L m s Q →
    wpAny (model PySem.Challenge.rw_qj0004_01.row.prog w) (ktrTop dp un gd cn cs L a ccd cl outer) (call (.ref f) vs) Q E s
theorem Calls.use {w : World} {f : Addr} {vs : List Value} {news : List (Addr × Obj)} {k : Nat} {Ret : Heap → Addr → (Str → Option Value) → Shared → (Value → Shared → Prop) → Prop} (C : Calls w f vs news k Ret)
    {loose : List Str} {mean : ExcName → Option Value} {mg mb : Str → Option Value} {dp un : Nat} {gd : Option (List Code)} {cn : Str} {cs : Scope} {a : Addr} {ccd : Value} {cl : List (Str × Addr)} {outer : List Env} {A₀ : Around} {base h₀ : Heap} {L : Addr} {m : Str → Option Value} {s : Shared} {Q E : Value → Shared → Prop}
    (hB : Below A₀ base outer h₀) (hF : Fr h₀ L s.heap m) (hK : (Mine.hd.heap_39 w.params).In h₀) (hN : News h₀ L s.heap news) (hT : Top Mine.hd.view_39 loose mean mg mb h₀) (hk : cs.kind = .function)
    (hd : dp + k < recursionLimit) (hu : un + 8 * k < cLine) (hr : Ret h₀ L m s Q) : wpAny (model PySem.Challenge.rw_qj0004_01.row.prog w) (ktrTop dp un gd cn cs L a ccd cl outer) (call (.ref f) vs) Q E s :=
  C _ _ _ _ _ _ _ _ _ _ _ _ _ _ _ _ _ _ _ _ _ hB hF hK hN hT hk hd hu hr
end Mine

namespace Mine
/-- the figures to the base 2, the lowest first, without the highest -/
def sgW (n : Nat) : List Nat := if n ≤ 1 then [] else (if n % 2 = 1 then 9 else 32) :: sgW (n / 2)
termination_by n
decreasing_by omega
theorem sgW_lo {n : Nat} (h : n ≤ 1) : sgW n = [] := by rw [sgW, if_pos h]
theorem sgW_hi {n : Nat} (h : ¬ n ≤ 1) : sgW n = (if n % 2 = 1 then 9 else 32) :: sgW (n / 2) := by rw [sgW, if_neg h]
theorem sgW_len (n : Nat) : (sgW n).length ≤ n := by
  induction n using Nat.strongRecOn with
  | ind n ih =>
    by_cases h : n ≤ 1
    · rw [sgW_lo h]; exact Nat.zero_le _
    · rw [sgW_hi h, List.length_cons]; have := ih (n / 2) (by omega); omega
def sgS (r : Int) : Str := ⟨(sgW r.toNat).toArray⟩
theorem sg_turn {rest r : Int} {text y : Str} (h : 1 < rest) (hr : r ≤ 512) (he : text.cps.toList ++ sgW rest.toNat = sgW r.toNat) (hy : y.cps.toList = [if rest.toNat % 2 = 1 then 9 else 32]) :
    (rest.fdiv 2).toNat < rest.toNat ∧ 0 ≤ rest.fdiv 2 ∧ rest.fdiv 2 ≤ rest ∧ (text ++ y).length ≤ 512 ∧ (text ++ y).cps.toList ++ sgW (rest.fdiv 2).toNat = sgW r.toNat := by
  have e : rest.fdiv 2 = rest / 2 := Int.fdiv_eq_ediv_of_nonneg _ (by decide)
  have e2 : (rest / 2).toNat = rest.toNat / 2 := by omega
  have k : (text ++ y).cps.toList ++ sgW (rest.fdiv 2).toNat = sgW r.toNat := by
    rw [e, e2, Str.cps_append, Array.toList_append, hy, List.append_assoc, ← he, sgW_hi (n := rest.toNat) (by omega)]; rfl
  refine ⟨by omega, by omega, by omega, ?_, k⟩
  have l := congrArg List.length k
  rw [List.length_append] at l
  have := sgW_len r.toNat
  show (text ++ y).cps.size ≤ 512
  rw [← Array.length_toList]; omega
abbrev J1 (r : Int) (news : List (Addr × Obj)) (n : Nat) (m : Str → Option Value) (nx : List (Addr × Obj)) : Prop :=
  nx = news ∧ ∃ rest t text t2, m (Str.ofString "rest") = some (.int rest t) ∧ m (Str.ofString "text") = some (.str text t2) ∧ 0 ≤ rest ∧ rest ≤ 512 ∧ n = rest.toNat ∧ text.length ≤ 512 ∧ text.cps.toList ++ sgW rest.toNat = sgW r.toNat
set_option maxRecDepth 100000 in
set_option maxHeartbeats 8000000 in
theorem signs_c (w : World) (r : Int) (t : Tok) (hr0 : 0 ≤ r) (hr : r ≤ 512) (news : List (Addr × Obj)) : Calls w 129 [.int r t] news 1 fun h₀ L m s Q => CbRet h₀ L m news s Q (fun t => .str (sgS r) t) := by
  unfold Calls; k_fill
  intro loose mean mg mb dp un gd cn cs a ccd cl outer A₀ base h₀ L m s Q E hB hF hK hN hT hk hdp hun hret
  refine wpAny_call ?_
  k_dflt cell_enter
  iterate 6 walk1
  rename Fr _ _ _ _ => F1
  rename News _ _ _ _ => N1
  refine While_inv2 (J1 r news) (n₀ := r.toNat) F1 N1 ?_ ?_
  · exact ⟨rfl, r, t, _, _, rfl, rfl, hr0, hr, rfl, by decide, rfl⟩
  · clear F1 N1
    rintro n m₁ nx h₁ tk₁ F1 N1 ⟨rfl, rest, t1, text, t2, hm1, hm2, h0, h1, rfl, hl, he⟩
    replace F1 := frB2 F1 hm1 hm2
    iterate 6 walk1
    · k_steps
      · obtain ⟨q1, q2, q3, q4, q5⟩ := sg_turn (y := Str.ofString "\t") ‹_› hr he (by
          have e : rest.toNat % 2 = 1 := by have := Int.fmod_eq_emod_of_nonneg rest (b := 2) (by decide); omega
          rw [if_pos e]; decide)
        exact ws_next (by assumption) (by assumption) q1 ⟨rfl, _, _, _, _, rfl, rfl, q2, by omega, rfl, q4, q5⟩
      · obtain ⟨q1, q2, q3, q4, q5⟩ := sg_turn (y := Str.ofString " ") ‹_› hr he (by
          have e : ¬ rest.toNat % 2 = 1 := by have := Int.fmod_eq_emod_of_nonneg rest (b := 2) (by decide); omega
          rw [if_neg e]; decide)
        exact ws_next (by assumption) (by assumption) q1 ⟨rfl, _, _, _, _, rfl, rfl, q2, by omega, rfl, q4, q5⟩
    · k_steps
      have e : text = sgS r := by
        rw [sgW_lo (n := rest.toNat) (by omega), List.append_nil] at he
        unfold sgS; rw [← he]
      subst e
      exact hret _ _ _ (by assumption) (by assumption)
end Mine

namespace Mine
section
variable {prog : Program} {w : World} {A : Around} {s : Shared} {h₀ : Heap} {L : Addr} {m : Str → Option Value} {env : Env} {ct elt : PySem.Expr} {x : Str} {scope : Scope} {cl : List (Str × Addr)} {S : List (Addr × Obj) → Prop} {P : Nat → Value → Prop} {Fin : List Value → List (Addr × Obj) → Prop} {news : List (Addr × Obj)}
theorem compEnd_mono {s₁ : Shared} {I : Addr} {oI : Obj} {C : Addr} {oC : Obj} {D : Addr} {oD : Obj} {R R' : Value → List (Addr × Obj) → Prop} {y : Value} {s₂ : Shared} (h : LCg.CompEnd h₀ L m s₁ I oI C oC D oD S R y s₂) (hR : ∀ n, R y n → R' y n) : LCg.CompEnd h₀ L m s₁ I oI C oC D oD S R' y s₂ := by
  obtain ⟨h', tk, n', a, b, c, d, e, f⟩ := h
  exact ⟨h', tk, n', a, b, c, d, e, hR _ f⟩
theorem comp_all (n : Nat) (J : Nat → List Value → Prop)
    (turn : ∀ i ys, i < n → J i ys → ∀ v I oI C oC D m₂ h tk (E' : Value → Shared → Prop), P i v → LCg.NsObj oC m₂ → m₂ x = some v → Fr h₀ L h m → News h₀ L h ((I, oI) :: (C, oC) :: (D, LCg.lst ys) :: news) → LCg.Off3 I C D news → ((@Ne Nat I C) ∧ (@Ne Nat I D) ∧ (@Ne Nat C D)) →
      wpAny (model prog w) A (eval elt (compEnvC scope cl C env)) (LCg.CompEnd h₀ L m { s with heap := h, toks := tk } I oI C oC D (LCg.lst ys) S (fun y news' => news' = news ∧ J (i + 1) (ys ++ [y]))) E' { s with heap := h, toks := tk })
    (fin : ∀ ys, J n ys → Fin ys news) : ∀ k i ys, i + k = n → J i ys → LCg.CompRest prog w A h₀ L m env elt x scope cl s S P Fin k i ys news
  | 0, i, ys, hi, hJ => fin ys (hi ▸ hJ)
  | k + 1, i, ys, hi, hJ => by
    refine LCg.CompRest.succ fun v I oI C oC D m₂ h tk E' a b c d e f g => ?_
    refine wpAny_mono (turn i ys (by omega) hJ v I oI C oC D m₂ h tk E' a b c d e f g) (fun y s' hy => compEnd_mono hy ?_) fun _ _ e => e
    intro n' hn
    rw [hn.1]
    have hy := hn.2
    exact comp_all n J turn fin k (i + 1) _ (by omega) hy
theorem comp_allT (n : Nat) (J : Nat → List Value → Prop)
    (turn : ∀ i ys, i < n → J i ys → ∀ v I oI C oC D m₂ h tk (E' : Value → Shared → Prop), P i v → LCg.NsObj oC m₂ → m₂ x = some v → Fr h₀ L h m → News h₀ L h ((I, oI) :: (C, oC) :: (D, LCg.lst ys) :: news) → LCg.Off3 I C D news → ((@Ne Nat I C) ∧ (@Ne Nat I D) ∧ (@Ne Nat C D)) →
      wpAny (model prog w) A (isTrue ct (compEnvC scope cl C env) (eval ct (compEnvC scope cl C env))) (fun ok s' => if ok = true then
        wpAny (model prog w) A (eval elt (compEnvC scope cl C env)) (LCg.CompEnd h₀ L m { s with heap := h, toks := tk } I oI C oC D (LCg.lst ys) S (fun y news' => news' = news ∧ J (i + 1) (ys ++ [y]))) E' s'
        else LCg.CompEnd h₀ L m { s with heap := h, toks := tk } I oI C oC D (LCg.lst ys) S (fun _ news' => news' = news ∧ J (i + 1) ys) Value.none s') E' { s with heap := h, toks := tk })
    (fin : ∀ ys, J n ys → Fin ys news) : ∀ k i ys, i + k = n → J i ys → LCt.CompRestT prog w A h₀ L m env ct elt x scope cl s S P Fin k i ys news
  | 0, i, ys, hi, hJ => fin ys (hi ▸ hJ)
  | k + 1, i, ys, hi, hJ => by
    refine LCt.CompRestT.succ fun v I oI C oC D m₂ h tk E' a b c d e f g => ?_
    refine wpAny_mono (turn i ys (by omega) hJ v I oI C oC D m₂ h tk E' a b c d e f g) (fun ok s' hy => ?_) fun _ _ e => e
    by_cases ho : ok = true
    · rw [if_pos ho] at hy ⊢
      refine wpAny_mono hy (fun y s'' hz => compEnd_mono hz ?_) fun _ _ e => e
      intro n' hn
      rw [hn.1]
      have hq := hn.2
      exact comp_allT n J turn fin k (i + 1) _ (by omega) hq
    · rw [if_neg ho] at hy ⊢
      refine compEnd_mono hy ?_
      intro n' hn
      rw [hn.1]
      have hq := hn.2
      exact comp_allT n J turn fin k (i + 1) _ (by omega) hq
end
end Mine

namespace Mine
section
variable {prog : Program} {w : World} {A : Around} {E : Value → Shared → Prop} {s : Shared} {h₀ : Heap} {L l b D : Addr} {m : Str → Option Value} {news news' : List (Addr × Obj)} {its its2 : Array Value} {n n2 : Nat}
theorem iadd_list {Q : Value → Shared → Prop} (hl : IsL s.heap l its n) (hb : IsL s.heap b its2 n2) (hz : its.size + its2.size ≤ 1000000)
    (h : Q (.ref l) { s with heap := s.heap.update l (Obj.mapSeq fun x => x ++ its2) }) : wpAny (model prog w) A (inplaceOp .Add (.ref l) (.ref b)) Q E s := by
  have hTl : s.TypeIs (.ref l) "list" := ⟨_, hl, rfl⟩
  have hTb : s.TypeIs (.ref b) "list" := ⟨_, hb, rfl⟩
  have hsl : isSeqSlot (some (.builtin "list.__iadd__")) = true := by decide +kernel
  have hfi : fillsInplaceSlot (.type "list") "add" (Operator.Add == .Add) = pure false := by
    unfold fillsInplaceSlot
    show (typeLookup (.type "list") (dunderI "add") >>= fun fi => pure (fi.isSome && !isSeqSlot fi)) = pure false
    rw [F.slot_list_iadd.lookup, pure_bind, hsl]; rfl
  have hsi : seqSlot? (.type "list") (dunderI "add") = pure (some (.builtin "list.__iadd__")) := PySem.seqSlot_of F.slot_list_iadd.lookup hsl
  unfold inplaceOp
  refine wpAny_holding ?_
  refine wpAny_bind (wpAny_typeOf hTl (wpAny_bind (wpAny_of_eq hfi ?_)))
  show wpAny _ A (if false = true then _ else _) Q E s
  rw [if_neg Bool.false_ne_true]
  refine wpAny_bind (wpAny_binaryOp1_none (nm := "add") hTl hTb noFill_list_add ?_)
  refine wpAny_bind (wpAny_of_eq hsi ?_)
  refine wpAny_bind (wpAny_rule ?_)
  refine call_meets F.slot_list_iadd hTl F.entry_list_iadd (F.args_list_iadd_2 _ _) (AutoSeq1.list___iadd___list_list_0 l its n b its2 n2 ?_ (by rw [sizeLine_eq]; omega) (by rw [sizeLine_eq]; omega)) ⟨hl, hb, h⟩
  rw [Bool.and_eq_true]
  rintro ⟨_, hq⟩
  unfold Builtin.List.listTooLong at hq
  have := of_decide_eq_true hq
  rw [sizeLine_eq] at this
  omega
theorem iadd_K {vs ws : List Value} {nw : Nat → List (Addr × Obj)} {Q : Value → Shared → Prop} (F : Fr h₀ L s.heap m) (N : News h₀ L s.heap news) (hb : (b, listOf ws.toArray n2) ∈ news) (U : ∀ e', Upd D (listOf vs.toArray n) (listOf (vs ++ ws).toArray e') news (nw e')) (hz : vs.length + ws.length ≤ 1000000)
    (h : ∀ h' e', Fr h₀ L h' m → News h₀ L h' (nw e') → Q (.ref D) { s with heap := h' }) : wpAny (model prog w) A (inplaceOp .Add (.ref D) (.ref b)) Q E s := by
  obtain ⟨e', he⟩ : ∃ e', Obj.mapSeq (fun x => x ++ ws.toArray) (listOf vs.toArray n) = listOf (vs ++ ws).toArray e' := by
    rw [← List.append_toArray]; exact ⟨_, rfl⟩
  obtain ⟨pre, post, hp, hq, a, c⟩ := (U e').split
  rw [hp] at N hb
  have z := N (D, listOf vs.toArray n) (List.mem_append.mpr (.inr (.head _)))
  obtain ⟨F', N'⟩ := news_upd F N a c (f := Obj.mapSeq fun x => x ++ ws.toArray) he rfl
  exact iadd_list z.1 (N _ hb).1 (by rw [List.size_toArray, List.size_toArray]; exact hz) (h _ e' F' (by rw [hq]; exact N'))
end
theorem repl_flat {α : Type} (x : α) (k : Nat) : List.replicate k x = (List.replicate k [x]).flatten := by
  induction k with
  | zero => rfl
  | succ k ih => rw [List.replicate_succ, List.replicate_succ, List.flatten_cons, ih]; rfl
def dueSum (cc : List (Int × Int)) (col : Int) (z : Nat) : Int := ((List.range z).map fun (i : Nat) => kdfLook cc (col - (1 + (i : Int))) 0).sum
def dueCC (z : Nat) (cc : List (Int × Int)) (col : Int) : List (Int × Int) :=
  if (col + 1).fmod (z : Int) = 0 then kdfPut (kdfPut cc (col + 1) (kdfLook cc (col + 1 - 1) 0)) (col + 1) (kdfLook (kdfPut cc (col + 1) (kdfLook cc (col + 1 - 1) 0)) (col + 1) 0 + dueSum (kdfPut cc (col + 1) (kdfLook cc (col + 1 - 1) 0)) (col + 1) z)
  else kdfPut cc (col + 1) (kdfLook cc (col + 1 - 1) 0)
def dueGo (k z : Nat) : Nat → List Int → List (Int × Int) → Int → List Int
  | 0, due, _, _ => due
  | f + 1, due, cc, col => if due.length < k then dueGo k z f (due ++ List.replicate (kdfLook cc col 0).toNat col) (dueCC z cc col) (col + 1) else due
def dueL (k z : Nat) (c : Int) : List Int := (dueGo k z 6 [] [(c, 1)] c).take k
theorem look_put (c : List (Int × Int)) (k v k' d : Int) : kdfLook (kdfPut c k v) k' d = if k' = k then v else kdfLook c k' d := kpr_look_put c k v k' d
theorem sum_bd (B : Int) (hB : 0 ≤ B) (g : Nat → Int) (hg : ∀ j, 0 ≤ g j ∧ g j ≤ B) : ∀ n : Nat, 0 ≤ ((List.range n).map g).sum ∧ ((List.range n).map g).sum ≤ n * B
  | 0 => by simp
  | n + 1 => by
    have ih := sum_bd B hB g hg n
    have h := hg n
    rw [List.range_succ, List.map_append, List.sum_append]
    simp only [List.map_cons, List.map_nil, List.sum_cons, List.sum_nil, Int.add_zero]
    have e : ((n + 1 : Nat) : Int) * B = n * B + B := by rw [Int.natCast_add, Int.add_mul]; simp
    omega
theorem dueCC_ok (z : Nat) (hz6 : z ≤ 6) (cc : List (Int × Int)) (col : Int) (i : Nat) (hcl : cc.length ≤ 1 + i) (hl1 : 1 ≤ kdfLook cc col 0) (hlb : ∀ x, 0 ≤ kdfLook cc x 0 ∧ kdfLook cc x 0 ≤ (7 ^ i : Nat)) :
    (dueCC z cc col).length ≤ 1 + (i + 1) ∧ kdfHas (dueCC z cc col) (col + 1) = true ∧ 1 ≤ kdfLook (dueCC z cc col) (col + 1) 0 ∧ ∀ x, 0 ≤ kdfLook (dueCC z cc col) x 0 ∧ kdfLook (dueCC z cc col) x 0 ≤ (7 ^ (i + 1) : Nat) := by
  have h7 : (7 ^ (i + 1) : Nat) = 7 * 7 ^ i := by rw [Nat.pow_succ]; omega
  have e0 : col + 1 - 1 = col := by omega
  have hlb1 : ∀ x, 0 ≤ kdfLook (kdfPut cc (col + 1) (kdfLook cc col 0)) x 0 ∧ kdfLook (kdfPut cc (col + 1) (kdfLook cc col 0)) x 0 ≤ (7 ^ i : Nat) := by
    intro x
    rw [look_put]
    split
    · exact hlb col
    · exact hlb x
  have hlen : (kdfPut cc (col + 1) (kdfLook cc col 0)).length ≤ 1 + (i + 1) := Nat.le_trans (kdfPut_len _ _ _) (by omega)
  unfold dueCC
  rw [e0]
  generalize hP : (7 ^ i : Nat) = P at *
  by_cases hc : (col + 1).fmod (z : Int) = 0
  · rw [if_pos hc]
    have hs := sum_bd (P : Int) (by omega) (fun (j : Nat) => kdfLook (kdfPut cc (col + 1) (kdfLook cc col 0)) (col + 1 - (1 + (j : Int))) 0) (fun j => hlb1 _) z
    have hs' : 0 ≤ dueSum (kdfPut cc (col + 1) (kdfLook cc col 0)) (col + 1) z ∧ dueSum (kdfPut cc (col + 1) (kdfLook cc col 0)) (col + 1) z ≤ 6 * (P : Int) := by
      refine ⟨hs.1, Int.le_trans hs.2 (Int.mul_le_mul_of_nonneg_right (by omega) (by omega))⟩
    have hv : kdfLook (kdfPut cc (col + 1) (kdfLook cc col 0)) (col + 1) 0 = kdfLook cc col 0 := by rw [look_put, if_pos rfl]
    have hc0 := hlb col
    refine ⟨?_, kdfHas_put _ _ _, ?_, ?_⟩
    · rw [kdfPut_len_has (kdfHas_put _ _ _)]; exact hlen
    · rw [look_put, if_pos rfl, hv]; omega
    · intro x
      rw [look_put]
      have hx := hlb1 x
      split
      · rw [hv]; omega
      · omega
  · rw [if_neg hc]
    refine ⟨hlen, kdfHas_put _ _ _, ?_, fun x => ?_⟩
    · rw [look_put, if_pos rfl]; exact hl1
    · have := hlb1 x; omega
section
variable {prog : Program} {w : World} {A : Around} {E : Value → Shared → Prop} {s : Shared} {d : Addr} {c : List (Int × Int)} {k : Int} {tk : Tok}
theorem kdf_getItem {Q : Value → Shared → Prop} (T : IntTab prog w s.heap d (kdfD c)) (hk : kdfHas c k = true) (h : ∀ t, Q (.int (kdfLook c k 0) t) { s with toks := s.toks + 1 }) : wpAny (model prog w) A (getItem (.ref d) (.int k tk)) Q E s :=
  getItem_tab PyProof.V.same_int (intKind_is _ _ _ _) T (kdfD_item hk) fun v hv => by
    obtain ⟨t, ht⟩ := PyProof.V.Flat.int_inv hv
    rw [ht]
    exact h t
end
theorem due_turn (k z i f n : Nat) (dl : List Int) (cc : List (Int × Int)) (col : Int) (R : List Int) (hk5 : k ≤ 5) (hz6 : z ≤ 6) (hn : n = 6 - i) (hfi : f + i = 6) (hil : i ≤ dl.length) (hdl : dl.length ≤ 20000 * i) (hcl : cc.length ≤ 1 + i)
    (hl1 : 1 ≤ kdfLook cc col 0) (hlb : ∀ x, 0 ≤ kdfLook cc x 0 ∧ kdfLook cc x 0 ≤ (7 ^ i : Nat)) (hR : dueGo k z f dl cc col = R) (hlt : dl.length < k) :
    6 - (i + 1) < n ∧ ∃ f', f' + (i + 1) = 6 ∧ i + 1 ≤ (dl ++ (List.replicate (kdfLook cc col 0).toNat [col]).flatten).length ∧ (dl ++ (List.replicate (kdfLook cc col 0).toNat [col]).flatten).length ≤ 20000 * (i + 1) ∧
      (dueCC z cc col).length ≤ 1 + (i + 1) ∧ kdfHas (dueCC z cc col) (col + 1) = true ∧ 1 ≤ kdfLook (dueCC z cc col) (col + 1) 0 ∧ (∀ x, 0 ≤ kdfLook (dueCC z cc col) x 0 ∧ kdfLook (dueCC z cc col) x 0 ≤ (7 ^ (i + 1) : Nat)) ∧
      dueGo k z f' (dl ++ (List.replicate (kdfLook cc col 0).toNat [col]).flatten) (dueCC z cc col) (col + 1) = R := by
  obtain ⟨a1, a2, a3, a4⟩ := dueCC_ok z hz6 cc col i hcl hl1 hlb
  cases f with
  | zero => omega
  | succ f =>
    rw [← repl_flat]
    have h7 : 7 ^ i ≤ 7 ^ 4 := Nat.pow_le_pow_right (by decide) (by omega)
    have h74 : (7 ^ 4 : Nat) = 2401 := by decide
    have hc := (hlb col).2
    refine ⟨by omega, f, by omega, ?_, ?_, a1, a2, a3, a4, ?_⟩
    · rw [List.length_append, List.length_replicate]; omega
    · rw [List.length_append, List.length_replicate]; omega
    · rw [← hR]
      show _ = if dl.length < k then _ else _
      rw [if_pos hlt]
theorem due_exit (k z f : Nat) (dl : List Int) (cc : List (Int × Int)) (col : Int) (R : List Int) (hR : dueGo k z f dl cc col = R) (h : ¬ dl.length < k) : R = dl := by
  subst hR
  cases f with
  | zero => rfl
  | succ f =>
    show (if dl.length < k then _ else _) = _
    rw [if_neg h]
theorem nKeep4 {h₀ h : Heap} {L : Addr} {x a b c d : Addr × Obj} {tl : List (Addr × Obj)} (N : News h₀ L h (x :: a :: b :: c :: d :: tl)) : News h₀ L h (x :: tl) := fun p hp => N p (by
  rcases List.mem_cons.mp hp with rfl | hp
  · exact .head _
  · exact .tail _ (.tail _ (.tail _ (.tail _ (.tail _ hp)))))
abbrev JDu (w : World) (L : Addr) (k z : Nat) (t1 t3 : Tok) (news : List (Addr × Obj)) (R : List Int) (n : Nat) (m : Str → Option Value) (nx : List (Addr × Obj)) : Prop :=
  ∃ (i : Nat) (dl : List Int) (cc : List (Int × Int)) (col : Int) (tc : Tok) (En DL : Addr) (o oe oc : Obj) (kvs : List (Int × Value)) (dv : List Value) (e f : Nat),
    nx = (En, o) :: (DL, listOf dv.toArray e) :: (L + 1 + 1, oe) :: (L + 1, oc) :: news ∧ oe.data = .cell (some (.ref En)) ∧ oc.data = .cell (some (.int col tc)) ∧ o.IsDictOf (intKind PySem.Challenge.rw_qj0004_01.row.prog w) kvs ∧ PyProof.V.FlatPairs PyData.int kvs (kdfD cc) ∧ (En == sysModules) = false ∧ IntsAre dv dl ∧
    m (Str.ofString "count") = some (.int (k : Int) t1) ∧ m (Str.ofString "size") = some (.int (z : Int) t3) ∧ m (Str.ofString "due") = some (.ref DL) ∧
    L + 1 + 1 < DL ∧ DL < En ∧ (∀ p ∈ news, p.1 < L) ∧
    n = 6 - i ∧ f + i = 6 ∧ i ≤ dl.length ∧ dl.length ≤ 20000 * i ∧ cc.length ≤ 1 + i ∧ kdfHas cc col = true ∧ 1 ≤ kdfLook cc col 0 ∧ (∀ x, 0 ≤ kdfLook cc x 0 ∧ kdfLook cc x 0 ≤ (7 ^ i : Nat)) ∧ dueGo k z f dl cc col = R
abbrev RetD (R : List Int) (news : List (Addr × Obj)) (h₀ : Heap) (L : Addr) (m : Str → Option Value) (s : Shared) (Q : Value → Shared → Prop) : Prop :=
  ∀ h' tk D ws, Fr h₀ L h' m → News h₀ L h' ((D, listOf ws.toArray 0) :: news) → IntsAre ws R → AllLt D news → Q (.ref D) { s with heap := h', toks := tk }
set_option maxRecDepth 100000 in
set_option maxHeartbeats 8000000 in
theorem due_c (w : World) (k z : Nat) (ki c zi : Int) (hki : ki = (k : Int)) (hzi : zi = (z : Int)) (hk0 : 1 ≤ k) (hk5 : k ≤ 5) (hz : 1 ≤ z) (hz6 : z ≤ 6) (t1 t2 t3 : Tok) (news : List (Addr × Obj)) :
    Calls w 134 [.int ki t1, .int c t2, .int zi t3] news 1 (RetD (dueL k z c) news) := by
  subst hki; subst hzi
  unfold Calls; k_fill
  intro loose mean mg mb dp un gd cn cs a ccd cl outer A₀ base h₀ L m s Q E hB hF hK hN hT hk hdp hun hret
  refine wpAny_call ?_
  k_dflt (refine' code_defC ?k1 ?k2 ?k3 ?k4 ?k5 ?kA ?kF ?kK ?k6 ?k7 ?k8 ?k9 ?kB ?kD ?_ ?c2 ?c3 ?c4; (case kA => exact rfl); (case kF => exact rfl); (case kK => assumption); (case k1 => k_asm); (case k2 => k_asm); (case k3 => k_asm); (case k4 => k_asm); (case k5 => k_asm); (case k6 => k_is); (case k7 => k_is); (case k8 => ktr_room); (case k9 => exact BindsTo.of_eq rfl); (case kB => exact rfl); (case kD => decide +kernel); (case c2 => exact rfl); (case c3 => exact rfl); (case c4 => exact rfl); k_whole; intro g' L' h' tk' cells' FG' F' N' Y' B' X' T' l1; k_cells Y'; (try simp only [List.cons_append, List.nil_append] at N'); (try dsimp only); (try k_lift B'); (try k_fold))
  w_top off
  rename_i oe oc d1 d2
  replace d2 := d2.trans (show _ = Data.cell (some (Value.int c t2)) from rfl)
  replace d1 := d1.trans (show _ = Data.cell none from rfl)
  (repeat' ((fail_if_success (with_reducible show wpAny _ _ (call (Value.ref _) _) _ _ _)); (fail_if_success (with_reducible show wpAny _ _ (exec (Stmt.While _ _ _ _) _) _ _ _)); (fail_if_success (with_reducible show wpAny _ _ (exec (Stmt.For _ _ _ _ _) _) _ _ _)); (fail_if_success (with_reducible show wpAny _ _ (eval (Expr.Dict _ _ _) _) _ _ _)); (fail_if_success (with_reducible show wpAny _ _ (loadName _ (Str.ofString "column")) _ _ _)); (fail_if_success (with_reducible show wpAny _ _ (inplaceOp Operator.Add (Value.ref _) _) _ _ _)); (fail_if_success (with_reducible show wpAny _ _ (eval (Expr.ListComp _ _ _ _) _) _ _ _)); (fail_if_success (with_reducible show wpAny _ _ (getItem (Value.ref _) _) _ _ _)); (fail_if_success (with_reducible show wpAny _ _ (call (Value.type "range") _) _ _ _)); (fail_if_success (with_reducible show LCg.CompSrc _ _ _ _ _ _ _ _ _ _ _ _ _ _)); (fail_if_success (with_reducible show LCg.CompEnd _ _ _ _ _ _ _ _ _ _ _ _ _ _)); (fail_if_success (with_reducible show wpAny _ _ (call (Value.builtin "sum") _) _ _ _)); first | (k_unfold; (try dsimp only)) | walk1 | (dsimp only; walk1)))
  rename Fr _ _ _ _ => F1
  rename News _ _ _ _ => N1
  rename _ ∧ _ ∧ AllLt _ _ => lD
  rename_i DL _ _
  refine kdn_eval (knd := intKind PySem.Challenge.rw_qj0004_01.row.prog w) F1 N1 T'.nolimit rfl rfl (List.cons_ne_nil _ _) (by decide) ?_
  clear F1 N1
  intro En h2 o F2 N2 lE lo hd
  replace lE := allLt_of lE
  simp only [AllLt] at lE
  have hno : OwnOff news [En, DL, L' + 1 + 1, L' + 1] := by
    intro p hp b hb
    have h1 := ltN (l1 p hp)
    have h2 := ltN lD.2.1
    have h3 := ltN lE.1
    simp only [List.mem_cons, List.not_mem_nil, or_false] at hb
    rcases hb with rfl | rfl | rfl | rfl <;> exact Nat.ne_of_lt (by omega)
  (repeat' ((fail_if_success (with_reducible show wpAny _ _ (call (Value.ref _) _) _ _ _)); (fail_if_success (with_reducible show wpAny _ _ (exec (Stmt.While _ _ _ _) _) _ _ _)); (fail_if_success (with_reducible show wpAny _ _ (exec (Stmt.For _ _ _ _ _) _) _ _ _)); (fail_if_success (with_reducible show wpAny _ _ (eval (Expr.Dict _ _ _) _) _ _ _)); (fail_if_success (with_reducible show wpAny _ _ (loadName _ (Str.ofString "column")) _ _ _)); (fail_if_success (with_reducible show wpAny _ _ (inplaceOp Operator.Add (Value.ref _) _) _ _ _)); (fail_if_success (with_reducible show wpAny _ _ (eval (Expr.ListComp _ _ _ _) _) _ _ _)); (fail_if_success (with_reducible show wpAny _ _ (getItem (Value.ref _) _) _ _ _)); (fail_if_success (with_reducible show wpAny _ _ (call (Value.type "range") _) _ _ _)); (fail_if_success (with_reducible show LCg.CompSrc _ _ _ _ _ _ _ _ _ _ _ _ _ _)); (fail_if_success (with_reducible show LCg.CompEnd _ _ _ _ _ _ _ _ _ _ _ _ _ _)); (fail_if_success (with_reducible show wpAny _ _ (call (Value.builtin "sum") _) _ _ _)); first | (k_unfold; (try dsimp only)) | walk1 | (dsimp only; walk1)))
  rename Fr _ _ _ _ => F1
  rename News _ _ _ _ => N1
  rename Obj.IsDictOf _ _ _ => hd1
  rename PyProof.V.FlatPairs _ _ _ => hf1
  rename Obj.data _ = _ => d3
  have hlk : ∀ x, 0 ≤ kdfLook [(c, 1)] x 0 ∧ kdfLook [(c, 1)] x 0 ≤ 1 := by
    intro x
    unfold kdfLook
    by_cases hcx : c = x
    · simp [hcx]
    · simp [hcx]
  have hlc : kdfLook [(c, 1)] c 0 = 1 := by unfold kdfLook; simp
  refine While_inv2 (JDu w L' k z t1 t3 news (dueGo k z 6 [] [(c, 1)] c)) (n₀ := 6) F1 N1 ?_ ?_
  · exact ⟨0, [], [(c, 1)], c, t2, En, DL, _, _, oc, _, [], 0, 6, rfl, d3, d2, hd1, hf1, lo, .nil, rfl, rfl, rfl, lD.1, lE.1, l1, rfl, rfl, Nat.zero_le _, Nat.zero_le _, Nat.le_refl _, by unfold kdfHas; simp, by rw [hlc]; exact Int.le_refl _, hlk, rfl⟩
  · clear F1 N1 hd1 hf1 d3 hd
    rintro n m₁ nx h₁ tk₁ F1 N1 ⟨i, dl, cc, col, tc, En, DL, o, oe, oc, kvs, dv, e, f, rfl, d1, d2, hd, hf, lo, hdv, hm1, hm2, hm3, lD1, lE1, lN, hn, hfi, hil, hdl, hcl, hhas, hl1, hlb, hR⟩
    replace F1 := frB3 F1 hm1 hm2 hm3
    have hno : OwnOff news [En, DL, L' + 1 + 1, L' + 1] := by
      intro p hp b hb
      have h1 := ltN (lN p hp)
      have h2 := ltN lD1
      have h3 := ltN lE1
      simp only [List.mem_cons, List.not_mem_nil, or_false] at hb
      rcases hb with rfl | rfl | rfl | rfl <;> exact Nat.ne_of_lt (by omega)
    replace lD1 := ltN lD1
    replace lE1 := ltN lE1
    have h7 : 7 ^ i ≤ 7 ^ 6 := Nat.pow_le_pow_right (by decide) (by omega)
    have hv6 : kdfLook cc col 0 ≤ 117649 := Int.le_trans (hlb col).2 (by have : (7 ^ 6 : Nat) = 117649 := by decide
                                                                         omega)
    have hhas' : kdfHas cc (col + 1 - 1) = true := by rw [Int.add_sub_cancel]; exact hhas
    (repeat' ((fail_if_success (with_reducible show wpAny _ _ (call (Value.ref _) _) _ _ _)); (fail_if_success (with_reducible show wpAny _ _ (exec (Stmt.While _ _ _ _) _) _ _ _)); (fail_if_success (with_reducible show wpAny _ _ (exec (Stmt.For _ _ _ _ _) _) _ _ _)); (fail_if_success (with_reducible show wpAny _ _ (eval (Expr.Dict _ _ _) _) _ _ _)); (fail_if_success (with_reducible show wpAny _ _ (loadName _ (Str.ofString "column")) _ _ _)); (fail_if_success (with_reducible show wpAny _ _ (inplaceOp Operator.Add (Value.ref _) _) _ _ _)); (fail_if_success (with_reducible show wpAny _ _ (eval (Expr.ListComp _ _ _ _) _) _ _ _)); (fail_if_success (with_reducible show wpAny _ _ (getItem (Value.ref _) _) _ _ _)); (fail_if_success (with_reducible show wpAny _ _ (call (Value.type "range") _) _ _ _)); (fail_if_success (with_reducible show LCg.CompSrc _ _ _ _ _ _ _ _ _ _ _ _ _ _)); (fail_if_success (with_reducible show LCg.CompEnd _ _ _ _ _ _ _ _ _ _ _ _ _ _)); (fail_if_success (with_reducible show wpAny _ _ (call (Value.builtin "sum") _) _ _ _)); first | (k_unfold; (try dsimp only)) | walk1 | (dsimp only; walk1)))
    · rename Fr _ _ _ _ => F2
      rename News _ _ _ _ => N2
      rename IntsAre _ _ => hI2
      rename _ ∧ _ ∧ _ ∧ _ ∧ _ ∧ AllLt _ _ => lX
      refine' iadd_K (vs := dv) (ws := (List.replicate (kdfLook cc col 0).toNat [Value.int col tc]).flatten) F2 N2 (.head _) ?U ?_ ?_
      case U => intro e'; k_upd
      · rw [hdv.length, hI2.length]
        have e9 : ((List.replicate (kdfLook cc col 0).toNat [col]).flatten).length = (kdfLook cc col 0).toNat := by
          rw [← repl_flat]; exact List.length_replicate
        rw [e9]; omega
      clear F2 N2
      intro h3 e3 F2 N2
      (repeat' ((fail_if_success (with_reducible show wpAny _ _ (call (Value.ref _) _) _ _ _)); (fail_if_success (with_reducible show wpAny _ _ (exec (Stmt.While _ _ _ _) _) _ _ _)); (fail_if_success (with_reducible show wpAny _ _ (exec (Stmt.For _ _ _ _ _) _) _ _ _)); (fail_if_success (with_reducible show wpAny _ _ (eval (Expr.Dict _ _ _) _) _ _ _)); (fail_if_success (with_reducible show wpAny _ _ (loadName _ (Str.ofString "column")) _ _ _)); (fail_if_success (with_reducible show wpAny _ _ (inplaceOp Operator.Add (Value.ref _) _) _ _ _)); (fail_if_success (with_reducible show wpAny _ _ (eval (Expr.ListComp _ _ _ _) _) _ _ _)); (fail_if_success (with_reducible show wpAny _ _ (getItem (Value.ref _) _) _ _ _)); (fail_if_success (with_reducible show wpAny _ _ (call (Value.type "range") _) _ _ _)); (fail_if_success (with_reducible show LCg.CompSrc _ _ _ _ _ _ _ _ _ _ _ _ _ _)); (fail_if_success (with_reducible show LCg.CompEnd _ _ _ _ _ _ _ _ _ _ _ _ _ _)); (fail_if_success (with_reducible show wpAny _ _ (call (Value.builtin "sum") _) _ _ _)); first | (k_unfold; (try dsimp only)) | walk1 | (dsimp only; walk1)))
      rename News _ _ _ _ => N2
      refine wpAny_loadName_cell rfl rfl rfl ⟨_, N2.get (.tail _ (.tail _ (.tail _ (.tail _ (.tail _ (.head _)))))), d2⟩ ?_
      (repeat' ((fail_if_success (with_reducible show wpAny _ _ (call (Value.ref _) _) _ _ _)); (fail_if_success (with_reducible show wpAny _ _ (exec (Stmt.While _ _ _ _) _) _ _ _)); (fail_if_success (with_reducible show wpAny _ _ (exec (Stmt.For _ _ _ _ _) _) _ _ _)); (fail_if_success (with_reducible show wpAny _ _ (eval (Expr.Dict _ _ _) _) _ _ _)); (fail_if_success (with_reducible show wpAny _ _ (loadName _ (Str.ofString "column")) _ _ _)); (fail_if_success (with_reducible show wpAny _ _ (inplaceOp Operator.Add (Value.ref _) _) _ _ _)); (fail_if_success (with_reducible show wpAny _ _ (eval (Expr.ListComp _ _ _ _) _) _ _ _)); (fail_if_success (with_reducible show wpAny _ _ (getItem (Value.ref _) _) _ _ _)); (fail_if_success (with_reducible show wpAny _ _ (call (Value.type "range") _) _ _ _)); (fail_if_success (with_reducible show LCg.CompSrc _ _ _ _ _ _ _ _ _ _ _ _ _ _)); (fail_if_success (with_reducible show LCg.CompEnd _ _ _ _ _ _ _ _ _ _ _ _ _ _)); (fail_if_success (with_reducible show wpAny _ _ (call (Value.builtin "sum") _) _ _ _)); first | (k_unfold; (try dsimp only)) | walk1 | (dsimp only; walk1)))
      · rename Fr _ _ _ _ => F4
        rename News _ _ _ _ => N4
        rename Obj.IsDictOf _ _ _ => hd4
        rename PyProof.V.FlatPairs _ _ _ => hf4
        rename Int.fmod _ _ = _ => hmod
        refine kdf_getItem (c := kdfPut cc (col + 1) (kdfLook cc (col + 1 - 1) 0)) (TabAt.ofNews N4 (by k_mem) lo hd4 hf4) (kdfHas_put _ _ _) ?_
        intro t4
        (repeat' ((fail_if_success (with_reducible show wpAny _ _ (call (Value.ref _) _) _ _ _)); (fail_if_success (with_reducible show wpAny _ _ (exec (Stmt.While _ _ _ _) _) _ _ _)); (fail_if_success (with_reducible show wpAny _ _ (exec (Stmt.For _ _ _ _ _) _) _ _ _)); (fail_if_success (with_reducible show wpAny _ _ (eval (Expr.Dict _ _ _) _) _ _ _)); (fail_if_success (with_reducible show wpAny _ _ (loadName _ (Str.ofString "column")) _ _ _)); (fail_if_success (with_reducible show wpAny _ _ (inplaceOp Operator.Add (Value.ref _) _) _ _ _)); (fail_if_success (with_reducible show wpAny _ _ (eval (Expr.ListComp _ _ _ _) _) _ _ _)); (fail_if_success (with_reducible show wpAny _ _ (getItem (Value.ref _) _) _ _ _)); (fail_if_success (with_reducible show wpAny _ _ (call (Value.type "range") _) _ _ _)); (fail_if_success (with_reducible show LCg.CompSrc _ _ _ _ _ _ _ _ _ _ _ _ _ _)); (fail_if_success (with_reducible show LCg.CompEnd _ _ _ _ _ _ _ _ _ _ _ _ _ _)); (fail_if_success (with_reducible show wpAny _ _ (call (Value.builtin "sum") _) _ _ _)); first | (k_unfold; (try dsimp only)) | walk1 | (dsimp only; walk1)))
        k_dflt (refine LCg.ListComp_U (F₀ := by k_asm) (by with_unfolding_all rfl) (by decide) (by rfl) (by decide) (by rfl) ?_)
        (repeat' ((fail_if_success (with_reducible show wpAny _ _ (call (Value.ref _) _) _ _ _)); (fail_if_success (with_reducible show wpAny _ _ (exec (Stmt.While _ _ _ _) _) _ _ _)); (fail_if_success (with_reducible show wpAny _ _ (exec (Stmt.For _ _ _ _ _) _) _ _ _)); (fail_if_success (with_reducible show wpAny _ _ (eval (Expr.Dict _ _ _) _) _ _ _)); (fail_if_success (with_reducible show wpAny _ _ (loadName _ (Str.ofString "column")) _ _ _)); (fail_if_success (with_reducible show wpAny _ _ (inplaceOp Operator.Add (Value.ref _) _) _ _ _)); (fail_if_success (with_reducible show wpAny _ _ (eval (Expr.ListComp _ _ _ _) _) _ _ _)); (fail_if_success (with_reducible show wpAny _ _ (getItem (Value.ref _) _) _ _ _)); (fail_if_success (with_reducible show wpAny _ _ (call (Value.type "range") _) _ _ _)); (fail_if_success (with_reducible show LCg.CompSrc _ _ _ _ _ _ _ _ _ _ _ _ _ _)); (fail_if_success (with_reducible show LCg.CompEnd _ _ _ _ _ _ _ _ _ _ _ _ _ _)); (fail_if_success (with_reducible show wpAny _ _ (call (Value.builtin "sum") _) _ _ _)); first | (k_unfold; (try dsimp only)) | walk1 | (dsimp only; walk1)))
        rename Fr _ _ _ _ => F5
        rename News _ _ _ _ => N5
        refine range2_rows F5 N5 ?_
        intro h5 tk5 u1 u2 u3 R5 F6 N6 _
        (try dsimp only)
        refine LCg.CompSrc.range (n := z) rfl F6 N6 R5 (small_one (by omega) (by omega) (by omega) (by omega)) (by rw [rangeSize_one, if_pos (by omega)]; omega) (by rw [sizeLine_eq]; omega) ?_
        intro g5
        refine comp_all z (fun j ys => IntsAre ys ((List.range j).map fun (b : Nat) => kdfLook (kdfPut cc (col + 1) (kdfLook cc (col + 1 - 1) 0)) (col + 1 - (1 + (b : Int))) 0)) ?_ ?_ z 0 [] (by omega) .nil
        · rintro j ys hj hJ _ I oI C oC D m₂ h tk E' ⟨t9, rfl⟩ hC hx F7 N7 off ne
          (repeat' ((fail_if_success (with_reducible show wpAny _ _ (call (Value.ref _) _) _ _ _)); (fail_if_success (with_reducible show wpAny _ _ (exec (Stmt.While _ _ _ _) _) _ _ _)); (fail_if_success (with_reducible show wpAny _ _ (exec (Stmt.For _ _ _ _ _) _) _ _ _)); (fail_if_success (with_reducible show wpAny _ _ (eval (Expr.Dict _ _ _) _) _ _ _)); (fail_if_success (with_reducible show wpAny _ _ (loadName _ (Str.ofString "column")) _ _ _)); (fail_if_success (with_reducible show wpAny _ _ (inplaceOp Operator.Add (Value.ref _) _) _ _ _)); (fail_if_success (with_reducible show wpAny _ _ (eval (Expr.ListComp _ _ _ _) _) _ _ _)); (fail_if_success (with_reducible show wpAny _ _ (getItem (Value.ref _) _) _ _ _)); (fail_if_success (with_reducible show wpAny _ _ (call (Value.type "range") _) _ _ _)); (fail_if_success (with_reducible show LCg.CompSrc _ _ _ _ _ _ _ _ _ _ _ _ _ _)); (fail_if_success (with_reducible show LCg.CompEnd _ _ _ _ _ _ _ _ _ _ _ _ _ _)); (fail_if_success (with_reducible show wpAny _ _ (call (Value.builtin "sum") _) _ _ _)); first | (k_unfold; (try dsimp only)) | walk1 | (dsimp only; walk1)))
          refine LCg.CompEnd.intro F7 N7 _ (fun p hp => hp) off trivial ⟨rfl, ?_⟩
          rw [List.range_succ, List.map_append]
          exact hJ.append (.cons _ _ .nil)
        · intro ys hJ
          unfold LCg.FinE
          intro D6 h6 tk6 F7 N7 o6
          (repeat' ((fail_if_success (with_reducible show wpAny _ _ (call (Value.ref _) _) _ _ _)); (fail_if_success (with_reducible show wpAny _ _ (exec (Stmt.While _ _ _ _) _) _ _ _)); (fail_if_success (with_reducible show wpAny _ _ (exec (Stmt.For _ _ _ _ _) _) _ _ _)); (fail_if_success (with_reducible show wpAny _ _ (eval (Expr.Dict _ _ _) _) _ _ _)); (fail_if_success (with_reducible show wpAny _ _ (loadName _ (Str.ofString "column")) _ _ _)); (fail_if_success (with_reducible show wpAny _ _ (inplaceOp Operator.Add (Value.ref _) _) _ _ _)); (fail_if_success (with_reducible show wpAny _ _ (eval (Expr.ListComp _ _ _ _) _) _ _ _)); (fail_if_success (with_reducible show wpAny _ _ (getItem (Value.ref _) _) _ _ _)); (fail_if_success (with_reducible show wpAny _ _ (call (Value.type "range") _) _ _ _)); (fail_if_success (with_reducible show LCg.CompSrc _ _ _ _ _ _ _ _ _ _ _ _ _ _)); (fail_if_success (with_reducible show LCg.CompEnd _ _ _ _ _ _ _ _ _ _ _ _ _ _)); (fail_if_success (with_reducible show wpAny _ _ (call (Value.builtin "sum") _) _ _ _)); first | (k_unfold; (try dsimp only)) | walk1 | (dsimp only; walk1)))
          refine sumK rfl F7 (nTl N7) ⟨_, N7.get (.head _), rfl, _, rfl⟩ hJ ?_
          clear F7 N7
          intro h7 tk7 t7 F7 N7
          (repeat' ((fail_if_success (with_reducible show wpAny _ _ (call (Value.ref _) _) _ _ _)); (fail_if_success (with_reducible show wpAny _ _ (exec (Stmt.While _ _ _ _) _) _ _ _)); (fail_if_success (with_reducible show wpAny _ _ (exec (Stmt.For _ _ _ _ _) _) _ _ _)); (fail_if_success (with_reducible show wpAny _ _ (eval (Expr.Dict _ _ _) _) _ _ _)); (fail_if_success (with_reducible show wpAny _ _ (loadName _ (Str.ofString "column")) _ _ _)); (fail_if_success (with_reducible show wpAny _ _ (inplaceOp Operator.Add (Value.ref _) _) _ _ _)); (fail_if_success (with_reducible show wpAny _ _ (eval (Expr.ListComp _ _ _ _) _) _ _ _)); (fail_if_success (with_reducible show wpAny _ _ (getItem (Value.ref _) _) _ _ _)); (fail_if_success (with_reducible show wpAny _ _ (call (Value.type "range") _) _ _ _)); (fail_if_success (with_reducible show LCg.CompSrc _ _ _ _ _ _ _ _ _ _ _ _ _ _)); (fail_if_success (with_reducible show LCg.CompEnd _ _ _ _ _ _ _ _ _ _ _ _ _ _)); (fail_if_success (with_reducible show wpAny _ _ (call (Value.builtin "sum") _) _ _ _)); first | (k_unfold; (try dsimp only)) | walk1 | (dsimp only; walk1)))
          rename Fr _ _ _ _ => F8
          rename News _ _ _ _ => N8
          rename Obj.IsDictOf _ _ _ => hd8
          rename PyProof.V.FlatPairs _ _ _ => hf8
          rename Obj.data _ = _ => d8
          have e8 : dueCC z cc col = kdfPut (kdfPut cc (col + 1) (kdfLook cc (col + 1 - 1) 0)) (col + 1) (kdfLook (kdfPut cc (col + 1) (kdfLook cc (col + 1 - 1) 0)) (col + 1) 0 + dueSum (kdfPut cc (col + 1) (kdfLook cc (col + 1 - 1) 0)) (col + 1) z) := by
            unfold dueCC; rw [if_pos hmod]
          obtain ⟨c0, f', c1, c2, c3, c4, c5, c6, c7, c8⟩ := due_turn k z i f n dl cc col _ hk5 hz6 hn hfi hil hdl hcl hl1 hlb hR (by omega)
          exact ws_next F8 (nTl (nTl N8)) c0 ⟨i + 1, _, dueCC z cc col, col + 1, _, En, DL, _, oe, _, _, _, _, f', rfl, d1, d8, hd8, by rw [e8]; exact hf8, lo, hdv.append hI2, rfl, rfl, rfl, lD1, lE1, lN, rfl, c1, c2, c3, c4, c5, c6, c7, c8⟩
      · rename Fr _ _ _ _ => F8
        rename News _ _ _ _ => N8
        rename Obj.IsDictOf _ _ _ => hd8
        rename PyProof.V.FlatPairs _ _ _ => hf8
        rename Obj.data _ = _ => d8
        rename Int.fmod _ _ ≠ _ => hmod
        have e8 : dueCC z cc col = kdfPut cc (col + 1) (kdfLook cc (col + 1 - 1) 0) := by
          unfold dueCC; rw [if_neg hmod]
        obtain ⟨c0, f', c1, c2, c3, c4, c5, c6, c7, c8⟩ := due_turn k z i f n dl cc col _ hk5 hz6 hn hfi hil hdl hcl hl1 hlb hR (by omega)
        exact ws_next F8 (nTl (nTl N8)) c0 ⟨i + 1, _, dueCC z cc col, col + 1, _, En, DL, _, oe, _, _, _, _, f', rfl, d1, d8, hd8, by rw [e8]; exact hf8, lo, hdv.append hI2, rfl, rfl, rfl, lD1, lE1, lN, rfl, c1, c2, c3, c4, c5, c6, c7, c8⟩
    · rename Fr h₀ L _ m => F8
      rename News h₀ L _ _ => N8
      rename IntsAre _ _ => hI8
      rename _ ∧ _ ∧ _ ∧ _ ∧ AllLt _ _ => l8
      have e8 := due_exit k z f dl cc col _ hR (by omega)
      refine hret _ _ _ _ F8 (nKeep4 N8) ?_ l8.2.2.2.2
      unfold dueL
      rw [e8]
      exact hI8
end Mine

namespace Mine
def minL : List Int → Int
  | [] => 0
  | [x] => x
  | x :: r => min x (minL r)
def maxI (a b : Int) : Int := if b > a then b else a
theorem minL_is : ∀ {l : List Int} {x : Int}, x ∈ l → (∀ a, a ∈ l → x ≤ a) → x = minL l
  | [], _, h, _ => nomatch h
  | [y], _, h, _ => by rw [List.mem_singleton.mp h]; rfl
  | y :: z :: r, x, h, ha => by
    have hd : minL (y :: z :: r) = min y (minL (z :: r)) := rfl
    rw [hd]
    have mem : ∀ (z : Int) (r : List Int), minL (z :: r) ∈ z :: r := by
      intro z r
      induction r generalizing z with
      | nil => exact List.mem_cons_self
      | cons u r ih =>
        show min z (minL (u :: r)) ∈ _
        rcases Int.le_total z (minL (u :: r)) with q | q
        · rw [Int.min_eq_left q]; exact List.mem_cons_self
        · rw [Int.min_eq_right q]; exact List.mem_cons_of_mem _ (ih u)
    have le : ∀ (z : Int) (r : List Int), ∀ a ∈ z :: r, minL (z :: r) ≤ a := by
      intro z r
      induction r generalizing z with
      | nil => intro a h; rw [List.mem_singleton.mp h]; exact Int.le_refl _
      | cons u r ih =>
        intro a h
        show min z (minL (u :: r)) ≤ a
        rcases List.mem_cons.mp h with rfl | h
        · exact Int.min_le_left _ _
        · exact Int.le_trans (Int.min_le_right _ _) (ih u a h)
    have m1 := ha _ (mem y (z :: r))
    have m2 := le y (z :: r) x h
    exact Int.le_antisymm m1 m2
/-- least sum and least top of a tree with k ends, from column c with tab size z (f: fuel) -/
def lsF : Nat → Nat → Int → Int → Int × Int
  | 0, _, _, _ => (0, 0)
  | f + 1, k, c, z => if k = 1 then (c, c) else
    (minL ((List.range (k - 1)).map fun i => (lsF f (i + 1) (c + 1) z).1 + (lsF f (k - (i + 1)) (c + z - c.fmod z) z).1),
     minL ((List.range (k - 1)).map fun i => maxI (lsF f (i + 1) (c + 1) z).2 (lsF f (k - (i + 1)) (c + z - c.fmod z) z).2))
abbrev RetT (news : List (Addr × Obj)) (x y : Int) (h₀ : Heap) (L : Addr) (m : Str → Option Value) (s : Shared) (Q : Value → Shared → Prop) : Prop :=
  ∀ (D : Addr) (t1 t2 : Tok) (c : Nat) (h' : Heap) (tk' : Nat), Fr h₀ L h' m → News h₀ L h' ((D, ({ cls := .type "tuple", data := .seq #[.int x t1, .int y t2] c } : Obj)) :: news) → AllLt D news → Q (.ref D) { s with heap := h', toks := tk' }
abbrev lsS (f k : Nat) (c z : Int) (n : Nat) : List Int := (List.range n).map fun i => (lsF f (i + 1) (c + 1) z).1 + (lsF f (k - (i + 1)) (c + z - c.fmod z) z).1
abbrev lsT (f k : Nat) (c z : Int) (n : Nat) : List Int := (List.range n).map fun i => maxI (lsF f (i + 1) (c + 1) z).2 (lsF f (k - (i + 1)) (c + z - c.fmod z) z).2
theorem lsS_succ (f k : Nat) (c z : Int) (n : Nat) : lsS f k c z (n + 1) = lsS f k c z n ++ [(lsF f (n + 1) (c + 1) z).1 + (lsF f (k - (n + 1)) (c + z - c.fmod z) z).1] := by
  unfold lsS; rw [List.range_succ, List.map_append]; rfl
theorem lsT_succ (f k : Nat) (c z : Int) (n : Nat) : lsT f k c z (n + 1) = lsT f k c z n ++ [maxI (lsF f (n + 1) (c + 1) z).2 (lsF f (k - (n + 1)) (c + z - c.fmod z) z).2] := by
  unfold lsT; rw [List.range_succ, List.map_append]; rfl
abbrev J2 (f k : Nat) (c z : Int) (t1 t2 t3 : Tok) (S T : Addr) (news : List (Addr × Obj)) (i : Nat) (m : Str → Option Value) (nx : List (Addr × Obj)) : Prop :=
  ∃ sv tv nS nT, nx = (T, listOf tv.toArray nT) :: (S, listOf sv.toArray nS) :: news ∧ IntsAre sv (lsS f k c z i) ∧ IntsAre tv (lsT f k c z i) ∧
    m (Str.ofString "leaves") = some (.int k t1) ∧ m (Str.ofString "column") = some (.int c t2) ∧ m (Str.ofString "size") = some (.int z t3) ∧ m (Str.ofString "sums") = some (.ref S) ∧ m (Str.ofString "tops") = some (.ref T)
local macro_rules | `(tactic| size_fits) => `(tactic| assumption)
local macro_rules | `(tactic| walk_at "call builtin:list.append") => `(tactic| (k_here; (show wpAny _ _ (call (Value.builtin "list.append") [Value.ref _, _]) _ _ _); k_dflt (refine' append_K ?k1 ?k2 ?k3 ?_ ?z; (case k1 => k_asm); (case k2 => k_asm); (case k3 => k_upd); (case z => size_fits); k_whole); intro h' F' N'; (try k_sweep)))
set_option maxRecDepth 100000 in
set_option maxHeartbeats 8000000 in
theorem least_c (w : World) (f : Nat) (hf : f ≤ 6) : ∀ (k : Nat) (hk0 : 1 ≤ k) (hk : k ≤ f) (ki c z : Int) (hki : ki = (k : Int)) (t1 t2 t3 : Tok) (hz : 1 ≤ z) (news : List (Addr × Obj)), Calls w 141 [.int ki t1, .int c t2, .int z t3] news f (RetT news (lsF f k c z).1 (lsF f k c z).2) := by
  induction f with
  | zero => intro k hk0 hk; omega
  | succ f ih =>
  intro k hk0 hk ki c z hki t1 t2 t3 hz news
  subst hki
  replace ih := ih (by omega)
  unfold Calls; k_fill
  intro loose mean mg mb dp un gd cn cs a ccd cl outer A₀ base h₀ L m s Q E hB hF hK hN hT hk hdp hun hret
  refine wpAny_call ?_
  k_dflt cell_enter
  w_on
  (repeat' ((fail_if_success (with_reducible show wpAny _ _ (call (Value.ref _) _) _ _ _)); (fail_if_success (with_reducible show wpAny _ _ (call (Value.type "range") _) _ _ _)); first | (k_unfold; (try dsimp only)) | (k_end; wrow_close) | walk1 | (dsimp only; walk1) | (leave1; walk_say "STEP leave1"; try dsimp only) | fail "no step"))
  · rename Fr h₀ L _ _ => F4
    rename News h₀ L _ _ => N4
    have e : lsF (f + 1) k c z = (c, c) := by unfold lsF; rw [if_pos (by omega)]
    rw [e] at hret
    exact hret _ _ _ _ _ _ F4 N4 (allLt_of ‹_›)
  · rename Fr _ _ _ _ => F1
    rename News _ _ _ _ => N1
    rename _ ∧ _ => l1
    rename_i _ kne _ S _ l2 _ T _ _
    refine range2_rows F1 N1 ?_
    intro h2 tk2 u1 u2 u3 R2 F2 N2 _
    clear F1 N1
    (try dsimp only)
    refine range_inv (k - 1) (J2 f k c z t1 t2 t3 S T news) rfl R2 (small_one (by decide) (by decide) (by omega) (by omega)) (by omega) F2 N2 ?_ ?_ ?_
    · exact ⟨[], [], 0, 0, rfl, .nil, .nil, rfl, rfl, rfl, rfl, rfl⟩
    · rintro i t m₁ nx h tk own hi hoff ⟨sv, tv, nS, nT, rfl, hsv, htv, hm1, hm2, hm3, hm4, hm5⟩ F3 N3
      replace F3 := frB6 (x0 := Str.ofString "part") (x1 := Str.ofString "leaves") (x2 := Str.ofString "column") (x3 := Str.ofString "size") (x4 := Str.ofString "sums") (x5 := Str.ofString "tops") F3 rfl hm1 hm2 hm3 hm4 hm5
      simp only [List.cons_append] at N3
      clear F2 N2 R2
      (repeat' ((fail_if_success (with_reducible show wpAny _ _ (call (Value.ref _) _) _ _ _)); (fail_if_success (with_reducible show wpAny _ _ (call (Value.type "range") _) _ _ _)); first | (k_unfold; (try dsimp only)) | (k_end; wrow_close) | walk1 | (dsimp only; walk1) | (leave1; walk_say "STEP leave1"; try dsimp only) | fail "no step"))
      (try k_fold)
      refine Calls.use (ih (i + 1) (by omega) (by omega) _ _ _ (by omega) _ _ _ hz _) (by assumption) F3 (by assumption) N3 (by assumption) rfl ?_ ?_ ?_
      · show dp + 1 + f < recursionLimit
        omega
      · show un + 3 + 8 * f < cLine
        omega
      clear F3 N3
      intro D1 u1 u2 e1 h3 tk3 F3 N3 lt1
      (repeat' ((fail_if_success (with_reducible show wpAny _ _ (call (Value.ref _) _) _ _ _)); (fail_if_success (with_reducible show wpAny _ _ (call (Value.type "range") _) _ _ _)); first | (k_unfold; (try dsimp only)) | (k_end; wrow_close) | walk1 | (dsimp only; walk1) | (leave1; walk_say "STEP leave1"; try dsimp only) | fail "no step"))
      (try k_fold)
      rename Fr _ _ _ _ => F3
      rename News _ _ _ _ => N3
      refine Calls.use (ih (k - (i + 1)) (by omega) (by omega) _ _ _ (by omega) _ _ _ hz _) (by assumption) F3 (by assumption) N3 (by assumption) rfl ?_ ?_ ?_
      · show dp + 1 + f < recursionLimit
        omega
      · show un + 3 + 8 * f < cLine
        omega
      clear F3 N3
      intro D2 u3 u4 e2 h4 tk4 F3 N3 lt2
      have hno : OwnOff (news ++ own) [T, S] := by
        intro p hp b hb
        rcases List.mem_append.mp hp with hp | hp
        · simp only [List.mem_cons, List.not_mem_nil, or_false] at hb
          rcases hb with hb | hb
          · rw [hb]; exact Nat.ne_of_lt (Nat.lt_trans (l2 p hp) l1.1)
          · rw [hb]; exact Nat.ne_of_lt (l2 p hp)
        · exact hoff p hp b (by simp only [List.mem_cons, List.not_mem_nil, or_false] at hb; rcases hb with rfl | rfl <;> simp)
      simp only [AllLt] at lt1 lt2
      have hz1 : sv.toArray.size ≤ sizeLine := by rw [List.size_toArray, hsv.length, List.length_map, List.length_range, sizeLine_eq]; omega
      have hz2 : tv.toArray.size ≤ sizeLine := by rw [List.size_toArray, htv.length, List.length_map, List.length_range, sizeLine_eq]; omega
      k_steps
      rename Fr _ _ _ _ => F4
      rename News _ _ _ _ => N4
      simp only [List.push_toArray] at N4
      refine endG2 F4 (nTl (nTl N4)) ⟨_, _, _, _, rfl, ?_, ?_, rfl, rfl, rfl, rfl, rfl⟩ hoff
      · rw [lsS_succ]; exact hsv.append (.cons _ _ .nil)
      · rw [lsT_succ]; exact htv.append (.cons _ _ .nil)
    · rintro m₁ nx h tk ⟨sv, tv, nS, nT, rfl, hsv, htv, hm1, hm2, hm3, hm4, hm5⟩ F3 N3
      replace F3 := frB5 F3 hm1 hm2 hm3 hm4 hm5
      clear F2 N2 R2
      have hls : 0 < (lsS f k c z (k - 1)).length := by rw [List.length_map, List.length_range]; omega
      have hlt : 0 < (lsT f k c z (k - 1)).length := by rw [List.length_map, List.length_range]; omega
      k_steps
      rename Fr h₀ L _ _ => F4
      rename News h₀ L _ _ => N4
      rename _ ∈ lsS _ _ _ _ _ => a1
      rename ∀ a, a ∈ lsS _ _ _ _ _ → _ ≤ a => b1
      rename _ ∈ lsT _ _ _ _ _ => a2
      rename ∀ a, a ∈ lsT _ _ _ _ _ → _ ≤ a => b2
      rename _ ∧ _ ∧ AllLt _ _ => l3
      have e : lsF (f + 1) k c z = (minL (lsS f k c z (k - 1)), minL (lsT f k c z (k - 1))) := by rw [lsF, if_neg (by omega)]
      rw [e, ← minL_is a1 b1, ← minL_is a2 b2] at hret
      exact hret _ _ _ _ _ _ F4 (nSk (nSk N4)) l3.2.2
end Mine

namespace Mine
/-- Python's order on pairs of an int and a text -/
def lexLt (a b : Int × Str) : Bool := if a.1 = b.1 then (if a.2 = b.2 then false else decide (a.2.cps.toList < b.2.cps.toList)) else decide (a.1 < b.1)
abbrev pairO (k : Int) (t : Tok) (p : Str) (u : Tok) (n : Nat) : Obj := { cls := .type "tuple", data := .seq #[.int k t, .str p u] n }
section
variable {prog : Program} {w : World} {A : Around} {E : Value → Shared → Prop} {s : Shared} {a b : Addr} {x y : Int} {p q : Str} {t u t' u' : Tok} {n n' : Nat}
theorem pair_lt_tree {P : PySem.Fin → Shared → Prop} (ha : s.heap.get? a = some (pairO x t p u n)) (hb : s.heap.get? b = some (pairO y t' q u' n')) (h : P (.done (.ret (.bool (lexLt (x, p) (y, q))))) s) :
    wpAny (model prog w) A (Builtin.«tuple.__lt__» ⟨[.ref a, .ref b], []⟩) P E s := by
  have hTb : s.TypeIs (.ref b) "tuple" := ⟨_, hb, rfl⟩
  show wpAny _ _ (isInstance (.ref b) (.type "tuple") >>= _) _ _ s
  refine wpAny_bind (wpAny_isInstance hTb isSubtype_tuple_tuple ?_)
  simp only [Bool.not_true, Bool.false_eq_true, if_false]
  refine wpAny_bind (wpAny_tupleItemsOf ha rfl ?_)
  refine wpAny_bind (wpAny_tupleItemsOf hb rfl ?_)
  refine wpAny_bind ?_
  show wpAny _ _ (forIn [(Value.int x t, Value.int y t'), (Value.str p u, Value.str q u')] _ _) _ _ s
  rw [List.forIn_cons]
  refine wpAny_bind (wpAny_bind (wpAny_eqBool_int ?_))
  by_cases e : x = y
  · subst e
    rw [beq_self_eq_true]
    simp only [Bool.not_true, Bool.false_eq_true, if_false]
    refine wpAny_pure ?_
    show wpAny _ _ (forIn [(Value.str p u, Value.str q u')] _ _) _ _ s
    rw [List.forIn_cons]
    refine wpAny_bind (wpAny_bind (wpAny_eqBool_str ?_))
    by_cases e2 : p = q
    · subst e2
      rw [decide_eq_true rfl]
      simp only [Bool.not_true, Bool.false_eq_true, if_false]
      refine wpAny_pure ?_
      show wpAny _ _ (forIn [] _ _) _ _ s
      rw [List.forIn_nil]
      refine wpAny_pure ?_
      have e3 : lexLt (x, p) (x, p) = false := by unfold lexLt; simp
      rw [e3] at h
      exact wpAny_pure h
    · rw [decide_eq_false e2]
      simp only [Bool.not_false, if_true]
      have e3 : lexLt (x, p) (x, q) = decide (p.cps.toList < q.cps.toList) := by unfold lexLt; simp [e2]
      rw [e3] at h
      refine wpAny_bind (wpAny_rule ?_)
      refine wpAny_bind (PyProof.Rows.lt_str ?_)
      exact wpAny_bind (wpAny_pure (wpAny_pure (wpAny_pure (wpAny_pure h))))
  · have e3 : lexLt (x, p) (y, q) = decide (x < y) := by unfold lexLt; simp [e]
    rw [e3] at h
    have e4 : (x == y) = false := by simpa using e
    rw [e4]
    simp only [Bool.not_false, if_true]
    refine wpAny_bind (wpAny_rule ?_)
    refine wpAny_bind (PyProof.Rows.lt_int ?_)
    exact wpAny_bind (wpAny_pure (wpAny_pure (wpAny_pure (wpAny_pure h))))
theorem pair_lt {Q : Value → Shared → Prop} (ha : s.heap.get? a = some (pairO x t p u n)) (hb : s.heap.get? b = some (pairO y t' q u' n')) (hu : A.units < cLine) (h : Q (.bool (lexLt (x, p) (y, q))) s) :
    wpAny (model prog w) A (compareOp .Lt (.ref a) (.ref b)) Q E s :=
  wpAny_richCompare_same_room (op := .Lt) ⟨_, ha, rfl⟩ ⟨_, hb, rfl⟩ F.slot_tuple_lt
    (wpAny_call_entry F.slot_tuple_lt ⟨_, ha, rfl⟩ F.entry_tuple_lt (pair_lt_tree ha hb ⟨_, rfl, (fun e => nomatch e), h⟩) (F.args_tuple_lt_2 _ _)) hu
end
end Mine

namespace Mine
/-- the ledger bears pairs at these references -/
inductive HIs (news : List (Addr × Obj)) : List Value → List (Int × Str) → Prop
  | nil : HIs news [] []
  | cons {a : Addr} {k : Int} {t : Tok} {p : Str} {u : Tok} {n : Nat} {vs : List Value} {xs : List (Int × Str)} : (a, pairO k t p u n) ∈ news → HIs news vs xs → HIs news (.ref a :: vs) ((k, p) :: xs)
section
variable {news news' : List (Addr × Obj)} {vs vs' : List Value} {xs xs' : List (Int × Str)}
theorem HIs.len (h : HIs news vs xs) : vs.length = xs.length := by
  induction h with
  | nil => rfl
  | cons _ _ ih => rw [List.length_cons, List.length_cons, ih]
theorem HIs.mono (hs : ∀ p ∈ news, p ∈ news') (h : HIs news vs xs) : HIs news' vs xs := by
  induction h with
  | nil => exact .nil
  | cons hm _ ih => exact .cons (hs _ hm) ih
theorem HIs.get (h : HIs news vs xs) : ∀ {i : Nat} {x : Int × Str}, xs[i]? = some x → ∃ a t u n, vs[i]? = some (.ref a) ∧ (a, pairO x.1 t x.2 u n) ∈ news := by
  induction h with
  | nil => intro i x e; cases e
  | cons hm _ ih =>
    intro i x e
    cases i with
    | zero => cases e; exact ⟨_, _, _, _, rfl, hm⟩
    | succ i => exact ih e
theorem HIs.set (h : HIs news vs xs) : ∀ (i : Nat) {a : Addr} {x : Int × Str} {t : Tok} {u : Tok} {n : Nat}, (a, pairO x.1 t x.2 u n) ∈ news → HIs news (vs.set i (.ref a)) (xs.set i x) := by
  induction h with
  | nil => intro i a x t u n _; exact .nil
  | cons hm hr ih =>
    intro i a x t u n h
    cases i with
    | zero => exact .cons h hr
    | succ i => exact .cons hm (ih i h)
theorem HIs.append (h : HIs news vs xs) (h' : HIs news vs' xs') : HIs news (vs ++ vs') (xs ++ xs') := by
  induction h with
  | nil => exact h'
  | cons hm _ ih => exact .cons hm ih
end
section
variable {prog : Program} {w : World} {A : Around} {E : Value → Shared → Prop} {s : Shared} {h₀ : Heap} {L l : Addr} {m : Str → Option Value} {news tl : List (Addr × Obj)} {vs : List Value} {n : Nat} {k : Int} {t u : Tok} {v : Value}
theorem item_led {value slice : PySem.Expr} {Q : Value → Shared → Prop} (N : News h₀ L s.heap news) (hm : (l, listOf vs.toArray n) ∈ news) (h0 : 0 ≤ k) (hk : k < 2 ^ 62) (hx : vs[k.toNat]? = some v) (h : Q v s)
    (hs : subscripted slice false (.ref l) (.int k u) = operate [.ref l, .int k u] (getItem (.ref l) (.int k u)) := by with_unfolding_all rfl) :
    wpAny (model prog w) A (subscriptTail value slice (.ref l) (.int k u)) Q E s :=
  have hL : s.heap.IsList l vs.toArray := ⟨_, (N _ hm).1, rfl, n, rfl⟩
  tail_any hL.typeIs slot_list_getitem.lookup (wpAny_getItem_list hL h0 (by omega) (by simpa using hx) h) hs
theorem len_led {Q : Value → Shared → Prop} (N : News h₀ L s.heap news) (hm : (l, listOf vs.toArray n) ∈ news) (hz : vs.length < 2 ^ 62) (h : ∀ t k, Q (.int (vs.length : Int) t) { s with toks := k }) : wpAny (model prog w) A (call (.builtin "len") [.ref l]) Q E s := by
  have hL : s.heap.IsList l vs.toArray := ⟨_, (N _ hm).1, rfl, n, rfl⟩
  refine Calls.call_len_list hL (by rw [List.size_toArray]; omega) ?_
  rw [List.size_toArray]; exact h _ _
theorem set_led {Q : Unit → Shared → Prop} (F : Fr h₀ L s.heap m) (N : News h₀ L s.heap ((l, listOf vs.toArray n) :: tl)) (htl : OwnOff tl [l]) (h0 : 0 ≤ k) (h1 : k < vs.length) (hk : k < 2 ^ 62)
    (h : ∀ h', Fr h₀ L h' m → News h₀ L h' ((l, listOf (vs.set k.toNat v).toArray n) :: tl) → Q () { s with heap := h' }) : wpAny (model prog w) A (setItem (.ref l) (.int k t) v) Q E s := by
  have z := N (l, listOf vs.toArray n) (.head _)
  refine ki_setAt z.1 h0 (by omega) (by rw [List.size_toArray]; exact h1) (h _ (F.change (Heap.SameBut.update ..) z.2.1 z.2.2) (ki_turn (pre := []) _ N (fun _ hp => nomatch hp) (fun p hp => htl p hp l (.head _)) ?_ ?_))
  · show vs.toArray.setIfInBounds k.toNat v = (vs.set k.toNat v).toArray
    apply Array.toList_inj.mp
    simp
  · simp
end
abbrev d0 : Int × Str := (0, Str.empty)
def sdGo (new : Int × Str) (st : Nat) : Nat → List (Int × Str) → Nat → List (Int × Str)
  | 0, xs, pos => xs.set pos new
  | f + 1, xs, pos => if st < pos then (if lexLt new (xs.getD ((pos - 1) / 2) d0) then sdGo new st f (xs.set pos (xs.getD ((pos - 1) / 2) d0)) ((pos - 1) / 2) else xs.set pos new) else xs.set pos new
def sdown (xs : List (Int × Str)) (st pos : Nat) : List (Int × Str) := sdGo (xs.getD pos d0) st pos xs pos
abbrev JD (l : Addr) (e : Nat) (tl : List (Addr × Obj)) (st : Nat) (t1 : Tok) (an : Addr) (new : Int × Str) (len : Nat) (R : List (Int × Str)) (n : Nat) (m : Str → Option Value) (nx : List (Addr × Obj)) : Prop :=
  ∃ vs xs tp f, nx = (l, listOf vs.toArray e) :: tl ∧ HIs tl vs xs ∧ m (Str.ofString "heap") = some (.ref l) ∧ m (Str.ofString "startpos") = some (.int (st : Int) t1) ∧ m (Str.ofString "pos") = some (.int (n : Int) tp) ∧ m (Str.ofString "newitem") = some (.ref an) ∧
    n < len ∧ xs.length = len ∧ n ≤ f ∧ sdGo new st f xs n = R
abbrev RetH (l : Addr) (e : Nat) (tl : List (Addr × Obj)) (R : List (Int × Str)) (h₀ : Heap) (L : Addr) (m : Str → Option Value) (s : Shared) (Q : Value → Shared → Prop) : Prop :=
  ∀ (vs : List Value) (h' : Heap) (tk' : Nat), Fr h₀ L h' m → News h₀ L h' ((l, listOf vs.toArray e) :: tl) → HIs tl vs R → Q .none { s with heap := h', toks := tk' }
set_option maxRecDepth 100000 in
set_option maxHeartbeats 8000000 in
theorem siftdown_c (w : World) (l : Addr) (e : Nat) (tl : List (Addr × Obj)) (htl : OwnOff tl [l]) (vs : List Value) (xs : List (Int × Str)) (hx : HIs tl vs xs) (st pos : Nat) (si pi : Int) (hsi : si = (st : Int)) (hpi : pi = (pos : Int)) (hp : pos < xs.length) (hlen : xs.length ≤ 10) (t1 t2 : Tok) :
    Calls w 115 [.ref l, .int si t1, .int pi t2] ((l, listOf vs.toArray e) :: tl) 1 (RetH l e tl (sdown xs st pos)) := by
  subst hsi; subst hpi
  obtain ⟨an, tn, un, nn, hvn, hmn⟩ := hx.get (i := pos) (x := xs.getD pos d0) (by rw [List.getD_eq_getElem?_getD, List.getElem?_eq_getElem hp]; rfl)
  have hvl := hx.len
  unfold Calls; k_fill
  intro loose mean mg mb dp un gd cn cs a ccd cl outer A₀ base h₀ L m s Q E hB hF hK hN hT hk hdp hun hret
  refine wpAny_call ?_
  k_dflt cell_enter
  w_on
  k_steps
  rename Fr _ _ _ _ => F1
  rename News _ _ _ _ => N1
  refine item_led N1 (.head _) (by omega) (by omega) (by rw [Int.toNat_natCast]; exact hvn) ?_
  iterate 2 walk1
  rename Fr _ _ _ _ => F1
  rename News _ _ _ _ => N1
  refine While_inv2 (JD l e tl st t1 an (xs.getD pos d0) xs.length (sdown xs st pos)) (n₀ := pos) F1 N1 ?_ ?_
  · exact ⟨vs, xs, _, pos, rfl, hx, rfl, rfl, rfl, rfl, hp, rfl, Nat.le_refl _, rfl⟩
  · clear F1 N1
    rintro n m₁ nx h₁ tk₁ F1 N1 ⟨vs₁, xs₁, tp, f, rfl, hx₁, hm1, hm2, hm3, hm4, hlt, hl₁, hf, hR⟩
    replace F1 := frB4 F1 hm1 hm2 hm3 hm4
    have hvl₁ := hx₁.len
    k_steps
    · have hn0 : st < n := by omega
      have hpp : ((n : Int) - 1).fdiv (2 ^ Int.toNat 1) = (((n - 1) / 2 : Nat) : Int) := by
        show ((n : Int) - 1).fdiv 2 = _
        rw [Int.fdiv_eq_ediv_of_nonneg _ (by decide)]; omega
      have hpl : (n - 1) / 2 < xs₁.length := by omega
      obtain ⟨ap, tq, uq, nq, hvp, hmp⟩ := hx₁.get (i := (n - 1) / 2) (x := xs₁.getD ((n - 1) / 2) d0) (by rw [List.getD_eq_getElem?_getD, List.getElem?_eq_getElem hpl]; rfl)
      rename Fr _ _ _ _ => F1
      rename News _ _ _ _ => N1
      rw [hpp] at F1 ⊢
      refine item_led N1 (.head _) (by omega) (by omega) (by rw [Int.toNat_natCast]; exact hvp) ?_
      k_steps
      rename Fr _ _ _ _ => F1
      rename News _ _ _ _ => N1
      refine pair_lt (N1.get (.tail _ hmn)) (N1.get (.tail _ hmp)) ?_ ?_
      · show un + 3 < cLine
        omega
      k_steps
      · rename lexLt _ _ = true => hlex
        rename Fr _ _ _ _ => F1
        rename News _ _ _ _ => N1
        refine set_led (vs := vs₁) F1 N1 htl (by omega) (by omega) (by omega) ?_
        clear F1 N1
        intro h2 F1 N1
        rw [Int.toNat_natCast] at N1
        k_steps
        rename Fr _ _ _ _ => F1
        rename News _ _ _ _ => N1
        refine ws_cont F1 N1 (n' := (n - 1) / 2) (by omega) ⟨_, _, _, f - 1, rfl, hx₁.set n hmp, rfl, rfl, rfl, rfl, by omega, by rw [List.length_set]; exact hl₁, by omega, ?_⟩
        rw [← hR]
        obtain ⟨f', rfl⟩ : ∃ f', f = f' + 1 := ⟨f - 1, by omega⟩
        conv => rhs; unfold sdGo
        rw [if_pos hn0, if_pos hlex]; rfl
      · rename lexLt _ _ = false => hlex
        show WhileStep2 _ _ _ _ _ _ Flow.brk _
        dsimp only [WhileStep2]
        k_steps
        rename Fr _ _ _ _ => F1
        rename News _ _ _ _ => N1
        refine set_led (vs := vs₁) F1 N1 htl (by omega) (by omega) (by omega) ?_
        clear F1 N1
        intro h2 F1 N1
        rw [Int.toNat_natCast] at N1
        k_steps
        rename Fr h₀ L _ _ => F2
        rename News h₀ L _ _ => N2
        refine hret _ _ _ F2 N2 ?_
        rw [← hR]
        obtain ⟨f', rfl⟩ : ∃ f', f = f' + 1 := ⟨f - 1, by omega⟩
        unfold sdGo
        rw [if_pos hn0, if_neg (by rw [hlex]; exact Bool.false_ne_true)]
        exact hx₁.set n hmn
    · skip
      rename Fr _ _ _ _ => F1
      rename News _ _ _ _ => N1
      refine set_led (vs := vs₁) F1 N1 htl (by omega) (by omega) (by omega) ?_
      clear F1 N1
      intro h2 F1 N1
      rw [Int.toNat_natCast] at N1
      k_steps
      rename Fr h₀ L _ _ => F2
      rename News h₀ L _ _ => N2
      refine hret _ _ _ F2 N2 ?_
      rw [← hR]
      have e9 : sdGo (xs.getD pos d0) st f xs₁ n = xs₁.set n (xs.getD pos d0) := by
        cases f with
        | zero => rfl
        | succ f => unfold sdGo; rw [if_neg (by omega)]
      rw [e9]
      exact hx₁.set n hmn
end Mine

namespace Mine
/-- the texts of n signs, each a blank or a tab -/
def btN : Nat → List (List Nat)
  | 0 => [[]]
  | n + 1 => (btN n).flatMap fun l => [32 :: l, 9 :: l]
def leads5 : List (List Nat) := btN 1 ++ btN 2 ++ btN 3 ++ btN 4 ++ btN 5
theorem lead_split : ∀ l ∈ leads5, Txt.split (⟨l.toArray⟩ ++ Str.ofString "...") (Str.ofString "...") = [⟨l.toArray⟩, Str.empty] ∧ (Builtin.Str.occurrences (⟨l.toArray⟩ ++ Str.ofString "...") (Str.ofString "...") 0 (⟨l.toArray⟩ ++ Str.ofString "...").length 1).isEmpty = false ∧ (⟨l.toArray⟩ : Str).length ≤ 5 ∧ 1 ≤ (⟨l.toArray⟩ : Str).length := by decide +kernel
open Builtin Builtin.Str in
theorem gives_find4 (x y : Str) (i j : Int) (t u v z : Tok) : Gives («str.find» ⟨[.str x t, .str y u, .int i v, .int j z], []⟩) (.int (match occurrences x y (fromIndex x.length i) (min (fromIndex x.length j) x.length) 1 with | k :: _ => (k : Int) | [] => -1)) := by
  show Gives (match occurrences x y (fromIndex x.length i) (min (fromIndex x.length j) x.length) 1 with | k :: _ => retInt k | [] => (do rule "str.find.not-found"; retInt (-1))) _
  cases occurrences x y (fromIndex x.length i) (min (fromIndex x.length j) x.length) 1 with
  | nil => exact .rule (.of_eq rfl)
  | cons k _ => exact .of_eq rfl
open Builtin Builtin.Str in
theorem occ_empty (x : Str) (lo hi : Nat) (h : lo ≤ hi) : ∃ r, occurrences x Str.empty lo hi 1 = lo :: r := by
  rw [StrLaws.occ_eq]
  have e : hi + 1 - lo = (hi - lo) + 1 := by omega
  rw [e, List.range'_succ, List.forIn_cons]
  have h1 : StrLaws.occBody x Str.empty hi 1 lo (#[], lo) = pure (ForInStep.yield (#[lo], lo)) := by
    unfold StrLaws.occBody
    rw [if_pos]
    · rfl
    · refine ⟨⟨⟨Nat.zero_lt_one, Nat.le_refl _⟩, by show lo + 0 ≤ hi; omega⟩, ?_⟩
      rw [StrLaws.subAt_eq]; rfl
  rw [h1]
  have := StrLaws.occ_head_keeps x Str.empty hi 1 lo (List.range' (lo + 1) (hi - lo)) (#[lo], lo) rfl
  show ∃ r, ((forIn (List.range' (lo + 1) (hi - lo)) (#[lo], lo) (StrLaws.occBody x Str.empty hi 1)).run.fst).toList = lo :: r
  generalize (forIn (List.range' (lo + 1) (hi - lo)) (#[lo], lo) (StrLaws.occBody x Str.empty hi 1)).run.fst = arr at this
  obtain ⟨l⟩ := arr
  cases l with
  | nil => cases this
  | cons a l => have : a = lo := by simpa using this
                subst this; exact ⟨l, rfl⟩
theorem find4_empty {prog : Program} {w : World} {A : Around} {E : Value → Shared → Prop} {s : Shared} {x y : Str} {t u v z : Tok} {i j : Int} {Q : Value → Shared → Prop} (hy : y = Str.empty) (h0 : 0 ≤ i) (hij : i ≤ j) (hj : j ≤ x.length)
    (hq : ∀ t' k, Q (.int i t') { s with toks := k }) : wpAny (model prog w) A (call (.builtin "str.find") [.str x t, .str y u, .int i v, .int j z]) Q E s := by
  subst hy
  refine call_gives F.slot_str_find (typeIs_str _ _ _) F.entry_str_find (F.args_str_find_4 _ _ _ _) (gives_find4 x Str.empty i j t u v z) ?_
  have e1 : fromIndex x.length i = i.toNat := by unfold fromIndex; rw [if_neg (by omega)]; omega
  have e2 : min (fromIndex x.length j) x.length = j.toNat := by unfold fromIndex; rw [if_neg (by omega)]; omega
  obtain ⟨r, hr⟩ := occ_empty x i.toNat j.toNat (by omega)
  rw [e1, e2, hr]
  have e3 : ((i.toNat : Nat) : Int) = i := by omega
  show Q (.int ((i.toNat : Nat) : Int) _) _
  rw [e3]; exact hq _ _
theorem starts_is (got lead : Str) : Txt.startswith got lead = lead.cps.toList.isPrefixOf got.cps.toList := by
  unfold Txt.startswith
  rw [StrLaws.subAt_eq, List.drop_zero]
  have e1 : lead.length = lead.cps.toList.length := Array.length_toList.symm
  have e2 : got.length = got.cps.toList.length := Array.length_toList.symm
  rw [e1, e2]
  generalize lead.cps.toList = a
  generalize got.cps.toList = b
  rw [Bool.eq_iff_iff, Bool.and_eq_true, decide_eq_true_eq, beq_iff_eq, List.isPrefixOf_iff_prefix]
  constructor
  · rintro ⟨_, h⟩
    exact ⟨b.drop a.length, by conv => lhs; lhs; rw [← h]
                               exact List.take_append_drop _ _⟩
  · rintro ⟨c, rfl⟩
    exact ⟨by simp, by simp⟩
abbrev JE (lead got : Str) (t2 : Tok) (led : List (Addr × Obj)) (i : Nat) (m : Str → Option Value) (nx : List (Addr × Obj)) : Prop :=
  nx = led ∧ (i = 0 → (∃ t, m (Str.ofString "startpos") = some (.int (lead.length : Int) t)) ∧ (∃ t, m (Str.ofString "endpos") = some (.int (got.length : Int) t)) ∧ m (Str.ofString "got") = some (.str got t2))
local macro_rules | `(tactic| walk_at "call builtin:str.find") => `(tactic| (k_here; (with_unfolding_all refine find4_empty rfl (by omega) (by omega) (by omega) ?_); intro t' k'))
set_option maxRecDepth 100000 in
set_option maxHeartbeats 8000000 in
theorem ellipsis_c (w : World) (lead got : Str) (t1 t2 : Tok) (hl : lead.cps.toList ∈ leads5) (hg : got.length ≤ 512) (news : List (Addr × Obj)) :
    Calls w 94 [.str (lead ++ Str.ofString "...") t1, .str got t2] news 1 fun h₀ L m s Q => CbRet h₀ L m news s Q (fun _ => .bool (lead.cps.toList.isPrefixOf got.cps.toList)) := by
  have hL := lead_split _ hl
  have hL0 : (⟨lead.cps.toList.toArray⟩ : Str) = lead := rfl
  rw [hL0] at hL
  obtain ⟨hsp, hoc, hl5, hl1⟩ := hL
  unfold Calls; k_fill
  intro loose mean mg mb dp un gd cn cs a ccd cl outer A₀ base h₀ L m s Q E hB hF hK hN hT hk hdp hun hret
  refine wpAny_call ?_
  k_dflt cell_enter
  w_on
  (repeat' ((fail_if_success (with_reducible show wpAny _ _ (call (Value.builtin "str.split") _) _ _ _)); first | (k_unfold; (try dsimp only)) | (k_end; wrow_close) | walk1 | (dsimp only; walk1) | (leave1; walk_say "STEP leave1"; try dsimp only) | fail "no step"))
  rename News _ _ _ _ => N0
  have hlt := fun p hp => Heap.lt_size (N0 p hp).1
  (try dsimp only at hlt)
  (repeat' ((fail_if_success (with_reducible show wpAny _ _ (call (Value.builtin "len") [Value.ref _]) _ _ _)); first | (k_unfold; (try dsimp only)) | (k_end; wrow_close) | walk1 | (dsimp only; walk1) | (leave1; walk_say "STEP leave1"; try dsimp only) | fail "no step"))
  · rename List.map _ _ = Txt.split _ _ => hm
    rename List (Str × Tok) => l
    rw [hsp] at hm
    obtain ⟨ta, tb, hlv⟩ : ∃ ta tb, l = [(lead, ta), (Str.empty, tb)] := by
      match l, hm with
      | [(_, ta), (_, tb)], hm =>
        injection hm with h1 h2; injection h2 with h2 h3
        exact ⟨ta, tb, by rw [← h1, ← h2]⟩
    subst hlv
    rename News _ _ _ _ => N1
    simp only [strValues, List.map_cons, List.map_nil] at N1
    rename Heap.IsList _ _ _ => hil
    clear hil hm
    (try dsimp only at N1)
    have hsl : Txt.startswith got lead = true → lead.length ≤ got.length := fun h => by
      unfold Txt.startswith at h; rw [Bool.and_eq_true, decide_eq_true_eq] at h; omega
    have hpre := starts_is got lead
    k_steps
    · exfalso; have := hsl (by assumption); omega
    · rename Fr _ _ _ _ => F2
      rename News _ _ _ _ => N2
      rename Txt.startswith got lead = true => hst
      refine For_invVF F2 rfl rfl ?_
      walk1
      refine kdl_iter (vs := [Value.str Str.empty tb]) (nn := 1) (JE lead got t2 _) rfl (.tail _ (.head _)) F2 N2 ⟨rfl, fun _ => ⟨⟨_, rfl⟩, ⟨_, rfl⟩, rfl⟩⟩ ?_ ?_
      · rintro i v m₁ nx h tk own hv hoff _ ⟨rfl, hJ⟩ F3 N3
        clear F2 N2
        obtain ⟨rfl, rfl⟩ : i = 0 ∧ v = Value.str Str.empty tb := by
          cases i with
          | zero => exact ⟨rfl, (Option.some.inj hv).symm⟩
          | succ i => cases hv
        obtain ⟨⟨u1, hm1⟩, ⟨u2, hm2⟩, hm3⟩ := hJ rfl
        replace F3 := frB4 (x0 := Str.ofString "w") (x1 := Str.ofString "startpos") (x2 := Str.ofString "endpos") (x3 := Str.ofString "got") F3 rfl hm1 hm2 hm3
        k_steps
        refine PyProof.Rows.len_str (by decide) ?_
        k_steps
        rename Fr _ _ _ _ => F4
        rename News _ _ _ _ => N4
        refine endG2 F4 N4 ⟨.tail _ (.head _), rfl, fun h => by cases h⟩ hoff
      · rintro m₁ nx h tk ⟨rfl, _⟩ F3 N3
        clear F2 N2
        k_steps
        rename Fr h₀ L _ _ => F2
        rename News h₀ L _ _ => N2
        rw [← hpre, hst] at hret
        exact hret 0 _ _ F2 (nTl (nTl N2))
    · rename Fr h₀ L _ _ => F2
      rename News h₀ L _ _ => N2
      rw [← hpre] at hret
      rename Txt.startswith got lead = false => hst
      rw [hst] at hret
      exact hret 0 _ _ F2 (nTl (nTl N2))
    · exfalso; omega
end Mine

namespace Mine
def kid (xs : List (Int × Str)) (len c : Nat) : Nat := if c + 1 < len then (if lexLt (xs.getD c d0) (xs.getD (c + 1) d0) then c else c + 1) else c
def suGo (new : Int × Str) (len : Nat) : Nat → List (Int × Str) → Nat → List (Int × Str) × Nat
  | 0, xs, pos => (xs.set pos new, pos)
  | f + 1, xs, pos => if 2 * pos + 1 < len then suGo new len f (xs.set pos (xs.getD (kid xs len (2 * pos + 1)) d0)) (kid xs len (2 * pos + 1)) else (xs.set pos new, pos)
def sup (xs : List (Int × Str)) (pos : Nat) : List (Int × Str) := (suGo (xs.getD pos d0) xs.length xs.length xs pos) |> fun r => sdown r.1 pos r.2
theorem kid_lt {xs : List (Int × Str)} {len c : Nat} (h : c < len) : kid xs len c < len ∧ c ≤ kid xs len c := by
  unfold kid
  split
  · split <;> omega
  · omega
theorem getD_some {xs : List (Int × Str)} {i : Nat} (h : i < xs.length) : xs[i]? = some (xs.getD i d0) := by
  rw [List.getD_eq_getElem?_getD, List.getElem?_eq_getElem h]; rfl
theorem vint {x y : Int} {t : Tok} (h : x = y) : some (Value.int x t) = some (Value.int y t) := by rw [h]
abbrev JU (l : Addr) (e : Nat) (tl : List (Addr × Obj)) (st : Nat) (t1 : Tok) (an : Addr) (new : Int × Str) (len : Nat) (R : List (Int × Str) × Nat) (n : Nat) (m : Str → Option Value) (nx : List (Addr × Obj)) : Prop :=
  ∃ vs xs t2 t3 t4 f pos, nx = (l, listOf vs.toArray e) :: tl ∧ HIs tl vs xs ∧ m (Str.ofString "heap") = some (.ref l) ∧ m (Str.ofString "startpos") = some (.int (st : Int) t1) ∧ m (Str.ofString "pos") = some (.int ((pos : Nat) : Int) t2) ∧ m (Str.ofString "newitem") = some (.ref an) ∧
    m (Str.ofString "childpos") = some (.int ((2 * pos + 1 : Nat) : Int) t3) ∧ m (Str.ofString "endpos") = some (.int (len : Int) t4) ∧ n = len - pos ∧ pos < len ∧ xs.length = len ∧ len ≤ f + pos ∧ suGo new len f xs pos = R
set_option maxRecDepth 100000 in
set_option maxHeartbeats 8000000 in
theorem siftup_c (w : World) (l : Addr) (e : Nat) (tl : List (Addr × Obj)) (htl : OwnOff tl [l]) (vs : List Value) (xs : List (Int × Str)) (hx : HIs tl vs xs) (pos : Nat) (pi : Int) (hpi : pi = (pos : Int)) (hp : pos < xs.length) (hlen : xs.length ≤ 10) (t1 : Tok) :
    Calls w 122 [.ref l, .int pi t1] ((l, listOf vs.toArray e) :: tl) 2 (RetH l e tl (sup xs pos)) := by
  subst hpi
  obtain ⟨an, tn, un, nn, hvn, hmn⟩ := hx.get (i := pos) (getD_some hp)
  have hvl := hx.len
  unfold Calls; k_fill
  intro loose mean mg mb dp un gd cn cs a ccd cl outer A₀ base h₀ L m s Q E hB hF hK hN hT hk hdp hun hret
  refine wpAny_call ?_
  k_dflt cell_enter
  w_on
  (repeat' ((fail_if_success (with_reducible show wpAny _ _ (call (Value.ref _) _) _ _ _)); (fail_if_success (with_reducible show wpAny _ _ (exec (Stmt.While _ _ _ _) _) _ _ _)); (fail_if_success (with_reducible show wpAny _ _ (exec (Stmt.For _ _ _ _ _) _) _ _ _)); (fail_if_success (with_reducible show wpAny _ _ (subscriptTail _ _ (Value.ref _) _) _ _ _)); (fail_if_success (with_reducible show wpAny _ _ (setItem (Value.ref _) _ _) _ _ _)); (fail_if_success (with_reducible show wpAny _ _ (compareOp CmpOp.Lt (Value.ref _) (Value.ref _)) _ _ _)); (fail_if_success (with_reducible show wpAny _ _ (call (Value.builtin "len") [Value.ref _]) _ _ _)); first | (k_unfold; (try dsimp only)) | walk1 | (dsimp only; walk1)))
  rename News _ _ _ _ => N1
  refine len_led (vs := vs) N1 (.head _) (by omega) ?_
  intro t2 k2
  (repeat' ((fail_if_success (with_reducible show wpAny _ _ (call (Value.ref _) _) _ _ _)); (fail_if_success (with_reducible show wpAny _ _ (exec (Stmt.While _ _ _ _) _) _ _ _)); (fail_if_success (with_reducible show wpAny _ _ (exec (Stmt.For _ _ _ _ _) _) _ _ _)); (fail_if_success (with_reducible show wpAny _ _ (subscriptTail _ _ (Value.ref _) _) _ _ _)); (fail_if_success (with_reducible show wpAny _ _ (setItem (Value.ref _) _ _) _ _ _)); (fail_if_success (with_reducible show wpAny _ _ (compareOp CmpOp.Lt (Value.ref _) (Value.ref _)) _ _ _)); (fail_if_success (with_reducible show wpAny _ _ (call (Value.builtin "len") [Value.ref _]) _ _ _)); first | (k_unfold; (try dsimp only)) | walk1 | (dsimp only; walk1)))
  rename News _ _ _ _ => N1
  refine item_led (vs := vs) N1 (.head _) (by omega) (by omega) (by rw [Int.toNat_natCast]; exact hvn) ?_
  (repeat' ((fail_if_success (with_reducible show wpAny _ _ (call (Value.ref _) _) _ _ _)); (fail_if_success (with_reducible show wpAny _ _ (exec (Stmt.While _ _ _ _) _) _ _ _)); (fail_if_success (with_reducible show wpAny _ _ (exec (Stmt.For _ _ _ _ _) _) _ _ _)); (fail_if_success (with_reducible show wpAny _ _ (subscriptTail _ _ (Value.ref _) _) _ _ _)); (fail_if_success (with_reducible show wpAny _ _ (setItem (Value.ref _) _ _) _ _ _)); (fail_if_success (with_reducible show wpAny _ _ (compareOp CmpOp.Lt (Value.ref _) (Value.ref _)) _ _ _)); (fail_if_success (with_reducible show wpAny _ _ (call (Value.builtin "len") [Value.ref _]) _ _ _)); first | (k_unfold; (try dsimp only)) | walk1 | (dsimp only; walk1)))
  rename Fr _ _ _ _ => F1
  rename News _ _ _ _ => N1
  refine While_inv2 (JU l e tl pos t1 an (xs.getD pos d0) vs.length (suGo (xs.getD pos d0) vs.length vs.length xs pos)) (n₀ := vs.length - pos) F1 N1 ?_ ?_
  · exact ⟨vs, xs, _, _, _, vs.length, pos, rfl, hx, rfl, rfl, rfl, rfl, vint (by omega), rfl, rfl, by omega, hvl.symm, by omega, rfl⟩
  · clear F1 N1
    rintro n m₁ nx h₁ tk₁ F1 N1 ⟨vs₁, xs₁, t2, t3, t4, f, p, rfl, hx₁, hm1, hm2, hm3, hm4, hm5, hm6, hn, hlt, hl₁, hf, hR⟩
    replace F1 := frB6 F1 hm1 hm2 hm3 hm4 hm5 hm6
    have hvl₁ := hx₁.len
    (repeat' ((fail_if_success (with_reducible show wpAny _ _ (call (Value.ref _) _) _ _ _)); (fail_if_success (with_reducible show wpAny _ _ (exec (Stmt.While _ _ _ _) _) _ _ _)); (fail_if_success (with_reducible show wpAny _ _ (exec (Stmt.For _ _ _ _ _) _) _ _ _)); (fail_if_success (with_reducible show wpAny _ _ (subscriptTail _ _ (Value.ref _) _) _ _ _)); (fail_if_success (with_reducible show wpAny _ _ (setItem (Value.ref _) _ _) _ _ _)); (fail_if_success (with_reducible show wpAny _ _ (compareOp CmpOp.Lt (Value.ref _) (Value.ref _)) _ _ _)); (fail_if_success (with_reducible show wpAny _ _ (call (Value.builtin "len") [Value.ref _]) _ _ _)); first | (k_unfold; (try dsimp only)) | walk1 | (dsimp only; walk1)))
    · have hrl : 2 * p + 1 + 1 < xs₁.length := by omega
      obtain ⟨a1, w1, w2, w3, hv1, hmm1⟩ := hx₁.get (i := 2 * p + 1) (getD_some (by omega))
      obtain ⟨a2, w4, w5, w6, hv2, hmm2⟩ := hx₁.get (i := 2 * p + 1 + 1) (getD_some hrl)
      rename News _ _ _ _ => N1
      refine item_led (vs := vs₁) (v := .ref a1) N1 (.head _) (by omega) (by omega) (by rw [← hv1]; congr 1) ?_
      (repeat' ((fail_if_success (with_reducible show wpAny _ _ (call (Value.ref _) _) _ _ _)); (fail_if_success (with_reducible show wpAny _ _ (exec (Stmt.While _ _ _ _) _) _ _ _)); (fail_if_success (with_reducible show wpAny _ _ (exec (Stmt.For _ _ _ _ _) _) _ _ _)); (fail_if_success (with_reducible show wpAny _ _ (subscriptTail _ _ (Value.ref _) _) _ _ _)); (fail_if_success (with_reducible show wpAny _ _ (setItem (Value.ref _) _ _) _ _ _)); (fail_if_success (with_reducible show wpAny _ _ (compareOp CmpOp.Lt (Value.ref _) (Value.ref _)) _ _ _)); (fail_if_success (with_reducible show wpAny _ _ (call (Value.builtin "len") [Value.ref _]) _ _ _)); first | (k_unfold; (try dsimp only)) | walk1 | (dsimp only; walk1)))
      rename News _ _ _ _ => N1
      refine item_led (vs := vs₁) (v := .ref a2) N1 (.head _) (by omega) (by omega) (by rw [← hv2]; congr 1) ?_
      (repeat' ((fail_if_success (with_reducible show wpAny _ _ (call (Value.ref _) _) _ _ _)); (fail_if_success (with_reducible show wpAny _ _ (exec (Stmt.While _ _ _ _) _) _ _ _)); (fail_if_success (with_reducible show wpAny _ _ (exec (Stmt.For _ _ _ _ _) _) _ _ _)); (fail_if_success (with_reducible show wpAny _ _ (subscriptTail _ _ (Value.ref _) _) _ _ _)); (fail_if_success (with_reducible show wpAny _ _ (setItem (Value.ref _) _ _) _ _ _)); (fail_if_success (with_reducible show wpAny _ _ (compareOp CmpOp.Lt (Value.ref _) (Value.ref _)) _ _ _)); (fail_if_success (with_reducible show wpAny _ _ (call (Value.builtin "len") [Value.ref _]) _ _ _)); first | (k_unfold; (try dsimp only)) | walk1 | (dsimp only; walk1)))
      rename News _ _ _ _ => N1
      refine pair_lt (N1.get (.tail _ hmm1)) (N1.get (.tail _ hmm2)) ?_ ?_
      · show un + 3 < cLine
        omega
      (repeat' ((fail_if_success (with_reducible show wpAny _ _ (call (Value.ref _) _) _ _ _)); (fail_if_success (with_reducible show wpAny _ _ (exec (Stmt.While _ _ _ _) _) _ _ _)); (fail_if_success (with_reducible show wpAny _ _ (exec (Stmt.For _ _ _ _ _) _) _ _ _)); (fail_if_success (with_reducible show wpAny _ _ (subscriptTail _ _ (Value.ref _) _) _ _ _)); (fail_if_success (with_reducible show wpAny _ _ (setItem (Value.ref _) _ _) _ _ _)); (fail_if_success (with_reducible show wpAny _ _ (compareOp CmpOp.Lt (Value.ref _) (Value.ref _)) _ _ _)); (fail_if_success (with_reducible show wpAny _ _ (call (Value.builtin "len") [Value.ref _]) _ _ _)); first | (k_unfold; (try dsimp only)) | walk1 | (dsimp only; walk1)))
      · rename lexLt _ _ = true => hlex
        have hcl : 2 * p + 1 < xs₁.length := by omega
        obtain ⟨ac, tc, uc, nc, hvc, hmc⟩ := hx₁.get (i := 2 * p + 1) (getD_some hcl)
        rename Fr _ _ _ _ => F1
        rename News _ _ _ _ => N1
        refine item_led (vs := vs₁) (v := .ref ac) N1 (.head _) (by omega) (by omega) (by rw [← hvc]; congr 1) ?_
        (repeat' ((fail_if_success (with_reducible show wpAny _ _ (call (Value.ref _) _) _ _ _)); (fail_if_success (with_reducible show wpAny _ _ (exec (Stmt.While _ _ _ _) _) _ _ _)); (fail_if_success (with_reducible show wpAny _ _ (exec (Stmt.For _ _ _ _ _) _) _ _ _)); (fail_if_success (with_reducible show wpAny _ _ (subscriptTail _ _ (Value.ref _) _) _ _ _)); (fail_if_success (with_reducible show wpAny _ _ (setItem (Value.ref _) _ _) _ _ _)); (fail_if_success (with_reducible show wpAny _ _ (compareOp CmpOp.Lt (Value.ref _) (Value.ref _)) _ _ _)); (fail_if_success (with_reducible show wpAny _ _ (call (Value.builtin "len") [Value.ref _]) _ _ _)); first | (k_unfold; (try dsimp only)) | walk1 | (dsimp only; walk1)))
        rename Fr _ _ _ _ => F1
        rename News _ _ _ _ => N1
        refine set_led (vs := vs₁) F1 N1 htl (by omega) (by omega) (by omega) ?_
        clear F1 N1
        intro h2 F1 N1
        rw [Int.toNat_natCast] at N1
        (repeat' ((fail_if_success (with_reducible show wpAny _ _ (call (Value.ref _) _) _ _ _)); (fail_if_success (with_reducible show wpAny _ _ (exec (Stmt.While _ _ _ _) _) _ _ _)); (fail_if_success (with_reducible show wpAny _ _ (exec (Stmt.For _ _ _ _ _) _) _ _ _)); (fail_if_success (with_reducible show wpAny _ _ (subscriptTail _ _ (Value.ref _) _) _ _ _)); (fail_if_success (with_reducible show wpAny _ _ (setItem (Value.ref _) _ _) _ _ _)); (fail_if_success (with_reducible show wpAny _ _ (compareOp CmpOp.Lt (Value.ref _) (Value.ref _)) _ _ _)); (fail_if_success (with_reducible show wpAny _ _ (call (Value.builtin "len") [Value.ref _]) _ _ _)); first | (k_unfold; (try dsimp only)) | walk1 | (dsimp only; walk1)))
        rename Fr _ _ _ _ => F1
        rename News _ _ _ _ => N1
        refine ws_next F1 N1 (n' := vs.length - (2 * p + 1)) (by omega) ⟨_, _, _, _, _, f - 1, 2 * p + 1, rfl, hx₁.set p hmc, rfl, rfl, vint (by omega), rfl, vint (by omega), rfl, rfl, by omega, by rw [List.length_set]; exact hl₁, by omega, ?_⟩
        rw [← hR]
        obtain ⟨f', rfl⟩ : ∃ f', f = f' + 1 := ⟨f - 1, by omega⟩
        have hkid : kid xs₁ vs.length (2 * p + 1) = 2 * p + 1 := by unfold kid; rw [if_pos (by omega), if_pos hlex]
        conv => rhs; unfold suGo
        rw [if_pos (by omega), hkid]; rfl
      · rename lexLt _ _ = false => hlex
        have hcl : 2 * p + 1 + 1 < xs₁.length := by omega
        obtain ⟨ac, tc, uc, nc, hvc, hmc⟩ := hx₁.get (i := 2 * p + 1 + 1) (getD_some hcl)
        rename Fr _ _ _ _ => F1
        rename News _ _ _ _ => N1
        refine item_led (vs := vs₁) (v := .ref ac) N1 (.head _) (by omega) (by omega) (by rw [← hvc]; congr 1) ?_
        (repeat' ((fail_if_success (with_reducible show wpAny _ _ (call (Value.ref _) _) _ _ _)); (fail_if_success (with_reducible show wpAny _ _ (exec (Stmt.While _ _ _ _) _) _ _ _)); (fail_if_success (with_reducible show wpAny _ _ (exec (Stmt.For _ _ _ _ _) _) _ _ _)); (fail_if_success (with_reducible show wpAny _ _ (subscriptTail _ _ (Value.ref _) _) _ _ _)); (fail_if_success (with_reducible show wpAny _ _ (setItem (Value.ref _) _ _) _ _ _)); (fail_if_success (with_reducible show wpAny _ _ (compareOp CmpOp.Lt (Value.ref _) (Value.ref _)) _ _ _)); (fail_if_success (with_reducible show wpAny _ _ (call (Value.builtin "len") [Value.ref _]) _ _ _)); first | (k_unfold; (try dsimp only)) | walk1 | (dsimp only; walk1)))
        rename Fr _ _ _ _ => F1
        rename News _ _ _ _ => N1
        refine set_led (vs := vs₁) F1 N1 htl (by omega) (by omega) (by omega) ?_
        clear F1 N1
        intro h2 F1 N1
        rw [Int.toNat_natCast] at N1
        (repeat' ((fail_if_success (with_reducible show wpAny _ _ (call (Value.ref _) _) _ _ _)); (fail_if_success (with_reducible show wpAny _ _ (exec (Stmt.While _ _ _ _) _) _ _ _)); (fail_if_success (with_reducible show wpAny _ _ (exec (Stmt.For _ _ _ _ _) _) _ _ _)); (fail_if_success (with_reducible show wpAny _ _ (subscriptTail _ _ (Value.ref _) _) _ _ _)); (fail_if_success (with_reducible show wpAny _ _ (setItem (Value.ref _) _ _) _ _ _)); (fail_if_success (with_reducible show wpAny _ _ (compareOp CmpOp.Lt (Value.ref _) (Value.ref _)) _ _ _)); (fail_if_success (with_reducible show wpAny _ _ (call (Value.builtin "len") [Value.ref _]) _ _ _)); first | (k_unfold; (try dsimp only)) | walk1 | (dsimp only; walk1)))
        rename Fr _ _ _ _ => F1
        rename News _ _ _ _ => N1
        refine ws_next F1 N1 (n' := vs.length - (2 * p + 1 + 1)) (by omega) ⟨_, _, _, _, _, f - 1, 2 * p + 1 + 1, rfl, hx₁.set p hmc, rfl, rfl, vint (by omega), rfl, vint (by omega), rfl, rfl, by omega, by rw [List.length_set]; exact hl₁, by omega, ?_⟩
        rw [← hR]
        obtain ⟨f', rfl⟩ : ∃ f', f = f' + 1 := ⟨f - 1, by omega⟩
        have hkid : kid xs₁ vs.length (2 * p + 1) = 2 * p + 1 + 1 := by unfold kid; rw [if_pos (by omega), if_neg (by rw [hlex]; exact Bool.false_ne_true)]
        conv => rhs; unfold suGo
        rw [if_pos (by omega), hkid]; rfl
    · skip
      have hcl : 2 * p + 1 < xs₁.length := by omega
      obtain ⟨ac, tc, uc, nc, hvc, hmc⟩ := hx₁.get (i := 2 * p + 1) (getD_some hcl)
      rename Fr _ _ _ _ => F1
      rename News _ _ _ _ => N1
      refine item_led (vs := vs₁) (v := .ref ac) N1 (.head _) (by omega) (by omega) (by rw [← hvc]; congr 1) ?_
      (repeat' ((fail_if_success (with_reducible show wpAny _ _ (call (Value.ref _) _) _ _ _)); (fail_if_success (with_reducible show wpAny _ _ (exec (Stmt.While _ _ _ _) _) _ _ _)); (fail_if_success (with_reducible show wpAny _ _ (exec (Stmt.For _ _ _ _ _) _) _ _ _)); (fail_if_success (with_reducible show wpAny _ _ (subscriptTail _ _ (Value.ref _) _) _ _ _)); (fail_if_success (with_reducible show wpAny _ _ (setItem (Value.ref _) _ _) _ _ _)); (fail_if_success (with_reducible show wpAny _ _ (compareOp CmpOp.Lt (Value.ref _) (Value.ref _)) _ _ _)); (fail_if_success (with_reducible show wpAny _ _ (call (Value.builtin "len") [Value.ref _]) _ _ _)); first | (k_unfold; (try dsimp only)) | walk1 | (dsimp only; walk1)))
      rename Fr _ _ _ _ => F1
      rename News _ _ _ _ => N1
      refine set_led (vs := vs₁) F1 N1 htl (by omega) (by omega) (by omega) ?_
      clear F1 N1
      intro h2 F1 N1
      rw [Int.toNat_natCast] at N1
      (repeat' ((fail_if_success (with_reducible show wpAny _ _ (call (Value.ref _) _) _ _ _)); (fail_if_success (with_reducible show wpAny _ _ (exec (Stmt.While _ _ _ _) _) _ _ _)); (fail_if_success (with_reducible show wpAny _ _ (exec (Stmt.For _ _ _ _ _) _) _ _ _)); (fail_if_success (with_reducible show wpAny _ _ (subscriptTail _ _ (Value.ref _) _) _ _ _)); (fail_if_success (with_reducible show wpAny _ _ (setItem (Value.ref _) _ _) _ _ _)); (fail_if_success (with_reducible show wpAny _ _ (compareOp CmpOp.Lt (Value.ref _) (Value.ref _)) _ _ _)); (fail_if_success (with_reducible show wpAny _ _ (call (Value.builtin "len") [Value.ref _]) _ _ _)); first | (k_unfold; (try dsimp only)) | walk1 | (dsimp only; walk1)))
      rename Fr _ _ _ _ => F1
      rename News _ _ _ _ => N1
      refine ws_next F1 N1 (n' := vs.length - (2 * p + 1)) (by omega) ⟨_, _, _, _, _, f - 1, 2 * p + 1, rfl, hx₁.set p hmc, rfl, rfl, vint (by omega), rfl, vint (by omega), rfl, rfl, by omega, by rw [List.length_set]; exact hl₁, by omega, ?_⟩
      rw [← hR]
      obtain ⟨f', rfl⟩ : ∃ f', f = f' + 1 := ⟨f - 1, by omega⟩
      have hkid : kid xs₁ vs.length (2 * p + 1) = 2 * p + 1 := by unfold kid; rw [if_neg (by omega)]
      conv => rhs; unfold suGo
      rw [if_pos (by omega), hkid]; rfl
    · rename Fr _ _ _ _ => F1
      rename News _ _ _ _ => N1
      refine set_led (vs := vs₁) F1 N1 htl (by omega) (by omega) (by omega) ?_
      clear F1 N1
      intro h2 F1 N1
      rw [Int.toNat_natCast] at N1
      (repeat' ((fail_if_success (with_reducible show wpAny _ _ (call (Value.ref _) _) _ _ _)); (fail_if_success (with_reducible show wpAny _ _ (exec (Stmt.While _ _ _ _) _) _ _ _)); (fail_if_success (with_reducible show wpAny _ _ (exec (Stmt.For _ _ _ _ _) _) _ _ _)); (fail_if_success (with_reducible show wpAny _ _ (subscriptTail _ _ (Value.ref _) _) _ _ _)); (fail_if_success (with_reducible show wpAny _ _ (setItem (Value.ref _) _ _) _ _ _)); (fail_if_success (with_reducible show wpAny _ _ (compareOp CmpOp.Lt (Value.ref _) (Value.ref _)) _ _ _)); (fail_if_success (with_reducible show wpAny _ _ (call (Value.builtin "len") [Value.ref _]) _ _ _)); first | (k_unfold; (try dsimp only)) | walk1 | (dsimp only; walk1)))
      rename Fr _ _ _ _ => F1
      rename News _ _ _ _ => N1
      have hfin : suGo (xs.getD pos d0) vs.length f xs₁ p = (xs₁.set p (xs.getD pos d0), p) := by
        cases f with
        | zero => rfl
        | succ f => unfold suGo; rw [if_neg (by omega)]
      refine Calls.use (siftdown_c w l e tl htl _ _ (hx₁.set p hmn) pos p _ _ rfl rfl (by rw [List.length_set]; omega) (by rw [List.length_set]; omega) _ _) (by assumption) F1 (by assumption) N1 (by assumption) rfl ?_ ?_ ?_
      · show dp + 1 + 1 < recursionLimit
        omega
      · show un + 3 + 8 * 1 < cLine
        omega
      clear F1 N1
      intro vs₂ h3 tk3 F1 N1 hx₂
      (repeat' ((fail_if_success (with_reducible show wpAny _ _ (call (Value.ref _) _) _ _ _)); (fail_if_success (with_reducible show wpAny _ _ (exec (Stmt.While _ _ _ _) _) _ _ _)); (fail_if_success (with_reducible show wpAny _ _ (exec (Stmt.For _ _ _ _ _) _) _ _ _)); (fail_if_success (with_reducible show wpAny _ _ (subscriptTail _ _ (Value.ref _) _) _ _ _)); (fail_if_success (with_reducible show wpAny _ _ (setItem (Value.ref _) _ _) _ _ _)); (fail_if_success (with_reducible show wpAny _ _ (compareOp CmpOp.Lt (Value.ref _) (Value.ref _)) _ _ _)); (fail_if_success (with_reducible show wpAny _ _ (call (Value.builtin "len") [Value.ref _]) _ _ _)); first | (k_unfold; (try dsimp only)) | walk1 | (dsimp only; walk1)))
      rename Fr h₀ L _ _ => F2
      rename News h₀ L _ _ => N2
      refine hret _ _ _ F2 N2 ?_
      have e9 : sup xs pos = sdown (xs₁.set p (xs.getD pos d0)) pos p := by
        unfold sup; rw [← hvl, ← hR, hfin]
      rw [e9]; exact hx₂
end Mine

namespace Mine
theorem append_led {prog : Program} {w : World} {A : Around} {E : Value → Shared → Prop} {s : Shared} {h₀ : Heap} {L l : Addr} {m : Str → Option Value} {tl : List (Addr × Obj)} {vs : List Value} {n : Nat} {v : Value} {Q : Value → Shared → Prop}
    (F : Fr h₀ L s.heap m) (N : News h₀ L s.heap ((l, listOf vs.toArray n) :: tl)) (htl : OwnOff tl [l]) (hz : vs.length ≤ 1000)
    (h : ∀ h', Fr h₀ L h' m → News h₀ L h' ((l, listOf (vs ++ [v]).toArray (n + 1)) :: tl) → Q .none { s with heap := h' }) : wpAny (model prog w) A (call (.builtin "list.append") [.ref l, v]) Q E s := by
  refine append_K F N (Upd.head fun p hp => htl p hp l (.head _)) (fun h' F' N' => h h' F' ?_) (by rw [List.size_toArray, sizeLine_eq]; omega)
  rw [List.push_toArray] at N'
  exact N'
set_option maxRecDepth 100000 in
set_option maxHeartbeats 8000000 in
theorem heappush_c (w : World) (l : Addr) (e : Nat) (tl : List (Addr × Obj)) (htl : OwnOff tl [l]) (vs : List Value) (xs : List (Int × Str)) (hx : HIs tl vs xs) (hlen : xs.length ≤ 9) (it : Addr) (new : Int × Str) (t u : Tok) (n : Nat) (hit : (it, pairO new.1 t new.2 u n) ∈ tl) :
    Calls w 101 [.ref l, .ref it] ((l, listOf vs.toArray e) :: tl) 2 (RetH l (e + 1) tl (sdown (xs ++ [new]) 0 xs.length)) := by
  have hvl := hx.len
  have hx2 : HIs tl (vs ++ [.ref it]) (xs ++ [new]) := hx.append (.cons hit .nil)
  unfold Calls; k_fill
  intro loose mean mg mb dp un gd cn cs a ccd cl outer A₀ base h₀ L m s Q E hB hF hK hN hT hk hdp hun hret
  refine wpAny_call ?_
  k_dflt cell_enter
  w_on
  (repeat' ((fail_if_success (with_reducible show wpAny _ _ (call (Value.ref _) _) _ _ _)); (fail_if_success (with_reducible show wpAny _ _ (exec (Stmt.While _ _ _ _) _) _ _ _)); (fail_if_success (with_reducible show wpAny _ _ (exec (Stmt.For _ _ _ _ _) _) _ _ _)); (fail_if_success (with_reducible show wpAny _ _ (subscriptTail _ _ (Value.ref _) _) _ _ _)); (fail_if_success (with_reducible show wpAny _ _ (setItem (Value.ref _) _ _) _ _ _)); (fail_if_success (with_reducible show wpAny _ _ (compareOp CmpOp.Lt (Value.ref _) (Value.ref _)) _ _ _)); (fail_if_success (with_reducible show wpAny _ _ (call (Value.builtin "len") [Value.ref _]) _ _ _)); (fail_if_success (with_reducible show wpAny _ _ (call (Value.builtin "list.append") _) _ _ _)); first | (k_unfold; (try dsimp only)) | walk1 | (dsimp only; walk1)))
  rename Fr _ _ _ _ => F1
  rename News _ _ _ _ => N1
  refine append_led (vs := vs) F1 N1 htl (by omega) ?_
  clear F1 N1
  intro h2 F1 N1
  have hl2 : (vs ++ [Value.ref it]).length = xs.length + 1 := by rw [List.length_append, hvl]; rfl
  (repeat' ((fail_if_success (with_reducible show wpAny _ _ (call (Value.ref _) _) _ _ _)); (fail_if_success (with_reducible show wpAny _ _ (exec (Stmt.While _ _ _ _) _) _ _ _)); (fail_if_success (with_reducible show wpAny _ _ (exec (Stmt.For _ _ _ _ _) _) _ _ _)); (fail_if_success (with_reducible show wpAny _ _ (subscriptTail _ _ (Value.ref _) _) _ _ _)); (fail_if_success (with_reducible show wpAny _ _ (setItem (Value.ref _) _ _) _ _ _)); (fail_if_success (with_reducible show wpAny _ _ (compareOp CmpOp.Lt (Value.ref _) (Value.ref _)) _ _ _)); (fail_if_success (with_reducible show wpAny _ _ (call (Value.builtin "len") [Value.ref _]) _ _ _)); (fail_if_success (with_reducible show wpAny _ _ (call (Value.builtin "list.append") _) _ _ _)); first | (k_unfold; (try dsimp only)) | walk1 | (dsimp only; walk1)))
  refine len_led (vs := vs ++ [.ref it]) N1 (.head _) (by omega) ?_
  intro t3 k3
  rw [hl2]
  (repeat' ((fail_if_success (with_reducible show wpAny _ _ (call (Value.ref _) _) _ _ _)); (fail_if_success (with_reducible show wpAny _ _ (exec (Stmt.While _ _ _ _) _) _ _ _)); (fail_if_success (with_reducible show wpAny _ _ (exec (Stmt.For _ _ _ _ _) _) _ _ _)); (fail_if_success (with_reducible show wpAny _ _ (subscriptTail _ _ (Value.ref _) _) _ _ _)); (fail_if_success (with_reducible show wpAny _ _ (setItem (Value.ref _) _ _) _ _ _)); (fail_if_success (with_reducible show wpAny _ _ (compareOp CmpOp.Lt (Value.ref _) (Value.ref _)) _ _ _)); (fail_if_success (with_reducible show wpAny _ _ (call (Value.builtin "len") [Value.ref _]) _ _ _)); (fail_if_success (with_reducible show wpAny _ _ (call (Value.builtin "list.append") _) _ _ _)); first | (k_unfold; (try dsimp only)) | walk1 | (dsimp only; walk1)))
  rename Fr _ _ _ _ => F1
  rename News _ _ _ _ => N1
  refine Calls.use (siftdown_c w l (e + 1) tl htl _ _ hx2 0 xs.length _ _ rfl (by omega) (by rw [List.length_append]; exact Nat.lt_succ_self _) (by rw [List.length_append]; exact Nat.succ_le_succ hlen) _ _) (by assumption) F1 (by assumption) N1 (by assumption) rfl ?_ ?_ ?_
  · show dp + 1 + 1 < recursionLimit
    omega
  · show un + 3 + 8 * 1 < cLine
    omega
  clear F1 N1
  intro vs₂ h3 tk3 F1 N1 hx₂
  (repeat' ((fail_if_success (with_reducible show wpAny _ _ (call (Value.ref _) _) _ _ _)); (fail_if_success (with_reducible show wpAny _ _ (exec (Stmt.While _ _ _ _) _) _ _ _)); (fail_if_success (with_reducible show wpAny _ _ (exec (Stmt.For _ _ _ _ _) _) _ _ _)); (fail_if_success (with_reducible show wpAny _ _ (subscriptTail _ _ (Value.ref _) _) _ _ _)); (fail_if_success (with_reducible show wpAny _ _ (setItem (Value.ref _) _ _) _ _ _)); (fail_if_success (with_reducible show wpAny _ _ (compareOp CmpOp.Lt (Value.ref _) (Value.ref _)) _ _ _)); (fail_if_success (with_reducible show wpAny _ _ (call (Value.builtin "len") [Value.ref _]) _ _ _)); (fail_if_success (with_reducible show wpAny _ _ (call (Value.builtin "list.append") _) _ _ _)); first | (k_unfold; (try dsimp only)) | walk1 | (dsimp only; walk1)))
  rename Fr h₀ L _ _ => F2
  rename News h₀ L _ _ => N2
  exact hret _ _ _ F2 N2 hx₂
abbrev RetR (l : Addr) (e : Nat) (tl : List (Addr × Obj)) (R : List (Int × Str)) (h₀ : Heap) (L : Addr) (m : Str → Option Value) (s : Shared) (Q : Value → Shared → Prop) : Prop :=
  ∀ (a0 : Addr) (vs : List Value) (h' : Heap) (tk' : Nat), Fr h₀ L h' m → News h₀ L h' ((l, listOf vs.toArray e) :: tl) → HIs tl vs R → Q (.ref a0) { s with heap := h', toks := tk' }
set_option maxRecDepth 100000 in
set_option maxHeartbeats 8000000 in
theorem heapreplace_c (w : World) (l : Addr) (e : Nat) (tl : List (Addr × Obj)) (htl : OwnOff tl [l]) (vs : List Value) (xs : List (Int × Str)) (hx : HIs tl vs xs) (hne : 0 < xs.length) (hlen : xs.length ≤ 9) (it : Addr) (new : Int × Str) (t u : Tok) (n : Nat) (hit : (it, pairO new.1 t new.2 u n) ∈ tl) :
    Calls w 108 [.ref l, .ref it] ((l, listOf vs.toArray e) :: tl) 3 (RetR l e tl (sup (xs.set 0 new) 0)) := by
  have hvl := hx.len
  have hx2 : HIs tl (vs.set 0 (.ref it)) (xs.set 0 new) := hx.set 0 hit
  obtain ⟨a0, w1, w2, w3, hv0, hm0⟩ := hx.get (i := 0) (getD_some hne)
  unfold Calls; k_fill
  intro loose mean mg mb dp un gd cn cs a ccd cl outer A₀ base h₀ L m s Q E hB hF hK hN hT hk hdp hun hret
  refine wpAny_call ?_
  k_dflt cell_enter
  w_on
  (repeat' ((fail_if_success (with_reducible show wpAny _ _ (call (Value.ref _) _) _ _ _)); (fail_if_success (with_reducible show wpAny _ _ (exec (Stmt.While _ _ _ _) _) _ _ _)); (fail_if_success (with_reducible show wpAny _ _ (exec (Stmt.For _ _ _ _ _) _) _ _ _)); (fail_if_success (with_reducible show wpAny _ _ (subscriptTail _ _ (Value.ref _) _) _ _ _)); (fail_if_success (with_reducible show wpAny _ _ (setItem (Value.ref _) _ _) _ _ _)); (fail_if_success (with_reducible show wpAny _ _ (compareOp CmpOp.Lt (Value.ref _) (Value.ref _)) _ _ _)); (fail_if_success (with_reducible show wpAny _ _ (call (Value.builtin "len") [Value.ref _]) _ _ _)); (fail_if_success (with_reducible show wpAny _ _ (call (Value.builtin "list.append") _) _ _ _)); first | (k_unfold; (try dsimp only)) | walk1 | (dsimp only; walk1)))
  rename News _ _ _ _ => N1
  refine item_led (vs := vs) (v := .ref a0) N1 (.head _) (by omega) (by omega) hv0 ?_
  (repeat' ((fail_if_success (with_reducible show wpAny _ _ (call (Value.ref _) _) _ _ _)); (fail_if_success (with_reducible show wpAny _ _ (exec (Stmt.While _ _ _ _) _) _ _ _)); (fail_if_success (with_reducible show wpAny _ _ (exec (Stmt.For _ _ _ _ _) _) _ _ _)); (fail_if_success (with_reducible show wpAny _ _ (subscriptTail _ _ (Value.ref _) _) _ _ _)); (fail_if_success (with_reducible show wpAny _ _ (setItem (Value.ref _) _ _) _ _ _)); (fail_if_success (with_reducible show wpAny _ _ (compareOp CmpOp.Lt (Value.ref _) (Value.ref _)) _ _ _)); (fail_if_success (with_reducible show wpAny _ _ (call (Value.builtin "len") [Value.ref _]) _ _ _)); (fail_if_success (with_reducible show wpAny _ _ (call (Value.builtin "list.append") _) _ _ _)); first | (k_unfold; (try dsimp only)) | walk1 | (dsimp only; walk1)))
  rename Fr _ _ _ _ => F1
  rename News _ _ _ _ => N1
  refine set_led (vs := vs) F1 N1 htl (by omega) (by omega) (by omega) ?_
  clear F1 N1
  intro h2 F1 N1
  (repeat' ((fail_if_success (with_reducible show wpAny _ _ (call (Value.ref _) _) _ _ _)); (fail_if_success (with_reducible show wpAny _ _ (exec (Stmt.While _ _ _ _) _) _ _ _)); (fail_if_success (with_reducible show wpAny _ _ (exec (Stmt.For _ _ _ _ _) _) _ _ _)); (fail_if_success (with_reducible show wpAny _ _ (subscriptTail _ _ (Value.ref _) _) _ _ _)); (fail_if_success (with_reducible show wpAny _ _ (setItem (Value.ref _) _ _) _ _ _)); (fail_if_success (with_reducible show wpAny _ _ (compareOp CmpOp.Lt (Value.ref _) (Value.ref _)) _ _ _)); (fail_if_success (with_reducible show wpAny _ _ (call (Value.builtin "len") [Value.ref _]) _ _ _)); (fail_if_success (with_reducible show wpAny _ _ (call (Value.builtin "list.append") _) _ _ _)); first | (k_unfold; (try dsimp only)) | walk1 | (dsimp only; walk1)))
  rename Fr _ _ _ _ => F1
  rename News _ _ _ _ => N1
  refine Calls.use (siftup_c w l e tl htl _ _ hx2 0 _ rfl (by rw [List.length_set]; exact hne) (by rw [List.length_set]; omega) _) (by assumption) F1 (by assumption) N1 (by assumption) rfl ?_ ?_ ?_
  · show dp + 1 + 2 < recursionLimit
    omega
  · show un + 3 + 8 * 2 < cLine
    omega
  clear F1 N1
  intro vs₂ h3 tk3 F1 N1 hx₂
  (repeat' ((fail_if_success (with_reducible show wpAny _ _ (call (Value.ref _) _) _ _ _)); (fail_if_success (with_reducible show wpAny _ _ (exec (Stmt.While _ _ _ _) _) _ _ _)); (fail_if_success (with_reducible show wpAny _ _ (exec (Stmt.For _ _ _ _ _) _) _ _ _)); (fail_if_success (with_reducible show wpAny _ _ (subscriptTail _ _ (Value.ref _) _) _ _ _)); (fail_if_success (with_reducible show wpAny _ _ (setItem (Value.ref _) _ _) _ _ _)); (fail_if_success (with_reducible show wpAny _ _ (compareOp CmpOp.Lt (Value.ref _) (Value.ref _)) _ _ _)); (fail_if_success (with_reducible show wpAny _ _ (call (Value.builtin "len") [Value.ref _]) _ _ _)); (fail_if_success (with_reducible show wpAny _ _ (call (Value.builtin "list.append") _) _ _ _)); first | (k_unfold; (try dsimp only)) | walk1 | (dsimp only; walk1)))
  rename Fr h₀ L _ _ => F2
  rename News h₀ L _ _ => N2
  exact hret _ _ _ _ F2 N2 hx₂
end Mine

namespace Mine
theorem allLt_to {d : Addr} {l : List (Addr × Obj)} (h : AllLt d l) : ∀ p ∈ l, p.1 < d := by
  induction l with
  | nil => intro p hp; cases hp
  | cons q l ih =>
    intro p hp
    rcases List.mem_cons.mp hp with rfl | hp
    · exact h.1
    · exact ih h.2 p hp
structure WSt where
  cs : List Int
  b : Nat
  n : Nat
  nt : Nat
def grow (cs : List Int) (b : Nat) : List Int := if cs.length ≤ b then cs ++ List.replicate (b - cs.length + 1) 0 else cs
def bump (cs : List Int) (b : Nat) : List Int := (grow cs b).set b ((grow cs b).getD b 0 + 1)
def wsStep (s : WSt) (c : Nat) : WSt := if c = 32 then ⟨s.cs, s.b + 1, s.n + 1, s.nt⟩ else ⟨bump s.cs s.b, 0, s.n + 1, s.nt + 1⟩
def wsRun (l : List Nat) : WSt := l.foldl wsStep ⟨[], 0, 0, 0⟩
theorem wsRun_snoc (l : List Nat) (c : Nat) : wsRun (l ++ [c]) = wsStep (wsRun l) c := by unfold wsRun; rw [List.foldl_append]; rfl
theorem grow_len (cs : List Int) (b : Nat) : (grow cs b).length = max cs.length (b + 1) := by
  unfold grow; split
  · rw [List.length_append, List.length_replicate]; omega
  · omega
theorem bump_len (cs : List Int) (b : Nat) : (bump cs b).length = max cs.length (b + 1) := by unfold bump; rw [List.length_set, grow_len]
theorem wsRun_bd (l : List Nat) : (wsRun l).b ≤ l.length ∧ (wsRun l).cs.length ≤ l.length ∧ (wsRun l).n = l.length ∧ (wsRun l).nt ≤ l.length := by
  rw [← List.reverse_reverse l]
  generalize l.reverse = r
  induction r with
  | nil => exact ⟨Nat.le_refl _, Nat.le_refl _, rfl, Nat.le_refl _⟩
  | cons c r ih =>
    rw [List.reverse_cons, wsRun_snoc, List.length_append]
    unfold wsStep
    split
    · refine ⟨?_, ?_, ?_, ?_⟩ <;> simp only [List.length_singleton] <;> omega
    · refine ⟨?_, ?_, ?_, ?_⟩ <;> simp only [List.length_singleton, bump_len] <;> omega
abbrev JW (I : Addr) (bts : List Nat) (base : List (Addr × Obj)) (i : Nat) (m : Str → Option Value) (nx : List (Addr × Obj)) : Prop :=
  i ≤ bts.length ∧ ∃ C vs e tb tn tt, nx = (C, listOf vs.toArray e) :: base ∧ IntsAre vs (wsRun (bts.take i)).cs ∧ OwnOff base [C] ∧ m (Str.ofString "self") = some (.ref I) ∧ m (Str.ofString "S") = some (.str (Str.ofString " ") 209) ∧ m (Str.ofString "T") = some (.str (Str.ofString "\t") 210) ∧
    m (Str.ofString "count") = some (.ref C) ∧ m (Str.ofString "b") = some (.int ((wsRun (bts.take i)).b : Int) tb) ∧ m (Str.ofString "n") = some (.int ((wsRun (bts.take i)).n : Int) tn) ∧ m (Str.ofString "nt") = some (.int ((wsRun (bts.take i)).nt : Int) tt)
theorem nW {h₀ h : Heap} {L : Addr} {a b c d e : Addr × Obj} {news own : List (Addr × Obj)} (N : News h₀ L h (a :: b :: c :: d :: e :: (news ++ own))) : News h₀ L h (d :: e :: a :: b :: news) := fun p hp => N p (by
  simp only [List.mem_cons, List.mem_append] at hp ⊢
  rcases hp with hp | hp | hp | hp | hp
  · exact .inr (.inr (.inr (.inl hp)))
  · exact .inr (.inr (.inr (.inr (.inl hp))))
  · exact .inl hp
  · exact .inr (.inl hp)
  · exact .inr (.inr (.inr (.inr (.inr (.inl hp))))))
abbrev wsDict (w : World) (ws : Str) (t : Tok) (st : WSt) (N : Addr) (k1 k2 k3 k4 k5 tn tt : Tok) (sm : Bool) : Obj :=
  dictOf [⟨PyData.keyHash w.params (Str.ofString "raw"), .str (Str.ofString "raw") k1, .str ws t⟩, ⟨PyData.keyHash w.params (Str.ofString "n"), .str (Str.ofString "n") k2, .int (st.n : Int) tn⟩, ⟨PyData.keyHash w.params (Str.ofString "nt"), .str (Str.ofString "nt") k3, .int (st.nt : Int) tt⟩,
    ⟨PyData.keyHash w.params (Str.ofString "norm"), .str (Str.ofString "norm") k4, .ref N⟩, ⟨PyData.keyHash w.params (Str.ofString "is_simple"), .str (Str.ofString "is_simple") k5, .bool sm⟩] 5
abbrev wsLed (w : World) (ws : Str) (t : Tok) (st : WSt) (news : List (Addr × Obj)) (I D N CT : Addr) (vs : List Value) (k1 k2 k3 k4 k5 tn tt tb : Tok) (sm : Bool) : List (Addr × Obj) :=
  (I, instObj 83 D) :: (D, wsDict w ws t st N k1 k2 k3 k4 k5 tn tt sm) :: (N, ({ cls := .type "tuple", data := .seq #[.ref CT, .int (st.b : Int) tb] } : Obj)) :: (CT, ({ cls := .type "tuple", data := .seq vs.toArray } : Obj)) :: news
abbrev RetW (w : World) (ws : Str) (t : Tok) (st : WSt) (news : List (Addr × Obj)) (h₀ : Heap) (L : Addr) (m : Str → Option Value) (s : Shared) (Q : Value → Shared → Prop) : Prop :=
  ∀ (I D N CT : Addr) (vs : List Value) (k1 k2 k3 k4 k5 tn tt tb : Tok) (sm : Bool) (h' : Heap) (tk' : Nat), Fr h₀ L h' m → News h₀ L h' (wsLed w ws t st news I D N CT vs k1 k2 k3 k4 k5 tn tt tb sm) → IntsAre vs st.cs → Q (.ref I) { s with heap := h', toks := tk' }
set_option maxRecDepth 100000 in
set_option maxHeartbeats 8000000 in
theorem ws_c (w : World) (ws : Str) (t : Tok) (bts : List Nat) (hws : ws.cps.toList = bts ++ [120]) (hb : ∀ c ∈ bts, c = 32 ∨ c = 9) (hl : bts.length ≤ 20) (news : List (Addr × Obj)) :
    Calls w 83 [.str ws t] news 1 (RetW w ws t (wsRun bts) news) := by
  unfold Calls; k_fill
  intro loose mean mg mb dp un gd cn cs a ccd cl outer A₀ base h₀ L m s Q E hB hF hK hN hT hk hdp hun hret
  w_on
  k_dflt (refine' call_cls ?k1 ?k2 ?k3 ?k4 ?k5 ?k6 ?_; (case k1 => exact hF); (case k2 => exact hK); (case k3 => exact hN); (case k4 => k_is); (case k5 => k_is); (case k6 => k_is))
  intro I D h1 F1 N1 l1 l2
  have hno : OwnOff news [I, D] := by
    intro p hp b hb
    simp only [List.mem_cons, List.not_mem_nil, or_false] at hb
    rcases hb with hb | hb
    · rw [hb]; exact Nat.ne_of_lt (Nat.lt_trans (l1 p hp) l2)
    · rw [hb]; exact Nat.ne_of_lt (l1 p hp)
  replace l2 := ltN l2
  k_dflt cell_enter
  (repeat' ((fail_if_success (with_reducible show wpAny _ _ (call (Value.ref _) _) _ _ _)); (fail_if_success (with_reducible show wpAny _ _ (exec (Stmt.While _ _ _ _) _) _ _ _)); (fail_if_success (with_reducible show wpAny _ _ (exec (Stmt.For _ _ _ _ _) _) _ _ _)); (fail_if_success (with_reducible show wpAny _ _ (call (Value.type "tuple") _) _ _ _)); first | (k_unfold; (try dsimp only)) | walk1 | (dsimp only; walk1)))
  rename Fr _ _ _ _ => F1
  rename News _ _ _ _ => N1
  rename_i C _ _ _ _ _ _
  rename _ < _ ∧ _ < _ ∧ _ < _ ∧ AllLt _ _ => lC
  refine For_invVF F1 rfl rfl ?_
  (repeat' ((fail_if_success (with_reducible show wpAny _ _ (pyIter _) _ _ _)); first | (k_unfold; (try dsimp only)) | walk1 | (dsimp only; walk1)))
  rename News _ _ _ _ => N1
  refine str_inv (JW I bts _) rfl F1 (nSk N1) ⟨Nat.zero_le _, C, [], 0, _, _, _, rfl, .nil, ?_, rfl, rfl, rfl, rfl, rfl, rfl, rfl⟩ ?_ ?_
  · have hlt := fun p hp => allLt_to lC.2.2.2 p hp
    intro p hp b hb
    rw [List.mem_singleton.mp hb]
    simp only [List.mem_cons] at hp
    rcases hp with rfl | rfl | hp
    · exact Nat.ne_of_lt lC.2.1
    · exact Nat.ne_of_lt lC.2.2.1
    · exact Nat.ne_of_lt (hlt p hp)
  · clear F1 N1
    rintro i c t' m₁ nx h tk' own hc hoff ⟨hi, C1, vs, e, tb, tn, tt, rfl, hvs, hoC, hm1, hm2, hm3, hm4, hm5, hm6, hm7⟩ F1 N1
    have hc' : (bts ++ [120])[i]? = some c := by rw [← hws, Array.getElem?_toList]; exact hc
    obtain ⟨hb1, hb2, hb3, hb4⟩ := wsRun_bd (bts.take i)
    have htl := List.length_take_le i bts
    generalize hst0 : wsRun (bts.take i) = st at *
    simp only [List.cons_append] at N1
    have hCI := neN (hoC _ (.head _) C1 (.head _))
    have hCD := neN (hoC _ (.tail _ (.head _)) C1 (.head _))
    have hno2 : OwnOff (news ++ own) [C1, I, D] := by
      intro p hp b hb
      rcases List.mem_append.mp hp with hp | hp
      · rcases List.mem_cons.mp hb with rfl | hb
        · exact hoC p (.tail _ (.tail _ hp)) _ (.head _)
        · exact hno p hp b hb
      · refine hoff p hp b ?_
        simp only [List.mem_cons, List.not_mem_nil, or_false] at hb
        rcases hb with rfl | rfl | rfl <;> simp
    replace F1 := frB8 (x0 := Str.ofString "ch") (x1 := Str.ofString "self") (x2 := Str.ofString "S") (x3 := Str.ofString "T") (x4 := Str.ofString "count") (x5 := Str.ofString "b") (x6 := Str.ofString "n") (x7 := Str.ofString "nt") F1 rfl hm1 hm2 hm3 hm4 hm5 hm6 hm7
    by_cases hib : i < bts.length
    · have hcb : bts[i]? = some c := by rw [List.getElem?_append_left hib] at hc'; exact hc'
      have hst : bts.take (i + 1) = bts.take i ++ [c] := by rw [List.take_add_one, hcb]; rfl
      rcases hb c (List.mem_of_getElem? hcb) with rfl | rfl
      · have hs2 : wsRun (bts.take (i + 1)) = ⟨st.cs, st.b + 1, st.n + 1, st.nt⟩ := by rw [hst, wsRun_snoc, hst0]; rfl
        (repeat' ((fail_if_success (with_reducible show wpAny _ _ (call (Value.ref _) _) _ _ _)); (fail_if_success (with_reducible show wpAny _ _ (exec (Stmt.While _ _ _ _) _) _ _ _)); (fail_if_success (with_reducible show wpAny _ _ (exec (Stmt.For _ _ _ _ _) _) _ _ _)); (fail_if_success (with_reducible show wpAny _ _ (call (Value.type "tuple") _) _ _ _)); first | (k_unfold; (try dsimp only)) | walk1 | (dsimp only; walk1)))
        rename Fr _ _ _ _ => F2
        rename News _ _ _ _ => N2
        refine endG3 F2 N2 ⟨hib, C1, vs, e, _, _, _, rfl, ?_, hoC, rfl, rfl, rfl, rfl, vint ?_, vint ?_, vint ?_⟩ hoff
        all_goals rw [hs2]
        · exact hvs
        · exact (Int.natCast_add _ _).symm
        · exact (Int.natCast_add _ _).symm
      · have hs2 : wsRun (bts.take (i + 1)) = ⟨bump st.cs st.b, 0, st.n + 1, st.nt + 1⟩ := by rw [hst, wsRun_snoc, hst0]; rfl
        by_cases hg : st.cs.length ≤ st.b
        · have hgr : grow st.cs st.b = st.cs ++ (List.replicate ((st.b : Int) - st.cs.length + 1).toNat [(0 : Int)]).flatten := by
            unfold grow
            rw [if_pos hg]
            have e1 : ((st.b : Int) - st.cs.length + 1).toNat = st.b - st.cs.length + 1 := by omega
            rw [e1]
            generalize st.b - st.cs.length + 1 = k
            congr 1
            induction k with
            | zero => rfl
            | succ k ih => rw [List.replicate_succ, List.replicate_succ, List.flatten_cons, ih]; rfl
          (repeat' ((fail_if_success (with_reducible show wpAny _ _ (call (Value.ref _) _) _ _ _)); (fail_if_success (with_reducible show wpAny _ _ (exec (Stmt.While _ _ _ _) _) _ _ _)); (fail_if_success (with_reducible show wpAny _ _ (exec (Stmt.For _ _ _ _ _) _) _ _ _)); (fail_if_success (with_reducible show wpAny _ _ (call (Value.type "tuple") _) _ _ _)); first | (k_unfold; (try dsimp only)) | walk1 | (dsimp only; walk1)))
          rename Fr _ _ _ _ => F2
          rename News _ _ _ _ => N2
          rename IntsAre _ _ => hI2
          rename _ ∧ _ ∧ _ ∧ _ ∧ _ ∧ AllLt _ _ => lX
          have lN := allLt_to lX.2.2.2.2.2
          rw [← hgr] at hI2 N2
          refine endG3 F2 (nSk (nSk (nSk N2))) ⟨hib, _, _, _, _, _, _, rfl, ?_, ?_, rfl, rfl, rfl, rfl, vint ?_, vint ?_, vint ?_⟩ ?_
          · rw [hs2]; exact hI2
          · intro p hp b hb
            rw [List.mem_singleton.mp hb]
            simp only [List.mem_cons] at hp
            rcases hp with rfl | rfl | hp
            · exact Nat.ne_of_lt lX.2.2.2.1
            · exact Nat.ne_of_lt lX.2.2.2.2.1
            · exact Nat.ne_of_lt (lN p (List.mem_append.mpr (.inl hp)))
          · rw [hs2]; rfl
          · rw [hs2]; exact (Int.natCast_add _ _).symm
          · rw [hs2]; exact (Int.natCast_add _ _).symm
          · intro p hp b hb
            simp only [List.map_cons, List.mem_cons] at hb
            rcases hb with rfl | hb
            · exact Nat.ne_of_lt (lN p (List.mem_append.mpr (.inr hp)))
            · exact hoff p hp b (by simp only [List.map_cons, List.mem_cons]; exact .inr hb)
        · have hgr : grow st.cs st.b = st.cs := by unfold grow; rw [if_neg hg]
          (repeat' ((fail_if_success (with_reducible show wpAny _ _ (call (Value.ref _) _) _ _ _)); (fail_if_success (with_reducible show wpAny _ _ (exec (Stmt.While _ _ _ _) _) _ _ _)); (fail_if_success (with_reducible show wpAny _ _ (exec (Stmt.For _ _ _ _ _) _) _ _ _)); (fail_if_success (with_reducible show wpAny _ _ (call (Value.type "tuple") _) _ _ _)); first | (k_unfold; (try dsimp only)) | walk1 | (dsimp only; walk1)))
          rename Fr _ _ _ _ => F2
          rename News _ _ _ _ => N2
          rename IntsAre _ _ => hI2
          refine endG3 F2 N2 ⟨hib, C1, _, e, _, _, _, rfl, ?_, hoC, rfl, rfl, rfl, rfl, vint ?_, vint ?_, vint ?_⟩ hoff
          all_goals rw [hs2]
          · show IntsAre _ (bump st.cs st.b)
            unfold bump; rw [hgr]; exact hI2
          · rfl
          · exact (Int.natCast_add _ _).symm
          · exact (Int.natCast_add _ _).symm
    · have hib' : i = bts.length := by omega
      subst hib'
      have hcx : c = 120 := by rw [List.getElem?_append_right (Nat.le_refl _), Nat.sub_self] at hc'; exact (Option.some.inj hc').symm
      subst hcx
      rw [List.take_length] at hst0
      (repeat' ((fail_if_success (with_reducible show wpAny _ _ (call (Value.ref _) _) _ _ _)); (fail_if_success (with_reducible show wpAny _ _ (exec (Stmt.While _ _ _ _) _) _ _ _)); (fail_if_success (with_reducible show wpAny _ _ (exec (Stmt.For _ _ _ _ _) _) _ _ _)); (fail_if_success (with_reducible show wpAny _ _ (call (Value.type "tuple") _) _ _ _)); first | (k_unfold; (try dsimp only)) | walk1 | (dsimp only; walk1)))
      rename Fr _ _ _ _ => F2
      rename News _ _ _ _ => N2
      refine kde_tupleOf (items := vs.toArray) (zs := vs) F2 N2 (News.isList N2 (.head _)) (by rw [List.size_toArray, hvs.length]; omega) rfl ?_
      clear F2 N2
      intro CT h2 F2 N2 l3
      replace l3 := allLt_of l3
      simp only [AllLt] at l3
      (repeat' ((fail_if_success (with_reducible show wpAny _ _ (call (Value.ref _) _) _ _ _)); (fail_if_success (with_reducible show wpAny _ _ (exec (Stmt.While _ _ _ _) _) _ _ _)); (fail_if_success (with_reducible show wpAny _ _ (exec (Stmt.For _ _ _ _ _) _) _ _ _)); (fail_if_success (with_reducible show wpAny _ _ (call (Value.type "tuple") _) _ _ _)); first | (k_unfold; (try dsimp only)) | walk1 | (dsimp only; walk1)))
      rename Fr h₀ L _ _ => F3
      rename News h₀ L _ _ => N3
      subst hst0
      exact hret _ _ _ _ _ _ _ _ _ _ _ _ _ _ _ _ F3 (nW N3) hvs
  · rintro m₁ nx h tk' ⟨hi, _⟩ _ _
    exfalso
    have e : ws.cps.size = bts.length + 1 := by rw [← Array.length_toList, hws, List.length_append]; rfl
    omega
end Mine

namespace Mine
def ilGo (cs : List Int) (z : Nat) : Nat → Int
  | 0 => 0
  | k + 1 => ilGo cs z k + (((z + k) / z : Nat) : Int) * cs.getD (z + k) 0
def ilev (st : WSt) (z : Nat) : Int := (st.b : Int) + (z : Int) * (ilGo st.cs z (st.cs.length - z) + (st.nt : Int))
abbrev RetI (x : Int) (news : List (Addr × Obj)) (h₀ : Heap) (L : Addr) (m : Str → Option Value) (s : Shared) (Q : Value → Shared → Prop) : Prop :=
  ∀ (t : Tok) (h' : Heap) (tk' : Nat), Fr h₀ L h' m → News h₀ L h' news → Q (.int x t) { s with heap := h', toks := tk' }
section
variable {prog : Program} {w : World} {A : Around} {E : Value → Shared → Prop} {s : Shared} {h₀ : Heap} {L T : Addr} {news : List (Addr × Obj)} {vs : List Value} {ns : List Int} {n : Nat} {k : Int} {u : Tok}
theorem len_tupL {Q : Value → Shared → Prop} (N : News h₀ L s.heap news) (hm : (T, ({ cls := .type "tuple", data := .seq vs.toArray n } : Obj)) ∈ news) (hi : IntsAre vs ns) (hz : ns.length < 2 ^ 62) (h : ∀ t k, Q (.int (ns.length : Int) t) { s with toks := k }) :
    wpAny (model prog w) A (call (.builtin "len") [.ref T]) Q E s := by
  have e : vs.toArray.size = ns.length := by rw [List.size_toArray]; exact hi.length
  refine PyProof.Rows.len_tuple ⟨_, (N _ hm).1, rfl, n, rfl⟩ (by rw [e]; omega) ?_
  rw [e]; exact h _ _
theorem item_tupL {value slice : PySem.Expr} {Q : Value → Shared → Prop} (N : News h₀ L s.heap news) (hm : (T, ({ cls := .type "tuple", data := .seq vs.toArray n } : Obj)) ∈ news) (hi : IntsAre vs ns) (h0 : 0 ≤ k) (h1 : k < ns.length) (hk : k < 2 ^ 62) (h : ∀ t, Q (.int (ns.getD k.toNat 0) t) s)
    (hs : subscripted slice false (.ref T) (.int k u) = operate [.ref T, .int k u] (getItem (.ref T) (.int k u)) := by with_unfolding_all rfl) :
    wpAny (model prog w) A (subscriptTail value slice (.ref T) (.int k u)) Q E s := by
  have e : vs.length = ns.length := hi.length
  have hj : k.toNat < ns.length := by omega
  obtain ⟨t, ht⟩ := hi.get k.toNat (ns.getD k.toNat 0) (by rw [List.getD_eq_getElem?_getD, List.getElem?_eq_getElem hj]; rfl)
  refine item_tupleT ⟨_, (N _ hm).1, rfl, n, rfl⟩ (by omega) (by omega) (j := k.toNat) ?_ ht (h t) hs
  have e1 : (if k < 0 then k + (vs.length : Int) else k) = k := if_neg (by omega)
  have e2 : (decide (0 ≤ k) && decide (k < (vs.length : Int))) = true := by rw [decide_eq_true h0, decide_eq_true (by omega)]; rfl
  show (if (decide (0 ≤ (if k < 0 then k + (vs.length : Int) else k)) && decide ((if k < 0 then k + (vs.length : Int) else k) < (vs.length : Int))) = true then some (if k < 0 then k + (vs.length : Int) else k).toNat else none) = some k.toNat
  rw [e1, e2, if_pos rfl]
end
abbrev JI (I CT : Addr) (st : WSt) (z : Nat) (tz tb : Tok) (led : List (Addr × Obj)) (i : Nat) (m : Str → Option Value) (nx : List (Addr × Obj)) : Prop :=
  nx = led ∧ ∃ t, m (Str.ofString "self") = some (.ref I) ∧ m (Str.ofString "tabsize") = some (.int (z : Int) tz) ∧ m (Str.ofString "count") = some (.ref CT) ∧ m (Str.ofString "trailing") = some (.int (st.b : Int) tb) ∧ m (Str.ofString "il") = some (.int (ilGo st.cs z i) t)
set_option maxRecDepth 100000 in
set_option maxHeartbeats 8000000 in
theorem indent_c (w : World) (ws : Str) (t : Tok) (st : WSt) (news : List (Addr × Obj)) (I D N CT : Addr) (vs : List Value) (k1 k2 k3 k4 k5 tn tt tb : Tok) (sm : Bool) (hvs : IntsAre vs st.cs) (hcl : st.cs.length ≤ 30) (z : Nat) (zi : Int) (hzi : zi = (z : Int)) (hz : 1 ≤ z) (hz6 : z ≤ 6) (tz : Tok) :
    Calls w 52 [.ref I, .int zi tz] (wsLed w ws t st news I D N CT vs k1 k2 k3 k4 k5 tn tt tb sm) 1 (RetI (ilev st z) news) := by
  subst hzi
  unfold Calls; k_fill
  intro loose mean mg mb dp un gd cn cs a ccd cl outer A₀ base h₀ L m s Q E hB hF hK hN hT hk hdp hun hret
  refine wpAny_call ?_
  k_dflt cell_enter
  w_on
  (repeat' ((fail_if_success (with_reducible show wpAny _ _ (call (Value.ref _) _) _ _ _)); (fail_if_success (with_reducible show wpAny _ _ (exec (Stmt.While _ _ _ _) _) _ _ _)); (fail_if_success (with_reducible show wpAny _ _ (exec (Stmt.For _ _ _ _ _) _) _ _ _)); first | (k_unfold; (try dsimp only)) | walk1 | (dsimp only; walk1)))
  rename Fr _ _ _ _ => F1
  rename News _ _ _ _ => N1
  refine For_invVF F1 rfl rfl ?_
  (repeat' ((fail_if_success (with_reducible show wpAny _ _ (call (Value.builtin "len") [Value.ref _]) _ _ _)); (fail_if_success (with_reducible show wpAny _ _ (call (Value.type "range") _) _ _ _)); first | (k_unfold; (try dsimp only)) | walk1 | (dsimp only; walk1)))
  rename News _ _ _ _ => N1
  refine len_tupL N1 (.tail _ (.tail _ (.tail _ (.head _)))) hvs (by omega) ?_
  intro t2 tk2
  (repeat' ((fail_if_success (with_reducible show wpAny _ _ (call (Value.builtin "len") [Value.ref _]) _ _ _)); (fail_if_success (with_reducible show wpAny _ _ (call (Value.type "range") _) _ _ _)); first | (k_unfold; (try dsimp only)) | walk1 | (dsimp only; walk1)))
  rename Fr _ _ _ _ => F1
  rename News _ _ _ _ => N1
  refine range2_rows F1 N1 ?_
  intro h2 tk2 u1 u2 u3 R2 F2 N2 _
  clear F1 N1
  (try dsimp only)
  refine range_inv (st.cs.length - z) (JI I CT st z tz tb _) rfl R2 (small_one (by omega) (by omega) (by omega) (by omega)) (by omega) F2 N2 ⟨rfl, _, rfl, rfl, rfl, rfl, rfl⟩ ?_ ?_
  · clear F2 N2 R2
    rintro i ti m₁ nx h tk own hi hoff ⟨rfl, t3, hm1, hm2, hm3, hm4, hm5⟩ F1 N1
    replace F1 := frB6 (x0 := Str.ofString "i") (x1 := Str.ofString "self") (x2 := Str.ofString "tabsize") (x3 := Str.ofString "count") (x4 := Str.ofString "trailing") (x5 := Str.ofString "il") F1 rfl hm1 hm2 hm3 hm4 hm5
    simp only [wsLed, List.cons_append] at N1
    (repeat' ((fail_if_success (with_reducible show wpAny _ _ (subscriptTail _ _ (Value.ref _) _) _ _ _)); first | (k_unfold; (try dsimp only)) | walk1 | (dsimp only; walk1)))
    have hq : ((z : Int) + (i : Int)).fdiv (z : Int) = (((z + i) / z : Nat) : Int) := by
      rw [Int.fdiv_eq_ediv_of_nonneg _ (by omega)]; exact (Int.natCast_ediv (z + i) z).symm
    have hqb : (z + i) / z ≤ 30 := Nat.le_trans (Nat.div_le_self _ _) (by omega)
    rw [hq]
    rename News _ _ _ _ => N2
    refine item_tupL N2 (.tail _ (.tail _ (.tail _ (.head _)))) hvs (by omega) (by omega) (by omega) ?_
    intro t4
    have hzi : ((z : Int) + (i : Int)).toNat = z + i := by omega
    rw [hzi]
    have hsuc : ilGo st.cs z (i + 1) = ilGo st.cs z i + (((z + i) / z : Nat) : Int) * st.cs.getD (z + i) 0 := rfl
    generalize (z + i) / z = q at *
    (repeat' ((fail_if_success (with_reducible show wpAny _ _ (subscriptTail _ _ (Value.ref _) _) _ _ _)); first | (k_unfold; (try dsimp only)) | walk1 | (dsimp only; walk1)))
    rename Fr _ _ _ _ => F2
    rename News _ _ _ _ => N2
    exact endG4 F2 N2 ⟨rfl, _, rfl, rfl, rfl, rfl, vint hsuc.symm⟩ hoff
  · clear F2 N2 R2
    rintro m₁ nx h tk ⟨rfl, t3, hm1, hm2, hm3, hm4, hm5⟩ F1 N1
    replace F1 := frB5 F1 hm1 hm2 hm3 hm4 hm5
    (repeat' ((fail_if_success (with_reducible show wpAny _ _ (subscriptTail _ _ (Value.ref _) _) _ _ _)); first | (k_unfold; (try dsimp only)) | walk1 | (dsimp only; walk1)))
    rename Fr h₀ L _ _ => F3
    rename News h₀ L _ _ => N3
    exact hret _ _ _ F3 (nTl (nTl (nTl (nTl N3))))
end Mine

namespace Mine
theorem frA2 {h₀ h : Heap} {L : Addr} {m : Str → Option Value} (x0 x1 : Str) {v0 v1 : Value} (F : Fr h₀ L h m) (h0 : m x0 = some v0) (h1 : m x1 = some v1) : ∃ mm, Fr h₀ L h mm ∧ mm x0 = some v0 ∧ mm x1 = some v1 := ⟨m, F, h0, h1⟩
theorem frA3 {h₀ h : Heap} {L : Addr} {m : Str → Option Value} (x0 x1 x2 : Str) {v0 v1 v2 : Value} (F : Fr h₀ L h m) (h0 : m x0 = some v0) (h1 : m x1 = some v1) (h2 : m x2 = some v2) : ∃ mm, Fr h₀ L h mm ∧ mm x0 = some v0 ∧ mm x1 = some v1 ∧ mm x2 = some v2 := ⟨m, F, h0, h1, h2⟩
theorem frA4 {h₀ h : Heap} {L : Addr} {m : Str → Option Value} (x0 x1 x2 x3 : Str) {v0 v1 v2 v3 : Value} (F : Fr h₀ L h m) (h0 : m x0 = some v0) (h1 : m x1 = some v1) (h2 : m x2 = some v2) (h3 : m x3 = some v3) : ∃ mm, Fr h₀ L h mm ∧ mm x0 = some v0 ∧ mm x1 = some v1 ∧ mm x2 = some v2 ∧ mm x3 = some v3 := ⟨m, F, h0, h1, h2, h3⟩
theorem frA5 {h₀ h : Heap} {L : Addr} {m : Str → Option Value} (x0 x1 x2 x3 x4 : Str) {v0 v1 v2 v3 v4 : Value} (F : Fr h₀ L h m) (h0 : m x0 = some v0) (h1 : m x1 = some v1) (h2 : m x2 = some v2) (h3 : m x3 = some v3) (h4 : m x4 = some v4) : ∃ mm, Fr h₀ L h mm ∧ mm x0 = some v0 ∧ mm x1 = some v1 ∧ mm x2 = some v2 ∧ mm x3 = some v3 ∧ mm x4 = some v4 := ⟨m, F, h0, h1, h2, h3, h4⟩
theorem nKeep2 {h₀ h : Heap} {L : Addr} {x a b : Addr × Obj} {tl : List (Addr × Obj)} (N : News h₀ L h (x :: a :: b :: tl)) : News h₀ L h (x :: tl) := fun p hp => N p (by
  rcases List.mem_cons.mp hp with rfl | hp
  · exact .head _
  · exact .tail _ (.tail _ (.tail _ hp)))
theorem told3 (ns : List Int) : ∃ n0 n1 n2, List.take 3 ns ++ List.drop ns.length [1083, 1, 3] = [n0, n1, n2] := by
  match ns with
  | [] => exact ⟨_, _, _, rfl⟩
  | [a] => exact ⟨_, _, _, rfl⟩
  | [a, b] => exact ⟨_, _, _, rfl⟩
  | a :: b :: c :: r => exact ⟨a, b, c, by simp⟩
def toS (l : List Nat) : Str := ⟨l.toArray⟩
theorem toS_cps (l : List Nat) : (toS l).cps.toList = l := rfl
theorem toS_self (x : Str) : toS x.cps.toList = x := rfl
theorem toS_app (a b : List Nat) : toS a ++ toS b = toS (a ++ b) := by
  have h : (toS a ++ toS b).cps.toList = (toS (a ++ b)).cps.toList := by rw [Str.cps_append, Array.toList_append]; rfl
  calc toS a ++ toS b = toS (toS a ++ toS b).cps.toList := rfl
    _ = toS (toS (a ++ b)).cps.toList := by rw [h]
    _ = toS (a ++ b) := rfl
theorem sgW_chars (n : Nat) : ∀ c ∈ sgW n, c = 32 ∨ c = 9 := by
  induction n using Nat.strongRecOn with
  | ind n ih =>
    by_cases h : n ≤ 1
    · rw [sgW_lo h]; intro c hc; cases hc
    · rw [sgW_hi h]
      intro c hc
      rcases List.mem_cons.mp hc with rfl | hc
      · split
        · exact .inr rfl
        · exact .inl rfl
      · exact ih (n / 2) (by omega) c hc
theorem sgW_log (n k : Nat) (h : n < 2 ^ (k + 1)) : (sgW n).length ≤ k := by
  induction k generalizing n with
  | zero => rw [sgW_lo (by omega)]; exact Nat.le_refl _
  | succ k ih =>
    by_cases h1 : n ≤ 1
    · rw [sgW_lo h1]; exact Nat.zero_le _
    · rw [sgW_hi h1, List.length_cons]
      have := ih (n / 2) (by rw [Nat.pow_succ] at h; omega)
      omega
/-- the column after the signs l -/
def colN (z : Nat) (l : List Nat) : Int := l.foldl (fun c ch => if ch = 32 then c + 1 else c + ((z : Int) - c.fmod (z : Int))) 0
theorem colN_snoc (z : Nat) (l : List Nat) (c : Nat) : colN z (l ++ [c]) = if c = 32 then colN z l + 1 else colN z l + ((z : Int) - (colN z l).fmod (z : Int)) := by
  unfold colN; rw [List.foldl_append]; rfl
theorem chr_eq (c : Nat) : ((⟨#[c]⟩ : Str) = Str.ofString " ") ↔ c = 32 := by
  constructor
  · intro h
    have := congrArg (fun x : Str => x.cps.toList) h
    exact (List.cons.inj this).1
  · intro h; subst h; rfl
end Mine

namespace Mine
theorem sdGo_len (new : Int × Str) (st : Nat) : ∀ (f : Nat) (xs : List (Int × Str)) (pos : Nat), (sdGo new st f xs pos).length = xs.length
  | 0, xs, pos => List.length_set
  | f + 1, xs, pos => by
    unfold sdGo
    split
    · split
      · rw [sdGo_len new st f, List.length_set]
      · exact List.length_set
    · exact List.length_set
theorem sdown_len (xs : List (Int × Str)) (st pos : Nat) : (sdown xs st pos).length = xs.length := sdGo_len _ _ _ _ _
theorem suGo_len (new : Int × Str) (len : Nat) : ∀ (f : Nat) (xs : List (Int × Str)) (pos : Nat), (suGo new len f xs pos).1.length = xs.length
  | 0, xs, pos => List.length_set
  | f + 1, xs, pos => by
    unfold suGo
    split
    · rw [suGo_len new len f, List.length_set]
    · exact List.length_set
theorem sup_len (xs : List (Int × Str)) (pos : Nat) : (sup xs pos).length = xs.length := by
  unfold sup; rw [sdown_len, suGo_len]
section
variable {P : Int × Str → Prop}
theorem set_all {xs : List (Int × Str)} {i : Nat} {x : Int × Str} (h : ∀ p ∈ xs, P p) (hx : P x) : ∀ p ∈ xs.set i x, P p := fun p hp => by
  rcases List.mem_or_eq_of_mem_set hp with hp | rfl
  · exact h p hp
  · exact hx
theorem getD_all {xs : List (Int × Str)} (hd : P d0) (h : ∀ p ∈ xs, P p) (i : Nat) : P (xs.getD i d0) := by
  rw [List.getD_eq_getElem?_getD]
  cases e : xs[i]? with
  | none => exact hd
  | some x => exact h x (List.mem_of_getElem? e)
theorem sdGo_all (hd : P d0) (new : Int × Str) (hn : P new) (st : Nat) : ∀ (f : Nat) (xs : List (Int × Str)) (pos : Nat), (∀ p ∈ xs, P p) → ∀ p ∈ sdGo new st f xs pos, P p
  | 0, xs, pos, h => set_all h hn
  | f + 1, xs, pos, h => by
    unfold sdGo
    split
    · split
      · exact sdGo_all hd new hn st f _ _ (set_all h (getD_all hd h _))
      · exact set_all h hn
    · exact set_all h hn
theorem sdown_all (hd : P d0) {xs : List (Int × Str)} {st pos : Nat} (h : ∀ p ∈ xs, P p) : ∀ p ∈ sdown xs st pos, P p := sdGo_all hd _ (getD_all hd h _) _ _ _ _ h
theorem suGo_all (hd : P d0) (new : Int × Str) (hn : P new) (len : Nat) : ∀ (f : Nat) (xs : List (Int × Str)) (pos : Nat), (∀ p ∈ xs, P p) → ∀ p ∈ (suGo new len f xs pos).1, P p
  | 0, xs, pos, h => set_all h hn
  | f + 1, xs, pos, h => by
    unfold suGo
    split
    · exact suGo_all hd new hn len f _ _ (set_all h (getD_all hd h _))
    · exact set_all h hn
theorem sup_all (hd : P d0) {xs : List (Int × Str)} {pos : Nat} (h : ∀ p ∈ xs, P p) : ∀ p ∈ sup xs pos, P p := sdown_all hd (suGo_all hd _ (getD_all hd h _) _ _ _ _ h)
end
/-- the level that indent_level gives for the front and the lead l -/
def lv (z : Nat) (fr l : List Nat) : Int := ilev (wsRun (fr ++ l)) z
abbrev HSt := List (Int × Str) × List Int × List Str
def hpTurn (z : Nat) (fr : List Nat) (q : HSt) : HSt :=
  let p := q.1.getD 0 d0
  let l := p.2.cps.toList
  let x1 := sup (q.1.set 0 (lv z fr (l ++ [32]), toS (l ++ [32]))) 0
  (sdown (x1 ++ [(lv z fr (l ++ [9]), toS (l ++ [9]))]) 0 x1.length, q.2.1 ++ [p.1], q.2.2 ++ [p.2])
def hpIt (z : Nat) (fr : List Nat) : Nat → HSt
  | 0 => ([(lv z fr [], toS [])], [], [])
  | i + 1 => hpTurn z fr (hpIt z fr i)
theorem hpIt_len (z : Nat) (fr : List Nat) : ∀ i, (hpIt z fr i).1.length = i + 1
  | 0 => rfl
  | i + 1 => by
    show (hpTurn z fr (hpIt z fr i)).1.length = _
    unfold hpTurn
    rw [sdown_len, List.length_append, sup_len, List.length_set, hpIt_len z fr i]; rfl
/-- a lead of at most n signs -/
def Ld (n : Nat) (p : Int × Str) : Prop := (∀ c ∈ p.2.cps.toList, c = 32 ∨ c = 9) ∧ p.2.cps.toList.length ≤ n
theorem Ld.mono {n n' : Nat} {p : Int × Str} (h : n ≤ n') (x : Ld n p) : Ld n' p := ⟨x.1, Nat.le_trans x.2 h⟩
theorem Ld_d0 (n : Nat) : Ld n d0 := ⟨fun c hc => absurd hc List.not_mem_nil, Nat.zero_le _⟩
theorem Ld_sp {n : Nat} {p : Int × Str} (x : Ld n p) (v : Int) : Ld (n + 1) (v, toS (p.2.cps.toList ++ [32])) := by
  refine ⟨fun c hc => ?_, ?_⟩
  · rcases List.mem_append.mp hc with hc | hc
    · exact x.1 c hc
    · exact .inl (List.mem_singleton.mp hc)
  · show (p.2.cps.toList ++ [32]).length ≤ n + 1
    rw [List.length_append]; exact Nat.add_le_add_right x.2 1
theorem Ld_tb {n : Nat} {p : Int × Str} (x : Ld n p) (v : Int) : Ld (n + 1) (v, toS (p.2.cps.toList ++ [9])) := by
  refine ⟨fun c hc => ?_, ?_⟩
  · rcases List.mem_append.mp hc with hc | hc
    · exact x.1 c hc
    · exact .inr (List.mem_singleton.mp hc)
  · show (p.2.cps.toList ++ [9]).length ≤ n + 1
    rw [List.length_append]; exact Nat.add_le_add_right x.2 1
theorem hpIt_ld (z : Nat) (fr : List Nat) : ∀ i, ∀ p ∈ (hpIt z fr i).1, Ld i p
  | 0 => fun p hp => by rw [List.mem_singleton.mp hp]; exact ⟨fun c hc => absurd hc List.not_mem_nil, Nat.zero_le _⟩
  | i + 1 => by
    have h0 := hpIt_ld z fr i
    have hg := getD_all (Ld_d0 i) h0 0
    have h1 : ∀ p ∈ (hpIt z fr i).1, Ld (i + 1) p := fun p hp => (h0 p hp).mono (Nat.le_succ _)
    show ∀ p ∈ (hpTurn z fr (hpIt z fr i)).1, Ld (i + 1) p
    unfold hpTurn
    refine sdown_all (Ld_d0 _) fun p hp => ?_
    rcases List.mem_append.mp hp with hp | hp
    · exact sup_all (Ld_d0 _) (set_all h1 (Ld_sp hg _)) p hp
    · rw [List.mem_singleton.mp hp]; exact Ld_tb hg _
end Mine

namespace Mine
section
variable {h₀ h : Heap} {L : Addr} {x y z u v : Addr × Obj} {tl : List (Addr × Obj)}
theorem nAdd (N : News h₀ L h tl) (hx : x ∈ tl) : News h₀ L h (x :: tl) := fun p hp => N p (by
  rcases List.mem_cons.mp hp with rfl | hp
  · exact hx
  · exact hp)
theorem nP21 (N : News h₀ L h (x :: y :: tl)) : News h₀ L h (y :: x :: tl) := fun p hp => N p (by simp only [List.mem_cons] at hp ⊢; grind)
theorem nP312 (N : News h₀ L h (x :: y :: z :: tl)) : News h₀ L h (z :: x :: y :: tl) := fun p hp => N p (by simp only [List.mem_cons] at hp ⊢; grind)
theorem nP231 (N : News h₀ L h (x :: y :: z :: tl)) : News h₀ L h (y :: z :: x :: tl) := fun p hp => N p (by simp only [List.mem_cons] at hp ⊢; grind)
theorem nP13452 (N : News h₀ L h (x :: y :: z :: u :: v :: tl)) : News h₀ L h (x :: z :: u :: v :: y :: tl) := fun p hp => N p (by simp only [List.mem_cons] at hp ⊢; grind)
theorem nMain {w : Addr × Obj} (N : News h₀ L h [x, y, z, u, v, w]) : News h₀ L h (z :: y :: x :: w :: [u]) := fun p hp => N p (by simp only [List.mem_cons] at hp ⊢; grind)
theorem off_nil (b : List Addr) : OwnOff [] b := fun _ hp => nomatch hp
theorem off_cons {b : Addr} {o : Obj} {a : Addr} (ha : @Ne Nat a b) (h : OwnOff tl [b]) : OwnOff ((a, o) :: tl) [b] := fun p hp c hc => by
  rw [List.mem_singleton.mp hc]
  rcases List.mem_cons.mp hp with rfl | hp
  · exact ha
  · exact h p hp b (.head _)
theorem off_one {b : Addr} {bs : List Addr} (h : OwnOff tl bs) (hb : b ∈ bs) : OwnOff tl [b] := fun p hp c hc => by
  rw [List.mem_singleton.mp hc]; exact h p hp b hb
theorem off_add {bs : List Addr} {a : Addr} {o : Obj} (ha : ∀ b ∈ bs, @Ne Nat a b) (h : OwnOff tl bs) : OwnOff ((a, o) :: tl) bs := fun p hp c hc => by
  rcases List.mem_cons.mp hp with rfl | hp
  · exact ha c hc
  · exact h p hp c hc
end
theorem strs_snoc' {y : Str} {t : Tok} {vs : List Value} {ys : List Str} (h : StrsAre vs ys) : StrsAre (vs ++ [.str y t]) (ys ++ [y]) := kct_snoc h
theorem ints_snoc {n : Int} {t : Tok} {vs : List Value} {ns : List Int} (h : IntsAre vs ns) : IntsAre (vs ++ [.int n t]) (ns ++ [n]) := h.append (.cons _ _ .nil)
theorem strs_len {vs : List Value} {ys : List Str} (h : StrsAre vs ys) : vs.length = ys.length := StrsAre.length h
theorem hpIt_st_len (z : Nat) (fr : List Nat) : ∀ i, (hpIt z fr i).2.1.length = i
  | 0 => rfl
  | i + 1 => by
    show ((hpIt z fr i).2.1 ++ [_]).length = i + 1
    rw [List.length_append, hpIt_st_len z fr i]; rfl
theorem hpIt_gn_len (z : Nat) (fr : List Nat) : ∀ i, (hpIt z fr i).2.2.length = i
  | 0 => rfl
  | i + 1 => by
    show ((hpIt z fr i).2.2 ++ [_]).length = i + 1
    rw [List.length_append, hpIt_gn_len z fr i]; rfl
theorem sp_x (fr l : List Nat) : (toS fr ++ toS l ++ Str.ofString " x").cps.toList = (fr ++ (l ++ [32])) ++ [120] := by
  rw [Str.cps_append, Str.cps_append, Array.toList_append, Array.toList_append, toS_cps, toS_cps, show (Str.ofString " x").cps.toList = [32, 120] from rfl]; simp
theorem tb_x (fr l : List Nat) : (toS fr ++ toS l ++ Str.ofString "\tx").cps.toList = (fr ++ (l ++ [9])) ++ [120] := by
  rw [Str.cps_append, Str.cps_append, Array.toList_append, Array.toList_append, toS_cps, toS_cps, show (Str.ofString "\tx").cps.toList = [9, 120] from rfl]; simp
theorem sp_l (l : List Nat) : toS l ++ Str.ofString " " = toS (l ++ [32]) := toS_app l [32]
theorem tb_l (l : List Nat) : toS l ++ Str.ofString "\t" = toS (l ++ [9]) := toS_app l [9]
theorem lv_nil (z : Nat) (fr : List Nat) : lv z fr [] = ilev (wsRun fr) z := by unfold lv; rw [List.append_nil]
theorem hpIt_succ {z : Nat} {fr : List Nat} {i : Nat} {x0 : Int} {l0 : List Nat} (h : (hpIt z fr i).1.getD 0 d0 = (x0, toS l0)) :
    hpIt z fr (i + 1) = (sdown (sup ((hpIt z fr i).1.set 0 (lv z fr (l0 ++ [32]), toS (l0 ++ [32]))) 0 ++ [(lv z fr (l0 ++ [9]), toS (l0 ++ [9]))]) 0 (sup ((hpIt z fr i).1.set 0 (lv z fr (l0 ++ [32]), toS (l0 ++ [32]))) 0).length, (hpIt z fr i).2.1 ++ [x0], (hpIt z fr i).2.2 ++ [toS l0]) := by
  show hpTurn z fr (hpIt z fr i) = _
  unfold hpTurn
  rw [h]; rfl
theorem tup_ne_list {k : Int} {t : Tok} {p : Str} {u : Tok} {n : Nat} {its : Array Value} {e : Nat} : pairO k t p u n ≠ listOf its e := fun h => by
  have h1 : Value.type "tuple" = Value.type "list" := congrArg Obj.cls h
  injection h1 with h2
  exact absurd h2 (by decide)
theorem tup_ne_cell {k : Int} {t : Tok} {p : Str} {u : Tok} {n : Nat} {o : Obj} {v : Option Value} (hd : o.data = .cell v) : pairO k t p u n ≠ o := fun h => by
  rw [← h] at hd
  cases hd
theorem hDrop {x : Addr × Obj} {a b c : Addr} {i1 i2 : Array Value} {e1 e2 : Nat} {o : Obj} {v : Option Value} {tb : List (Addr × Obj)} {vs : List Value} {xs : List (Int × Str)} (hd : o.data = .cell v)
    (h : HIs (x :: (a, listOf i1 e1) :: (b, listOf i2 e2) :: (c, o) :: tb) vs xs) : HIs (x :: tb) vs xs := by
  have key : ∀ q ∈ (x :: (a, listOf i1 e1) :: (b, listOf i2 e2) :: (c, o) :: tb), (∃ k t p u n, q.2 = pairO k t p u n) → q ∈ x :: tb := by
    rintro q hm ⟨k, t, p, u, n, hq⟩
    rcases List.mem_cons.mp hm with e | hm
    · rw [e]; exact .head _
    rcases List.mem_cons.mp hm with e | hm
    · rw [e] at hq; exact absurd hq.symm tup_ne_list
    rcases List.mem_cons.mp hm with e | hm
    · rw [e] at hq; exact absurd hq.symm tup_ne_list
    rcases List.mem_cons.mp hm with e | hm
    · rw [e] at hq; exact absurd hq.symm (tup_ne_cell hd)
    exact .tail _ hm
  induction h with
  | nil => exact .nil
  | cons hm _ ih => exact .cons (key _ hm ⟨_, _, _, _, _, rfl⟩) ih
abbrev JH (z k : Nat) (fr tx : List Nat) (tz tl tf tt tc : Tok) (H S G C : Addr) (oc : Obj) (n : Nat) (m : Str → Option Value) (nx : List (Addr × Obj)) : Prop :=
  ∃ (i : Nat) (vs sv gv : List Value) (e1 e2 e3 : Nat) (tb : List (Addr × Obj)), nx = (H, listOf vs.toArray e1) :: (S, listOf sv.toArray e2) :: (G, listOf gv.toArray e3) :: (C, oc) :: tb ∧
    HIs tb vs (hpIt z fr i).1 ∧ IntsAre sv (hpIt z fr i).2.1 ∧ StrsAre gv (hpIt z fr i).2.2 ∧ OwnOff tb [H, S, G, C] ∧
    m (Str.ofString "gone") = some (.ref G) ∧ m (Str.ofString "steps") = some (.ref S) ∧ m (Str.ofString "heap") = some (.ref H) ∧ m (Str.ofString "size") = some (.int (z : Int) tz) ∧ m (Str.ofString "front") = some (.str (toS fr) tf) ∧ m (Str.ofString "leaves") = some (.int (k : Int) tl) ∧
    m (Str.ofString "text") = some (.str (toS tx) tt) ∧ m (Str.ofString "column") = some (.int (colN z fr) tc) ∧ n = k - (i + 1) ∧ i + 1 ≤ k
/-- the words loop on lists: the leads, the rest -/
def pwGo (lds : List (List Nat)) : Nat → List (List Nat) → List Nat → List (List Nat) × List Nat
  | 0, ws, r => (ws, r)
  | f + 1, ws, r => if r = [] then (ws, r) else match lds.filter (fun x => x.isPrefixOf r) with
    | [x] => pwGo lds f (ws ++ [x]) (r.drop x.length)
    | _ => (ws, r)
/-- the due loop on lists -/
def pdStep (gone : List (List Nat)) (q : List (List Nat) × List Nat) (c : Nat) : List (List Nat) × List Nat :=
  if (q.2 ++ [c]) ∈ gone then (q.1, q.2 ++ [c]) else (q.1 ++ [q.2 ++ [c]], [])
def pdGo (gone : List (List Nat)) (tx : List Nat) : List (List Nat) × List Nat := tx.foldl (pdStep gone) ([], [])
theorem take_map {α β : Type} (f : α → β) (xs : List α) (j : Nat) (x : α) (h : xs[j]? = some x) : (xs.take (j + 1)).map f = (xs.take j).map f ++ [f x] := by
  rw [List.take_add_one, h, List.map_append]; rfl
theorem item_of {tb : List (Addr × Obj)} {vs : List Value} {xs : List (Int × Str)} (h : HIs tb vs xs) {j : Nat} {v : Value} (hv : vs[j]? = some v) : ∃ x a t u n, xs[j]? = some x ∧ v = .ref a ∧ (a, pairO x.1 t x.2 u n) ∈ tb := by
  have hj : j < vs.length := by
    rcases Nat.lt_or_ge j vs.length with e | e
    · exact e
    · rw [List.getElem?_eq_none e] at hv; cases hv
  have hx := getD_some (xs := xs) (i := j) (by rw [← h.len]; exact hj)
  obtain ⟨a, t, u, n, h1, h2⟩ := h.get hx
  rw [h1] at hv
  exact ⟨_, a, t, u, n, hx, (Option.some.inj hv).symm, h2⟩
theorem nP1342 {h₀ h : Heap} {L : Addr} {x y z u : Addr × Obj} {tl : List (Addr × Obj)} (N : News h₀ L h (x :: y :: z :: u :: tl)) : News h₀ L h (x :: y :: u :: tl) := fun p hp => N p (by simp only [List.mem_cons] at hp ⊢; grind)
theorem str_empty (r : List Nat) : (toS r == Str.ofString "") = decide (r = []) := by
  by_cases h : r = []
  · subst h; decide
  · rw [decide_eq_false h]
    apply Bool.eq_false_iff.mpr
    intro e
    have := congrArg (fun x : Str => x.cps.toList) (eq_of_beq e)
    exact h this
abbrev fitL (lds : List (List Nat)) (r : List Nat) : List (List Nat) := lds.filter (fun x => x.isPrefixOf r)
theorem pwGo_step {lds : List (List Nat)} {f : Nat} {ws : List (List Nat)} {r x : List Nat} (hr : r ≠ []) (h : fitL lds r = [x]) : pwGo lds (f + 1) ws r = pwGo lds f (ws ++ [x]) (r.drop x.length) := by
  show (if r = [] then (ws, r) else match lds.filter (fun x => x.isPrefixOf r) with | [x] => pwGo lds f (ws ++ [x]) (r.drop x.length) | _ => (ws, r)) = _
  rw [if_neg hr, show lds.filter (fun x => x.isPrefixOf r) = [x] from h]
theorem pwGo_brk {lds : List (List Nat)} {f : Nat} {ws : List (List Nat)} {r : List Nat} (h : (fitL lds r).length ≠ 1) : pwGo lds f ws r = (ws, r) := by
  cases f with
  | zero => rfl
  | succ f =>
    show (if r = [] then (ws, r) else match fitL lds r with | [x] => pwGo lds f (ws ++ [x]) (r.drop x.length) | _ => (ws, r)) = _
    by_cases hr : r = []
    · rw [if_pos hr]
    · rw [if_neg hr]
      match hm : fitL lds r with
      | [] => rfl
      | [x] => rw [hm] at h; exact absurd rfl h
      | x :: y :: l => rfl
theorem pwGo_nil {lds : List (List Nat)} {f : Nat} {ws : List (List Nat)} : pwGo lds f ws [] = (ws, []) := by
  cases f with
  | zero => rfl
  | succ f => rfl
abbrev JWd (lds : List (List Nat)) (tx : List Nat) (tt : Tok) (W H G C : Addr) (ledH ledG : Obj) (tb : List (Addr × Obj)) (R : List (List Nat) × List Nat) (n : Nat) (m : Str → Option Value) (nx : List (Addr × Obj)) : Prop :=
  ∃ (f : Nat) (ws : List (List Nat)) (r : List Nat) (wv : List Value) (e : Nat) (oR : Obj) (tr : Tok), nx = (W, listOf wv.toArray e) :: (H, ledH) :: (G, ledG) :: (C, oR) :: tb ∧ StrsAre wv (ws.map toS) ∧ oR.data = .cell (some (.str (toS r) tr)) ∧
    pwGo lds f ws r = R ∧ n = r.length ∧ r.length ≤ f ∧ r.length ≤ 10 ∧ ws.length + r.length ≤ 10 ∧
    m (Str.ofString "heap") = some (.ref H) ∧ m (Str.ofString "text") = some (.str (toS tx) tt) ∧ m (Str.ofString "gone") = some (.ref G) ∧ m (Str.ofString "words") = some (.ref W)
/-- the state behind the words loop -/
def PostW (h₀ : Heap) (L : Addr) (s₁ : Shared) (tx : List Nat) (tt : Tok) (W H G C : Addr) (ledH ledG : Obj) (tb : List (Addr × Obj)) (R : List (List Nat) × List Nat) (fl : Flow) (s' : Shared) : Prop :=
  fl = .next ∧ ∃ (h' : Heap) (tk : Nat) (m : Str → Option Value) (wv : List Value) (e : Nat) (oR : Obj) (tr : Tok), s' = { s₁ with heap := h', toks := tk } ∧ Fr h₀ L h' m ∧ News h₀ L h' ((W, listOf wv.toArray e) :: (H, ledH) :: (G, ledG) :: (C, oR) :: tb) ∧
    StrsAre wv (R.1.map toS) ∧ oR.data = .cell (some (.str (toS R.2) tr)) ∧ m (Str.ofString "text") = some (.str (toS tx) tt) ∧ m (Str.ofString "gone") = some (.ref G) ∧ m (Str.ofString "words") = some (.ref W)
theorem fit_snoc {r : List Nat} {lds : List (List Nat)} {j : Nat} {x : List Nat} (h : lds[j]? = some x) : (fitL (lds.take (j + 1)) r).map toS = if x.isPrefixOf r then (fitL (lds.take j) r).map toS ++ [toS x] else (fitL (lds.take j) r).map toS := by
  unfold fitL
  rw [List.take_add_one, h, List.filter_append, List.map_append]
  show _ ++ ([x].filter _).map toS = _
  by_cases hp : x.isPrefixOf r = true
  · rw [if_pos hp, show [x].filter (fun x => x.isPrefixOf r) = [x] by simp [hp]]; rfl
  · rw [if_neg hp, show [x].filter (fun x => x.isPrefixOf r) = [] by simp [hp]]; simp
structure PL (z k : Nat) (fr tx : List Nat) : Prop where
  st : (hpIt z fr (k - 1)).2.1 = dueL (k - 1) z (colN z fr)
  sm : ((hpIt z fr (k - 1)).1.map (·.1)).sum = (lsF 6 k (colN z fr) z).1
  mx : (lsF 6 k (colN z fr) z).2 ∈ (hpIt z fr (k - 1)).1.map (·.1)
  mb : ∀ a ∈ (hpIt z fr (k - 1)).1.map (·.1), a ≤ (lsF 6 k (colN z fr) z).2
  ld : ∀ p ∈ (hpIt z fr (k - 1)).1, p.2.cps.toList ∈ leads5
  ps : pwGo ((hpIt z fr (k - 1)).1.map (·.2.cps.toList)) tx.length [] tx = pdGo ((hpIt z fr (k - 1)).2.2.map (·.cps.toList)) tx
end Mine

namespace Mine
structure Code (lds gone : List (List Nat)) : Prop where
  nil : [] ∈ gone
  stp : ∀ g ∈ gone, ∀ c ∈ [32, 9], g ++ [c] ∈ gone ∨ g ++ [c] ∈ lds
  out : ∀ g ∈ gone, ∀ x ∈ lds, x.isPrefixOf g = false
  inc : lds.Pairwise fun x y => x.isPrefixOf y = false ∧ y.isPrefixOf x = false
theorem fit_one {r x : List Nat} : ∀ {lds : List (List Nat)}, lds.Pairwise (fun x y => x.isPrefixOf y = false ∧ y.isPrefixOf x = false) → x ∈ lds → x.isPrefixOf r = true → fitL lds r = [x]
  | [], _, h, _ => nomatch h
  | y :: l, hp, h, hx => by
    have hc := List.pairwise_cons.mp hp
    have key : ∀ {a b : List Nat}, a.isPrefixOf r = true → b.isPrefixOf r = true → a.isPrefixOf b = false → b.isPrefixOf a = false → False := by
      intro a b ha hb h1 h2
      rcases List.prefix_or_prefix_of_prefix (List.isPrefixOf_iff_prefix.mp ha) (List.isPrefixOf_iff_prefix.mp hb) with q | q
      · rw [List.isPrefixOf_iff_prefix.mpr q] at h1; cases h1
      · rw [List.isPrefixOf_iff_prefix.mpr q] at h2; cases h2
    unfold fitL
    rcases List.mem_cons.mp h with rfl | h
    · rw [List.filter_cons_of_pos (p := fun x : List Nat => x.isPrefixOf r) hx]
      congr 1
      refine List.filter_eq_nil_iff.mpr fun z hz hzr => ?_
      exact key hx hzr (hc.1 z hz).1 (hc.1 z hz).2
    · rw [List.filter_cons_of_neg (p := fun x : List Nat => x.isPrefixOf r) (fun hy => key hy hx (hc.1 x h).1 (hc.1 x h).2)]
      exact fit_one hc.2 h hx
section
variable {lds gone : List (List Nat)}
theorem code_walk (C : Code lds gone) : ∀ (r p : List Nat) (ws : List (List Nat)), p ∈ gone → (∀ c ∈ r, c = 32 ∨ c = 9) →
    (∃ a b, r = a ++ b ∧ a ≠ [] ∧ p ++ a ∈ lds ∧ r.foldl (pdStep gone) (ws, p) = b.foldl (pdStep gone) (ws ++ [p ++ a], [])) ∨ (r.foldl (pdStep gone) (ws, p) = (ws, p ++ r) ∧ fitL lds (p ++ r) = [])
  | [], p, ws, hp, _ => .inr ⟨by rw [List.append_nil]; rfl, by
      rw [List.append_nil]
      exact List.filter_eq_nil_iff.mpr fun z hz hzr => by rw [C.out p hp z hz] at hzr; cases hzr⟩
  | c :: r, p, ws, hp, hc => by
    rw [List.foldl_cons]
    unfold pdStep
    dsimp only
    by_cases hg : p ++ [c] ∈ gone
    · rw [if_pos hg]
      rcases code_walk C r (p ++ [c]) ws hg (fun x hx => hc x (.tail _ hx)) with ⟨a, b, e1, e2, e3, e4⟩ | ⟨e1, e2⟩
      · refine .inl ⟨c :: a, b, by rw [e1]; rfl, by simp, ?_, ?_⟩
        · rw [List.append_assoc] at e3; exact e3
        · rw [List.append_assoc] at e4; exact e4
      · rw [List.append_assoc] at e1 e2
        exact .inr ⟨e1, e2⟩
    · rw [if_neg hg]
      have hcc : c ∈ [32, 9] := by rcases hc c (.head _) with rfl | rfl <;> simp
      exact .inl ⟨[c], r, rfl, by simp, (C.stp p hp c hcc).resolve_left hg, rfl⟩
theorem code_parse (C : Code lds gone) : ∀ (n : Nat) (r : List Nat) (f : Nat) (ws : List (List Nat)), r.length ≤ n → r.length ≤ f → (∀ c ∈ r, c = 32 ∨ c = 9) → pwGo lds f ws r = r.foldl (pdStep gone) (ws, [])
  | n, [], f, ws, _, _, _ => pwGo_nil
  | 0, c :: r, f, ws, h, _, _ => absurd h (Nat.not_succ_le_zero _)
  | n + 1, c :: r, 0, ws, _, h, _ => absurd h (Nat.not_succ_le_zero _)
  | n + 1, c :: r, f + 1, ws, hn, hf, hc => by
    rcases code_walk C (c :: r) [] ws C.nil hc with ⟨a, b, e1, e2, e3, e4⟩ | ⟨e1, e2⟩
    · rw [List.nil_append] at e3 e4
      have hfit : fitL lds (c :: r) = [a] := fit_one C.inc e3 (List.isPrefixOf_iff_prefix.mpr ⟨b, e1.symm⟩)
      have hl : (c :: r).length = a.length + b.length := by rw [e1, List.length_append]
      have ha : 0 < a.length := List.length_pos_iff.mpr e2
      rw [pwGo_step (by simp) hfit, e4]
      have hd : (c :: r).drop a.length = b := by rw [e1, List.drop_left]
      rw [hd]
      exact code_parse C n b f _ (by omega) (by omega) (fun x hx => hc x (by rw [e1]; exact List.mem_append.mpr (.inr hx)))
    · rw [List.nil_append] at e1 e2
      rw [pwGo_brk (by rw [e2]; decide), e1]
end
theorem mem_btN : ∀ (l : List Nat), (∀ c ∈ l, c = 32 ∨ c = 9) → l ∈ btN l.length
  | [], _ => .head _
  | c :: l, h => by
    show _ ∈ (btN l.length).flatMap _
    refine List.mem_flatMap.mpr ⟨l, mem_btN l (fun x hx => h x (.tail _ hx)), ?_⟩
    rcases h c (.head _) with rfl | rfl <;> simp
theorem mem_leads {l : List Nat} (h : ∀ c ∈ l, c = 32 ∨ c = 9) (h1 : 1 ≤ l.length) (h5 : l.length ≤ 5) : l ∈ leads5 := by
  have := mem_btN l h
  unfold leads5
  simp only [List.mem_append]
  generalize hn : l.length = n at *
  have : n = 1 ∨ n = 2 ∨ n = 3 ∨ n = 4 ∨ n = 5 := by omega
  rcases this with rfl | rfl | rfl | rfl | rfl <;> simp_all
end Mine

namespace Mine
theorem off_lt {W : Addr} : ∀ {tl : List (Addr × Obj)}, AllLt W tl → OwnOff tl [W]
  | [], _ => fun _ hp => nomatch hp
  | _ :: _, h => off_cons (Nat.ne_of_lt h.1) (off_lt h.2)
theorem strs_one {ys : List Value} {x : Str} (h : StrsAre ys [x]) : ∃ t, ys = [Value.str x t] := by
  obtain ⟨t, vs', rfl, h2⟩ := h.cons_inv
  obtain rfl := h2.nil_inv
  exact ⟨t, rfl⟩
theorem lead_len {l : List Nat} (h : l ∈ leads5) : 1 ≤ l.length ∧ l.length ≤ 5 := by
  have := (lead_split l h).2.2
  exact ⟨this.2, this.1⟩
theorem slice_drop (r : List Nat) (n : Nat) (h : n ≤ r.length) : Txt.slice (toS r) (some (n : Int)) none = toS (r.drop n) := by
  have e := StrLaws.sliceText_from (x := toS r) (i := (n : Int)) ⟨by omega, by show (n : Int) ≤ (r.length : Int); omega⟩
  refine Eq.trans e ?_
  show (⟨((r.drop (n : Int).toNat).take ((r.length : Int) - (n : Int)).toNat).toArray⟩ : Str) = ⟨(r.drop n).toArray⟩
  rw [Int.toNat_natCast, List.take_of_length_le]
  rw [List.length_drop]; omega
abbrev JDd (tx : List Nat) (gn : List (List Nat)) (DU W G : Addr) (base : List (Addr × Obj)) (i : Nat) (m : Str → Option Value) (nx : List (Addr × Obj)) : Prop :=
  ∃ (dl : List (List Nat)) (pc : List Nat) (dv : List Value) (e : Nat) (tp : Tok), nx = (DU, listOf dv.toArray e) :: base ∧ StrsAre dv (dl.map toS) ∧ (tx.take i).foldl (pdStep gn) ([], []) = (dl, pc) ∧ pc.length ≤ i ∧ dl.length ≤ i ∧
    m (Str.ofString "gone") = some (.ref G) ∧ m (Str.ofString "words") = some (.ref W) ∧ m (Str.ofString "due") = some (.ref DU) ∧ m (Str.ofString "piece") = some (.str (toS pc) tp)
theorem vstr {x y : Str} {t : Tok} (h : x = y) : some (Value.str x t) = some (Value.str y t) := by rw [h]
theorem off_app {a b : List (Addr × Obj)} {bs : List Addr} (ha : OwnOff a bs) (hb : OwnOff b bs) : OwnOff (a ++ b) bs := fun p hp => by
  rcases List.mem_append.mp hp with hp | hp
  · exact ha p hp
  · exact hb p hp
theorem any_gone (l : List Nat) : ∀ xs : List Str, (xs.any fun y => y == toS l) = decide (l ∈ xs.map (·.cps.toList))
  | [] => by simp
  | x :: xs => by
    rw [List.any_cons, any_gone l xs, List.map_cons]
    have e : (x == toS l) = decide (l = x.cps.toList) := by
      by_cases h : l = x.cps.toList
      · rw [h, toS_self, decide_eq_true rfl, beq_self_eq_true]
      · rw [decide_eq_false h]
        refine Bool.eq_false_iff.mpr fun q => h ?_
        have q := eq_of_beq q
        rw [q]; rfl
    rw [e, Bool.eq_iff_iff]
    simp
theorem pdF_ch (P : Nat → Prop) (gn : List (List Nat)) : ∀ (tx : List Nat) (q : List (List Nat) × List Nat), (∀ c ∈ tx, P c) → (∀ d ∈ q.1, ∀ c ∈ d, P c) → (∀ c ∈ q.2, P c) → (∀ d ∈ (tx.foldl (pdStep gn) q).1, ∀ c ∈ d, P c) ∧ ∀ c ∈ (tx.foldl (pdStep gn) q).2, P c
  | [], q, _, h1, h2 => ⟨h1, h2⟩
  | c :: tx, q, h, h1, h2 => by
    rw [List.foldl_cons]
    have h3 : ∀ x ∈ q.2 ++ [c], P x := fun x hx => by
      rcases List.mem_append.mp hx with hx | hx
      · exact h2 x hx
      · rw [List.mem_singleton.mp hx]; exact h c (.head _)
    refine pdF_ch P gn tx _ (fun x hx => h x (.tail _ hx)) ?_ ?_
    · unfold pdStep
      split
      · exact h1
      · intro d hd
        rcases List.mem_append.mp hd with hd | hd
        · exact h1 d hd
        · rw [List.mem_singleton.mp hd]; exact h3
    · unfold pdStep
      split
      · exact h3
      · intro x hx; cases hx
theorem strOk_of {l : List Nat} (h : ∀ c ∈ l, c = 32 ∨ c = 9) : PyData.strOk (toS l) = true := by
  unfold PyData.strOk toS
  rw [List.all_toArray, List.all_eq_true]
  intro c hc
  rcases h c hc with rfl | rfl <;> decide
abbrev pairD (q : List (List Nat) × List Nat) : PyData := .tuple [.list ((q.1.map toS).map .str), .str (toS q.2)]
theorem canLay_pair {q : List (List Nat) × List Nat} (h1 : ∀ d ∈ q.1, ∀ c ∈ d, c = 32 ∨ c = 9) (h2 : ∀ c ∈ q.2, c = 32 ∨ c = 9) : (pairD q).canLay0 = true := by
  show (PyData.canLayAll0 ((q.1.map toS).map .str) && (PyData.strOk (toS q.2) && true)) = true
  rw [canLayAll_strs', strOk_of h2, Bool.and_true, Bool.and_true, List.all_eq_true]
  intro x hx
  obtain ⟨d, hd, rfl⟩ := List.mem_map.mp hx
  exact strOk_of (h1 d hd)
theorem shaped_pair {q : List (List Nat) × List Nat} (h : (pairD q).canLay0 = true) : SeqAt.shaped (pairD q) = true := by
  unfold SeqAt.shaped
  rw [h, Bool.true_and, decide_eq_true_eq]
  simp only [pairD, PyData.depth, PyData.depthAll, depthAll_strs']
  decide
end Mine

namespace Mine
abbrev JC (z k : Nat) (fr tx : List Nat) (tz tl tf tt : Tok) (news : List (Addr × Obj)) (i : Nat) (m : Str → Option Value) (nx : List (Addr × Obj)) : Prop :=
  nx = news ∧ ∃ t, m (Str.ofString "size") = some (.int (z : Int) tz) ∧ m (Str.ofString "front") = some (.str (toS fr) tf) ∧ m (Str.ofString "leaves") = some (.int (k : Int) tl) ∧ m (Str.ofString "text") = some (.str (toS tx) tt) ∧ m (Str.ofString "column") = some (.int (colN z (fr.take i)) t)
set_option maxRecDepth 100000 in
set_option maxHeartbeats 8000000 in
theorem la (pl : ∀ z q1 k q2 : Nat, 1 ≤ z → z ≤ 6 → 1 ≤ q1 → q1 ≤ 31 → 2 ≤ k → k ≤ 6 → 256 ≤ q2 → q2 ≤ 511 → PL z k (sgW q1) (sgW q2)) : PySem.Challenge.rw_qj0004_01.Holds := by
  refine Mine.hd ?_
  k_go0
  all_goals (try k_fold)
  rename Fr _ _ _ _ => F0
  rename IntsAre _ _ => hI0
  rename ¬ _ < _ => hlen
  replace F0 := frB1 (x0 := Str.ofString "script") F0 rfl
  generalize (bindL _ _ _) = m0 at F0
  rename Obj.data _ = _ => dR
  replace dR := dR.trans (show _ = Data.cell none from rfl)
  rename_i w s₀ s₁ mg mb G Y fa o pm doc ho hg KX X V GL T B TE TW a1 a2 M a3 a4 hcd ns hs hlay0 hL1 hr1 hl2 b1 b2 S vs b3 hL ra w1 r0 hr hct K0 hD h1 tk1 oc N0 X0
  clear X0 hD hcd
  replace K0 : Below callerA s₁.heap [] s₁.heap := K0
  have hqk : ∀ h' tk mm, Fr s₁.heap s₁.heap.objs.size h' mm → qk (Flow.ret (.bool true)) { heap := h', gens := s₁.gens, drawn := s₁.drawn, toks := tk, os := s₁.os } := by
    intro h' tk mm F'
    refine goodW_bool F' hg (raisesW_false (by wrow_none_raised)) ?hp
    refine' postW_of ?zs ?zv ?ze
    case zs => o_shape
    case zv => wtm_val
    case ze => w_fin
  clear_value qk
  dsimp only
  w_on
  (repeat' ((fail_if_success (with_reducible show wpAny _ _ (call (Value.ref _) _) _ _ _)); (fail_if_success (with_reducible show wpAny _ _ (exec (Stmt.While _ _ _ _) _) _ _ _)); (fail_if_success (with_reducible show wpAny _ _ (exec (Stmt.For _ _ _ _ _) _) _ _ _)); (fail_if_success (with_reducible show wpAny _ _ (call (Value.builtin "list.append") _) _ _ _)); (fail_if_success (with_reducible show wpAny _ _ (eval (Expr.ListComp _ _ _ _) _) _ _ _)); (fail_if_success (with_reducible show wpAny _ _ (subscriptTail _ _ (Value.ref _) (Value.ref _)) _ _ _)); (fail_if_success (with_reducible show wpAny _ _ (storeName _ (Str.ofString "told") _) _ _ _)); first | (k_unfold; (try dsimp only)) | walk1 | (dsimp only; walk1)))
  walk1
  (repeat' ((fail_if_success (with_reducible show wpAny _ _ (call (Value.ref _) _) _ _ _)); (fail_if_success (with_reducible show wpAny _ _ (exec (Stmt.While _ _ _ _) _) _ _ _)); (fail_if_success (with_reducible show wpAny _ _ (exec (Stmt.For _ _ _ _ _) _) _ _ _)); (fail_if_success (with_reducible show wpAny _ _ (call (Value.builtin "list.append") _) _ _ _)); (fail_if_success (with_reducible show wpAny _ _ (eval (Expr.ListComp _ _ _ _) _) _ _ _)); (fail_if_success (with_reducible show wpAny _ _ (subscriptTail _ _ (Value.ref _) (Value.ref _)) _ _ _)); (fail_if_success (with_reducible show wpAny _ _ (storeName _ (Str.ofString "told") _) _ _ _)); first | (k_unfold; (try dsimp only)) | walk1 | (dsimp only; walk1)))
  rename Fr _ _ _ _ => F1
  rename News _ _ _ _ => N1
  k_dflt (refine kba_turn (value' := PySem.Expr.Name (PySem.Str.ofString "_") ⟨0, 0, 0, 0⟩) (fun _ => rfl) ?_)
  refine kmk_slice_ints (vs := [_, _, _]) (ns := [1083, 1, 3]) F1 (nTl N1) (News.isList N1 (.head _)) (IsPart.int _ _) IsPart.none (.cons _ _ (.cons _ _ (.cons _ _ .nil))) (kmk_from (.cons _ _ (.cons _ _ (.cons _ _ .nil))) (by omega)) rfl ?_ (by with_unfolding_all rfl) (by intro _; with_unfolding_all rfl) (by rw [sizeLine_eq]; exact Nat.le_of_ble_eq_true rfl)
  clear F1 N1
  intro D2 ws2 h2 F2 N2 l2 hI2 hC2 hL2
  rw [Int.toNat_natCast] at hI2
  replace l2 := allLt_of l2
  simp only [AllLt] at l2
  (repeat' ((fail_if_success (with_reducible show wpAny _ _ (call (Value.ref _) _) _ _ _)); (fail_if_success (with_reducible show wpAny _ _ (exec (Stmt.While _ _ _ _) _) _ _ _)); (fail_if_success (with_reducible show wpAny _ _ (exec (Stmt.For _ _ _ _ _) _) _ _ _)); (fail_if_success (with_reducible show wpAny _ _ (call (Value.builtin "list.append") _) _ _ _)); (fail_if_success (with_reducible show wpAny _ _ (eval (Expr.ListComp _ _ _ _) _) _ _ _)); (fail_if_success (with_reducible show wpAny _ _ (subscriptTail _ _ (Value.ref _) (Value.ref _)) _ _ _)); (fail_if_success (with_reducible show wpAny _ _ (storeName _ (Str.ofString "told") _) _ _ _)); first | (k_unfold; (try dsimp only)) | walk1 | (dsimp only; walk1)))
  rename Fr _ _ _ _ => F3
  rename News _ _ _ _ => N3
  rename IntsAre _ _ => hI3
  rename _ ∧ _ ∧ _ => l3
  obtain ⟨n0, n1, n2, hn⟩ := told3 ns
  rw [hn] at hI3
  obtain ⟨t0, ws3, rfl, hJ1⟩ := hI3.cons_inv
  obtain ⟨t1, ws4, rfl, hJ2⟩ := hJ1.cons_inv
  obtain ⟨t2, ws5, rfl, hJ3⟩ := hJ2.cons_inv
  obtain rfl := hJ3.nil_inv
  clear hI3 hJ1 hJ2 hJ3 hn
  replace N3 := nKeep2 N3
  obtain ⟨z, hz, hz1, hz6⟩ : ∃ z : Nat, 1 + n0.fmod 6 = (z : Int) ∧ 1 ≤ z ∧ z ≤ 6 := by
    have e := Int.fmod_eq_emod_of_nonneg n0 (show (0 : Int) ≤ 6 by decide)
    exact ⟨(1 + n0.fmod 6).toNat, by omega, by omega, by omega⟩
  obtain ⟨q1, hq1, hq11, hq12⟩ : ∃ q : Nat, n1.fmod 31 + 1 = (q : Int) ∧ 1 ≤ q ∧ q ≤ 31 := by
    have e := Int.fmod_eq_emod_of_nonneg n1 (show (0 : Int) ≤ 31 by decide)
    exact ⟨(n1.fmod 31 + 1).toNat, by omega, by omega, by omega⟩
  obtain ⟨k, hk, hk2, hk6⟩ : ∃ k : Nat, 2 + n2.fmod 5 = (k : Int) ∧ 2 ≤ k ∧ k ≤ 6 := by
    have e := Int.fmod_eq_emod_of_nonneg n2 (show (0 : Int) ≤ 5 by decide)
    exact ⟨(2 + n2.fmod 5).toNat, by omega, by omega, by omega⟩
  obtain ⟨q2, hq2, hq21, hq22⟩ : ∃ q : Nat, (n0.fdiv 6).fmod 256 + 256 = (q : Int) ∧ 256 ≤ q ∧ q ≤ 511 := by
    have e := Int.fmod_eq_emod_of_nonneg (n0.fdiv 6) (show (0 : Int) ≤ 256 by decide)
    exact ⟨((n0.fdiv 6).fmod 256 + 256).toNat, by omega, by omega, by omega⟩
  (repeat' ((fail_if_success (with_reducible show wpAny _ _ (call (Value.ref _) _) _ _ _)); (fail_if_success (with_reducible show wpAny _ _ (exec (Stmt.While _ _ _ _) _) _ _ _)); (fail_if_success (with_reducible show wpAny _ _ (exec (Stmt.For _ _ _ _ _) _) _ _ _)); (fail_if_success (with_reducible show wpAny _ _ (call (Value.builtin "list.append") _) _ _ _)); (fail_if_success (with_reducible show wpAny _ _ (eval (Expr.ListComp _ _ _ _) _) _ _ _)); first | (k_unfold; (try dsimp only)) | walk1 | (dsimp only; walk1)))
  rename Fr _ _ _ _ => F4
  rename News _ _ _ _ => N4
  obtain ⟨m4, F5, e1, e2⟩ := frA2 (Str.ofString "size") (Str.ofString "told") F4 rfl rfl
  obtain ⟨tz, e3⟩ : ∃ t, m4 (Str.ofString "size") = some (.int (z : Int) t) := ⟨_, e1.trans (vint hz)⟩
  clear e1 F4
  replace F5 := frB2 F5 e3 e2
  refine Calls.use (signs_c w _ _ (show (0 : Int) ≤ n1.fmod 31 + 1 by omega) (show n1.fmod 31 + 1 ≤ 512 by omega) _) K0 F5 KX N4 T rfl ?_ ?_ ?_
  · decide +kernel
  · decide +kernel
  clear F5 N4
  intro tf h4 tk4 F4 N4
  (repeat' ((fail_if_success (with_reducible show wpAny _ _ (call (Value.ref _) _) _ _ _)); (fail_if_success (with_reducible show wpAny _ _ (exec (Stmt.While _ _ _ _) _) _ _ _)); (fail_if_success (with_reducible show wpAny _ _ (exec (Stmt.For _ _ _ _ _) _) _ _ _)); (fail_if_success (with_reducible show wpAny _ _ (call (Value.builtin "list.append") _) _ _ _)); (fail_if_success (with_reducible show wpAny _ _ (eval (Expr.ListComp _ _ _ _) _) _ _ _)); first | (k_unfold; (try dsimp only)) | walk1 | (dsimp only; walk1)))
  rename Fr _ _ _ _ => F4
  rename News _ _ _ _ => N4
  obtain ⟨m4, F5, e1, e2, e4⟩ := frA3 (Str.ofString "size") (Str.ofString "leaves") (Str.ofString "front") F4 rfl rfl rfl
  obtain ⟨tl, e5⟩ : ∃ t, m4 (Str.ofString "leaves") = some (.int (k : Int) t) := ⟨_, e2.trans (vint hk)⟩
  clear e2 F4
  replace F5 := frB3 F5 e1 e5 e4
  refine Calls.use (signs_c w _ _ (show (0 : Int) ≤ (n0.fdiv 6).fmod 256 + 256 by omega) (show (n0.fdiv 6).fmod 256 + 256 ≤ 512 by omega) _) K0 F5 KX N4 T rfl ?_ ?_ ?_
  · decide +kernel
  · decide +kernel
  clear F5 N4
  intro tt h4 tk4 F4 N4
  (repeat' ((fail_if_success (with_reducible show wpAny _ _ (call (Value.ref _) _) _ _ _)); (fail_if_success (with_reducible show wpAny _ _ (exec (Stmt.While _ _ _ _) _) _ _ _)); (fail_if_success (with_reducible show wpAny _ _ (exec (Stmt.For _ _ _ _ _) _) _ _ _)); (fail_if_success (with_reducible show wpAny _ _ (call (Value.builtin "list.append") _) _ _ _)); (fail_if_success (with_reducible show wpAny _ _ (eval (Expr.ListComp _ _ _ _) _) _ _ _)); first | (k_unfold; (try dsimp only)) | walk1 | (dsimp only; walk1)))
  rename Fr _ _ _ _ => F4
  rename News _ _ _ _ => N4
  obtain ⟨fr, hfr, hfc, hfl⟩ : ∃ fr : List Nat, sgS (n1.fmod 31 + 1) = toS fr ∧ (∀ c ∈ fr, c = 32 ∨ c = 9) ∧ fr = sgW q1 := ⟨sgW q1, by rw [hq1]; rfl, sgW_chars _, rfl⟩
  obtain ⟨tx, htx, htc, htl⟩ : ∃ tx : List Nat, sgS ((n0.fdiv 6).fmod 256 + 256) = toS tx ∧ (∀ c ∈ tx, c = 32 ∨ c = 9) ∧ tx = sgW q2 := ⟨sgW q2, by rw [hq2]; rfl, sgW_chars _, rfl⟩
  obtain ⟨m5, F5, c1, c2, c3, c4, c5⟩ := frA5 (Str.ofString "size") (Str.ofString "front") (Str.ofString "leaves") (Str.ofString "text") (Str.ofString "column") F4 rfl rfl rfl rfl rfl
  clear F4
  replace c2 : m5 (Str.ofString "front") = some (.str (toS fr) tf) := c2.trans (by rw [← hfr])
  replace c4 : m5 (Str.ofString "text") = some (.str (toS tx) tt) := c4.trans (by rw [← htx])
  replace F5 := frB5 F5 c1 c2 c3 c4 c5
  refine For_invVF F5 rfl rfl ?_
  walk1
  refine str_inv (JC z k fr tx tz tl tf tt _) rfl F5 N4 ⟨rfl, _, rfl, rfl, rfl, rfl, rfl⟩ ?_ ?_
  · clear F5 N4
    rintro i c t m₁ nx h tk own hc hoff ⟨rfl, tcol, hm1, hm2, hm3, hm4, hm5⟩ F1 N1
    replace F1 := frB6 (x0 := Str.ofString "sign") (x1 := Str.ofString "size") (x2 := Str.ofString "front") (x3 := Str.ofString "leaves") (x4 := Str.ofString "text") (x5 := Str.ofString "column") F1 rfl hm1 hm2 hm3 hm4 hm5
    have hc' : fr[i]? = some c := by rw [← toS_cps fr, Array.getElem?_toList]; exact hc
    have htk : fr.take (i + 1) = fr.take i ++ [c] := by rw [List.take_succ, hc']; rfl
    have hsn := colN_snoc z (fr.take i) c
    rw [← htk] at hsn
    replace N1 : News s₁.heap s₁.heap.objs.size h _ := N1
    replace F1 : Fr s₁.heap s₁.heap.objs.size h _ := F1
    (repeat' ((fail_if_success (with_reducible show wpAny _ _ (call (Value.ref _) _) _ _ _)); (fail_if_success (with_reducible show wpAny _ _ (exec (Stmt.While _ _ _ _) _) _ _ _)); (fail_if_success (with_reducible show wpAny _ _ (exec (Stmt.For _ _ _ _ _) _) _ _ _)); (fail_if_success (with_reducible show wpAny _ _ (call (Value.builtin "list.append") _) _ _ _)); (fail_if_success (with_reducible show wpAny _ _ (eval (Expr.ListComp _ _ _ _) _) _ _ _)); first | (k_unfold; (try dsimp only)) | walk1 | (dsimp only; walk1)))
    · rename (_ == Str.ofString " ") = true => ha
      rename Fr _ _ _ _ => F2
      rename News _ _ _ _ => N1
      rw [if_pos ((chr_eq c).mp (eq_of_beq ha))] at hsn
      exact endG0 F2 N1 ⟨rfl, _, rfl, rfl, rfl, rfl, vint hsn.symm⟩ hoff
    · rename (_ == Str.ofString " ") = false => ha
      rename Fr _ _ _ _ => F2
      rename News _ _ _ _ => N1
      rw [if_neg (fun e => by rw [(chr_eq c).mpr e, beq_self_eq_true] at ha; cases ha)] at hsn
      exact endG0 F2 N1 ⟨rfl, _, rfl, rfl, rfl, rfl, vint hsn.symm⟩ hoff
  · clear F5 N4
    rintro m₁ nx h tk ⟨rfl, tcol, hm1, hm2, hm3, hm4, hm5⟩ F1 N1
    replace F1 := frB5 F1 hm1 hm2 hm3 hm4 hm5
    have hfs : fr.take (toS fr).cps.size = fr := by
      rw [show (toS fr).cps.size = fr.length from rfl, List.take_length]
    rw [hfs] at F1
    replace N1 : News s₁.heap s₁.heap.objs.size h _ := N1
    replace F1 : Fr s₁.heap s₁.heap.objs.size h _ := F1
    have hf4 : fr.length ≤ 4 := by rw [hfl]; exact sgW_log q1 4 (by omega)
    have hf4s : (toS fr).length ≤ 4 := hf4
    (repeat' ((fail_if_success (with_reducible show wpAny _ _ (call (Value.ref _) _) _ _ _)); (fail_if_success (with_reducible show wpAny _ _ (exec (Stmt.While _ _ _ _) _) _ _ _)); (fail_if_success (with_reducible show wpAny _ _ (exec (Stmt.For _ _ _ _ _) _) _ _ _)); (fail_if_success (with_reducible show wpAny _ _ (call (Value.builtin "list.append") _) _ _ _)); (fail_if_success (with_reducible show wpAny _ _ (eval (Expr.ListComp _ _ _ _) _) _ _ _)); first | (k_unfold; (try dsimp only)) | walk1 | (dsimp only; walk1)))
    have hx0 : (toS fr ++ Str.ofString "x").cps.toList = fr ++ [120] := by rw [Str.cps_append, Array.toList_append]; rfl
    rename Fr _ _ _ _ => F1
    rename News _ _ _ _ => N1
    refine Calls.use (ws_c w _ _ fr hx0 hfc (by omega) _) K0 F1 KX N1 T rfl ?_ ?_ ?_
    · decide +kernel
    · decide +kernel
    clear F1 N1
    intro I D N CT vv k1 k2 k3 k4 k5 tn tt' tb sm h' tk' F1 N1 hvv
    (repeat' ((fail_if_success (with_reducible show wpAny _ _ (call (Value.ref _) _) _ _ _)); (fail_if_success (with_reducible show wpAny _ _ (exec (Stmt.While _ _ _ _) _) _ _ _)); (fail_if_success (with_reducible show wpAny _ _ (exec (Stmt.For _ _ _ _ _) _) _ _ _)); (fail_if_success (with_reducible show wpAny _ _ (call (Value.builtin "list.append") _) _ _ _)); (fail_if_success (with_reducible show wpAny _ _ (eval (Expr.ListComp _ _ _ _) _) _ _ _)); first | (k_unfold; (try dsimp only)) | walk1 | (dsimp only; walk1)))
    rename Fr _ _ _ _ => F1
    rename News _ _ _ _ => N1
    refine Calls.use (indent_c w _ _ _ _ I D N CT vv k1 k2 k3 k4 k5 tn tt' tb sm hvv (by have := (wsRun_bd fr).2.1; omega) z _ rfl hz1 hz6 tz) K0 F1 KX N1 T rfl ?_ ?_ ?_
    · decide +kernel
    · decide +kernel
    clear F1 N1
    intro t5 h5 tk5 F1 N1
    (repeat' ((fail_if_success (with_reducible show wpAny _ _ (call (Value.ref _) _) _ _ _)); (fail_if_success (with_reducible show wpAny _ _ (exec (Stmt.While _ _ _ _) _) _ _ _)); (fail_if_success (with_reducible show wpAny _ _ (exec (Stmt.For _ _ _ _ _) _) _ _ _)); (fail_if_success (with_reducible show wpAny _ _ (call (Value.builtin "list.append") _) _ _ _)); (fail_if_success (with_reducible show wpAny _ _ (eval (Expr.ListComp _ _ _ _) _) _ _ _)); first | (k_unfold; (try dsimp only)) | walk1 | (dsimp only; walk1)))
    rename Fr _ _ _ _ => F1
    rename News _ _ _ _ => N1
    rename_i D0 g1 lD H g2 lH g3 S' g4 lS g5 G' g6 lG g7
    replace N1 := nMain N1
    have lD2 := ltN lD.2
    have lH1 := ltN lH.1
    have lH3 := ltN lH.2.2
    have lS1 := ltN lS.1
    have lG1 := ltN lG.1
    refine While_inv2 (JH z k fr tx tz tl tf tt tcol H S' G' (s₁.heap.objs.size + 1) oc) (n₀ := k - 1) F1 N1 ?_ ?_
    · refine ⟨0, [.ref D0], [], [], 0, 0, 0, _, rfl, ?_, .nil, .nil, ?_, rfl, rfl, rfl, rfl, rfl, rfl, rfl, rfl, rfl, by omega⟩
      · show HIs _ _ [(lv z fr [], toS [])]
        rw [lv_nil]
        exact .cons (.head _) .nil
      · refine off_add ?_ (off_nil _)
        intro b hb
        simp only [List.mem_cons, List.not_mem_nil, or_false] at hb
        rcases hb with rfl | rfl | rfl | rfl
        · exact Nat.ne_of_lt (by omega)
        · exact Nat.ne_of_lt (by omega)
        · exact Nat.ne_of_lt (by omega)
        · exact Nat.ne_of_gt (by omega)
    · clear F1 N1
      rintro n m₁ nx h₁ tk₁ F1 N1 ⟨i, vs, sv, gv, e1, e2, e3, tb, rfl, hH, hS, hG, hO, hm1, hm2, hm3, hm4, hm5, hm6, hm7, hm8, hn, hik⟩
      replace F1 := frB8 F1 hm1 hm2 hm3 hm4 hm5 hm6 hm7 hm8
      have hvl : vs.length = i + 1 := hH.len.trans (hpIt_len z fr i)
      (repeat' ((fail_if_success (with_reducible show wpAny _ _ (call (Value.ref _) _) _ _ _)); (fail_if_success (with_reducible show wpAny _ _ (exec (Stmt.While _ _ _ _) _) _ _ _)); (fail_if_success (with_reducible show wpAny _ _ (exec (Stmt.For _ _ _ _ _) _) _ _ _)); (fail_if_success (with_reducible show wpAny _ _ (call (Value.builtin "list.append") _) _ _ _)); (fail_if_success (with_reducible show wpAny _ _ (call (Value.builtin "len") [Value.ref _]) _ _ _)); (fail_if_success (with_reducible show wpAny _ _ (subscriptTail _ _ (Value.ref _) (Value.int _ _)) _ _ _)); (fail_if_success (with_reducible show wpAny _ _ (eval (Expr.ListComp _ _ _ _) _) _ _ _)); first | (k_unfold; (try dsimp only)) | walk1 | (dsimp only; walk1)))
      rename News _ _ _ _ => N1
      refine len_led N1 (.head _) (by omega) ?_
      intro t6 tk6
      (repeat' ((fail_if_success (with_reducible show wpAny _ _ (call (Value.ref _) _) _ _ _)); (fail_if_success (with_reducible show wpAny _ _ (exec (Stmt.While _ _ _ _) _) _ _ _)); (fail_if_success (with_reducible show wpAny _ _ (exec (Stmt.For _ _ _ _ _) _) _ _ _)); (fail_if_success (with_reducible show wpAny _ _ (call (Value.builtin "list.append") _) _ _ _)); (fail_if_success (with_reducible show wpAny _ _ (call (Value.builtin "len") [Value.ref _]) _ _ _)); (fail_if_success (with_reducible show wpAny _ _ (subscriptTail _ _ (Value.ref _) (Value.int _ _)) _ _ _)); (fail_if_success (with_reducible show wpAny _ _ (eval (Expr.ListComp _ _ _ _) _) _ _ _)); first | (k_unfold; (try dsimp only)) | walk1 | (dsimp only; walk1)))
      · rename News _ _ _ _ => N1
        rename Fr _ _ _ _ => F1
        obtain ⟨x0, l0, hp0⟩ : ∃ x0 l0, (hpIt z fr i).1.getD 0 d0 = (x0, toS l0) := ⟨_, _, rfl⟩
        have hget := getD_some (xs := (hpIt z fr i).1) (i := 0) (by rw [hpIt_len]; omega)
        have hLd := getD_all (Ld_d0 i) (hpIt_ld z fr i) 0
        rw [hp0] at hget hLd
        have hl5 : l0.length ≤ i := hLd.2
        have hlc : ∀ c ∈ l0, c = 32 ∨ c = 9 := hLd.1
        have hl5s : (toS l0).length ≤ 5 := by show l0.length ≤ 5; omega
        obtain ⟨a0, u1, u2, u3, hv0, hm0⟩ := hH.get hget
        dsimp only at hm0
        refine item_led N1 (.head _) (by decide) (by decide) hv0 ?_
        replace N1 := nAdd (x := (a0, _)) N1 (.tail _ (.tail _ (.tail _ (.tail _ hm0))))
        (repeat' ((fail_if_success (with_reducible show wpAny _ _ (call (Value.ref _) _) _ _ _)); (fail_if_success (with_reducible show wpAny _ _ (exec (Stmt.While _ _ _ _) _) _ _ _)); (fail_if_success (with_reducible show wpAny _ _ (exec (Stmt.For _ _ _ _ _) _) _ _ _)); (fail_if_success (with_reducible show wpAny _ _ (call (Value.builtin "list.append") _) _ _ _)); (fail_if_success (with_reducible show wpAny _ _ (call (Value.builtin "len") [Value.ref _]) _ _ _)); (fail_if_success (with_reducible show wpAny _ _ (subscriptTail _ _ (Value.ref _) (Value.int _ _)) _ _ _)); (fail_if_success (with_reducible show wpAny _ _ (eval (Expr.ListComp _ _ _ _) _) _ _ _)); first | (k_unfold; (try dsimp only)) | walk1 | (dsimp only; walk1)))
        rename Fr _ _ _ _ => F2
        rename News _ _ _ _ => N2
        refine append_led F2 (nP21 (nTl N2)) (off_cons (Nat.ne_of_lt lS1) (off_cons (Nat.ne_of_gt lG1) (off_cons (Nat.ne_of_lt (by omega)) (off_one hO (.tail _ (.head _)))))) (by rw [hS.length, hpIt_st_len]; omega) ?_
        clear F2 N2
        intro h3 F2 N2
        replace N2 := nP21 N2
        (repeat' ((fail_if_success (with_reducible show wpAny _ _ (call (Value.ref _) _) _ _ _)); (fail_if_success (with_reducible show wpAny _ _ (exec (Stmt.While _ _ _ _) _) _ _ _)); (fail_if_success (with_reducible show wpAny _ _ (exec (Stmt.For _ _ _ _ _) _) _ _ _)); (fail_if_success (with_reducible show wpAny _ _ (call (Value.builtin "list.append") _) _ _ _)); (fail_if_success (with_reducible show wpAny _ _ (call (Value.builtin "len") [Value.ref _]) _ _ _)); (fail_if_success (with_reducible show wpAny _ _ (subscriptTail _ _ (Value.ref _) (Value.int _ _)) _ _ _)); (fail_if_success (with_reducible show wpAny _ _ (eval (Expr.ListComp _ _ _ _) _) _ _ _)); first | (k_unfold; (try dsimp only)) | walk1 | (dsimp only; walk1)))
        rename Fr _ _ _ _ => F2
        rename News _ _ _ _ => N2
        refine append_led F2 (nP312 N2) (off_cons (Nat.ne_of_lt (by omega)) (off_cons (Nat.ne_of_lt lG1) (off_cons (Nat.ne_of_lt (by omega)) (off_one hO (.tail _ (.tail _ (.head _))))))) (by rw [strs_len hG, hpIt_gn_len]; omega) ?_
        clear F2 N2
        intro h4 F2 N2
        replace N2 := nP231 N2
        (repeat' ((fail_if_success (with_reducible show wpAny _ _ (call (Value.ref _) _) _ _ _)); (fail_if_success (with_reducible show wpAny _ _ (exec (Stmt.While _ _ _ _) _) _ _ _)); (fail_if_success (with_reducible show wpAny _ _ (exec (Stmt.For _ _ _ _ _) _) _ _ _)); (fail_if_success (with_reducible show wpAny _ _ (call (Value.builtin "list.append") _) _ _ _)); (fail_if_success (with_reducible show wpAny _ _ (call (Value.builtin "len") [Value.ref _]) _ _ _)); (fail_if_success (with_reducible show wpAny _ _ (subscriptTail _ _ (Value.ref _) (Value.int _ _)) _ _ _)); (fail_if_success (with_reducible show wpAny _ _ (eval (Expr.ListComp _ _ _ _) _) _ _ _)); first | (k_unfold; (try dsimp only)) | walk1 | (dsimp only; walk1)))
        have hchS : ∀ c ∈ fr ++ (l0 ++ [32]), c = 32 ∨ c = 9 := fun c hc => by
          rcases List.mem_append.mp hc with hc | hc
          · exact hfc c hc
          rcases List.mem_append.mp hc with hc | hc
          · exact hlc c hc
          · exact .inl (List.mem_singleton.mp hc)
        have hchT : ∀ c ∈ fr ++ (l0 ++ [9]), c = 32 ∨ c = 9 := fun c hc => by
          rcases List.mem_append.mp hc with hc | hc
          · exact hfc c hc
          rcases List.mem_append.mp hc with hc | hc
          · exact hlc c hc
          · exact .inr (List.mem_singleton.mp hc)
        have hlS : (fr ++ (l0 ++ [32])).length ≤ 20 := by rw [List.length_append, List.length_append]; simp only [List.length_singleton]; omega
        have hlT : (fr ++ (l0 ++ [9])).length ≤ 20 := by rw [List.length_append, List.length_append]; simp only [List.length_singleton]; omega
        rename Fr _ _ _ _ => F2
        rename News _ _ _ _ => N2
        refine Calls.use (ws_c w _ _ (fr ++ (l0 ++ [32])) (sp_x fr l0) hchS hlS _) K0 F2 KX N2 T rfl ?_ ?_ ?_
        · decide +kernel
        · decide +kernel
        clear F2 N2
        intro I D N CT vv k1 k2 k3 k4 k5 tn tt' tb' sm h' tk' F2 N2 hvv
        (repeat' ((fail_if_success (with_reducible show wpAny _ _ (call (Value.ref _) _) _ _ _)); (fail_if_success (with_reducible show wpAny _ _ (exec (Stmt.While _ _ _ _) _) _ _ _)); (fail_if_success (with_reducible show wpAny _ _ (exec (Stmt.For _ _ _ _ _) _) _ _ _)); (fail_if_success (with_reducible show wpAny _ _ (call (Value.builtin "list.append") _) _ _ _)); (fail_if_success (with_reducible show wpAny _ _ (call (Value.builtin "len") [Value.ref _]) _ _ _)); (fail_if_success (with_reducible show wpAny _ _ (subscriptTail _ _ (Value.ref _) (Value.int _ _)) _ _ _)); (fail_if_success (with_reducible show wpAny _ _ (eval (Expr.ListComp _ _ _ _) _) _ _ _)); first | (k_unfold; (try dsimp only)) | walk1 | (dsimp only; walk1)))
        rename Fr _ _ _ _ => F2
        rename News _ _ _ _ => N2
        refine Calls.use (indent_c w _ _ _ _ I D N CT vv k1 k2 k3 k4 k5 tn tt' tb' sm hvv (by have := (wsRun_bd (fr ++ (l0 ++ [32]))).2.1; omega) z _ rfl hz1 hz6 tz) K0 F2 KX N2 T rfl ?_ ?_ ?_
        · decide +kernel
        · decide +kernel
        clear F2 N2
        intro t5 h5 tk5 F2 N2
        (repeat' ((fail_if_success (with_reducible show wpAny _ _ (call (Value.ref _) _) _ _ _)); (fail_if_success (with_reducible show wpAny _ _ (exec (Stmt.While _ _ _ _) _) _ _ _)); (fail_if_success (with_reducible show wpAny _ _ (exec (Stmt.For _ _ _ _ _) _) _ _ _)); (fail_if_success (with_reducible show wpAny _ _ (call (Value.builtin "list.append") _) _ _ _)); (fail_if_success (with_reducible show wpAny _ _ (call (Value.builtin "len") [Value.ref _]) _ _ _)); (fail_if_success (with_reducible show wpAny _ _ (subscriptTail _ _ (Value.ref _) (Value.int _ _)) _ _ _)); (fail_if_success (with_reducible show wpAny _ _ (eval (Expr.ListComp _ _ _ _) _) _ _ _)); first | (k_unfold; (try dsimp only)) | walk1 | (dsimp only; walk1)))
        rename Fr _ _ _ _ => F2
        rename News _ _ _ _ => N2
        rename _ ∧ _ ∧ _ ∧ _ ∧ AllLt _ _ => l1
        rename_i T1 _
        rw [sp_l] at N2
        have lt1 := ltN l1.1
        have lt2 := ltN l1.2.1
        have lt3 := ltN l1.2.2.1
        have lt4 := ltN l1.2.2.2.1
        refine Calls.use (heapreplace_c w H e1 _ (off_cons (Nat.ne_of_gt lt1) (off_cons (Nat.ne_of_gt lS1) (off_cons (Nat.ne_of_gt (by omega)) (off_cons (Nat.ne_of_lt lH3) (off_one hO (.head _)))))) vs _
          (hH.mono fun p hp => .tail _ (.tail _ (.tail _ (.tail _ hp)))) (by rw [hpIt_len]; omega) (by rw [hpIt_len]; omega) T1 (lv z fr (l0 ++ [32]), toS (l0 ++ [32])) t5 _ 0 (.head _)) K0 F2 KX (nP21 N2) T rfl ?_ ?_ ?_
        · decide +kernel
        · decide +kernel
        clear F2 N2
        intro a1 vs1 h6 tk6 F2 N2 hH1
        replace hH1 := hDrop dR hH1
        replace N2 := nP13452 N2
        (repeat' ((fail_if_success (with_reducible show wpAny _ _ (call (Value.ref _) _) _ _ _)); (fail_if_success (with_reducible show wpAny _ _ (exec (Stmt.While _ _ _ _) _) _ _ _)); (fail_if_success (with_reducible show wpAny _ _ (exec (Stmt.For _ _ _ _ _) _) _ _ _)); (fail_if_success (with_reducible show wpAny _ _ (call (Value.builtin "list.append") _) _ _ _)); (fail_if_success (with_reducible show wpAny _ _ (call (Value.builtin "len") [Value.ref _]) _ _ _)); (fail_if_success (with_reducible show wpAny _ _ (subscriptTail _ _ (Value.ref _) (Value.int _ _)) _ _ _)); (fail_if_success (with_reducible show wpAny _ _ (eval (Expr.ListComp _ _ _ _) _) _ _ _)); first | (k_unfold; (try dsimp only)) | walk1 | (dsimp only; walk1)))
        rename Fr _ _ _ _ => F2
        rename News _ _ _ _ => N2
        refine Calls.use (ws_c w _ _ (fr ++ (l0 ++ [9])) (tb_x fr l0) hchT hlT _) K0 F2 KX N2 T rfl ?_ ?_ ?_
        · decide +kernel
        · decide +kernel
        clear F2 N2
        intro I2 D2' N2' CT2 vv2 k1 k2 k3 k4 k5 tn tt' tb' sm h' tk' F2 N2 hvv2
        (repeat' ((fail_if_success (with_reducible show wpAny _ _ (call (Value.ref _) _) _ _ _)); (fail_if_success (with_reducible show wpAny _ _ (exec (Stmt.While _ _ _ _) _) _ _ _)); (fail_if_success (with_reducible show wpAny _ _ (exec (Stmt.For _ _ _ _ _) _) _ _ _)); (fail_if_success (with_reducible show wpAny _ _ (call (Value.builtin "list.append") _) _ _ _)); (fail_if_success (with_reducible show wpAny _ _ (call (Value.builtin "len") [Value.ref _]) _ _ _)); (fail_if_success (with_reducible show wpAny _ _ (subscriptTail _ _ (Value.ref _) (Value.int _ _)) _ _ _)); (fail_if_success (with_reducible show wpAny _ _ (eval (Expr.ListComp _ _ _ _) _) _ _ _)); first | (k_unfold; (try dsimp only)) | walk1 | (dsimp only; walk1)))
        rename Fr _ _ _ _ => F2
        rename News _ _ _ _ => N2
        refine Calls.use (indent_c w _ _ _ _ I2 D2' N2' CT2 vv2 k1 k2 k3 k4 k5 tn tt' tb' sm hvv2 (by have := (wsRun_bd (fr ++ (l0 ++ [9]))).2.1; omega) z _ rfl hz1 hz6 tz) K0 F2 KX N2 T rfl ?_ ?_ ?_
        · decide +kernel
        · decide +kernel
        clear F2 N2
        intro t7 h7 tk7 F2 N2
        (repeat' ((fail_if_success (with_reducible show wpAny _ _ (call (Value.ref _) _) _ _ _)); (fail_if_success (with_reducible show wpAny _ _ (exec (Stmt.While _ _ _ _) _) _ _ _)); (fail_if_success (with_reducible show wpAny _ _ (exec (Stmt.For _ _ _ _ _) _) _ _ _)); (fail_if_success (with_reducible show wpAny _ _ (call (Value.builtin "list.append") _) _ _ _)); (fail_if_success (with_reducible show wpAny _ _ (call (Value.builtin "len") [Value.ref _]) _ _ _)); (fail_if_success (with_reducible show wpAny _ _ (subscriptTail _ _ (Value.ref _) (Value.int _ _)) _ _ _)); (fail_if_success (with_reducible show wpAny _ _ (eval (Expr.ListComp _ _ _ _) _) _ _ _)); first | (k_unfold; (try dsimp only)) | walk1 | (dsimp only; walk1)))
        rename Fr _ _ _ _ => F2
        rename News _ _ _ _ => N2
        rename _ ∧ _ ∧ _ ∧ _ ∧ _ ∧ AllLt _ _ => l2
        rename_i T2 _
        rw [tb_l] at N2
        have lu1 := ltN l2.1
        have lu2 := ltN l2.2.1
        have lu3 := ltN l2.2.2.1
        have lu4 := ltN l2.2.2.2.1
        have lu5 := ltN l2.2.2.2.2.1
        refine Calls.use (heappush_c w H e1 _ (off_cons (Nat.ne_of_gt lu1) (off_cons (Nat.ne_of_gt lS1) (off_cons (Nat.ne_of_gt (by omega)) (off_cons (Nat.ne_of_lt lH3) (off_cons (Nat.ne_of_gt lt1) (off_one hO (.head _))))))) vs1 _
          (hH1.mono fun p hp => .tail _ (.tail _ (.tail _ (.tail _ hp)))) (by rw [sup_len, List.length_set, hpIt_len]; omega) T2 (lv z fr (l0 ++ [9]), toS (l0 ++ [9])) t7 _ 0 (.head _)) K0 F2 KX (nP21 N2) T rfl ?_ ?_ ?_
        · decide +kernel
        · decide +kernel
        clear F2 N2
        intro vs2 h8 tk8 F2 N2 hH2
        replace hH2 := hDrop dR hH2
        replace N2 := nP13452 N2
        have hsucc := hpIt_succ hp0
        (repeat' ((fail_if_success (with_reducible show wpAny _ _ (call (Value.ref _) _) _ _ _)); (fail_if_success (with_reducible show wpAny _ _ (exec (Stmt.While _ _ _ _) _) _ _ _)); (fail_if_success (with_reducible show wpAny _ _ (exec (Stmt.For _ _ _ _ _) _) _ _ _)); (fail_if_success (with_reducible show wpAny _ _ (call (Value.builtin "list.append") _) _ _ _)); (fail_if_success (with_reducible show wpAny _ _ (call (Value.builtin "len") [Value.ref _]) _ _ _)); (fail_if_success (with_reducible show wpAny _ _ (subscriptTail _ _ (Value.ref _) (Value.int _ _)) _ _ _)); (fail_if_success (with_reducible show wpAny _ _ (eval (Expr.ListComp _ _ _ _) _) _ _ _)); first | (k_unfold; (try dsimp only)) | walk1 | (dsimp only; walk1)))
        rename Fr _ _ _ _ => F2
        rename News _ _ _ _ => N2
        refine ws_next F2 N2 (n' := k - (i + 1 + 1)) (by omega) ⟨i + 1, vs2, _, _, _, _, _, _, rfl, ?_, ?_, ?_, ?_, rfl, rfl, rfl, rfl, rfl, rfl, rfl, rfl, rfl, by omega⟩
        · rw [hsucc]; exact hH2
        · rw [hsucc]; exact ints_snoc hS
        · rw [hsucc]; exact strs_snoc' hG
        · refine off_add ?_ (off_add ?_ hO)
          · intro b hb
            simp only [List.mem_cons, List.not_mem_nil, or_false] at hb
            rcases hb with rfl | rfl | rfl | rfl <;> exact Nat.ne_of_gt (by assumption)
          · intro b hb
            simp only [List.mem_cons, List.not_mem_nil, or_false] at hb
            rcases hb with rfl | rfl | rfl | rfl <;> exact Nat.ne_of_gt (by assumption)
      · have hki : k = i + 1 := by omega
        subst hki
        obtain ⟨hP1, hP2, hP3, hP4, hP5, hP6⟩ := pl z q1 (i + 1) q2 hz1 hz6 hq11 hq12 hk2 hk6 hq21 hq22
        rw [← hfl, Nat.add_sub_cancel] at hP1 hP2 hP3 hP4 hP5 hP6
        rw [← htl] at hP6
        rename Fr _ _ _ _ => F1
        rename News _ _ _ _ => N1
        refine Calls.use (due_c w i z _ (colN z fr) _ (show ((i + 1 : Nat) : Int) - 1 = (i : Int) by omega) rfl (by omega) (by omega) hz1 hz6 _ _ _ _) K0 F1 KX N1 T rfl ?_ ?_ ?_
        · decide +kernel
        · decide +kernel
        clear F1 N1
        intro h9 tk9 D9 ws9 F1 N1 hI9 l9
        (repeat' ((fail_if_success (with_reducible show wpAny _ _ (call (Value.ref _) _) _ _ _)); (fail_if_success (with_reducible show wpAny _ _ (exec (Stmt.While _ _ _ _) _) _ _ _)); (fail_if_success (with_reducible show wpAny _ _ (exec (Stmt.For _ _ _ _ _) _) _ _ _)); (fail_if_success (with_reducible show wpAny _ _ (call (Value.builtin "list.append") _) _ _ _)); (fail_if_success (with_reducible show wpAny _ _ (call (Value.builtin "len") [Value.ref _]) _ _ _)); (fail_if_success (with_reducible show wpAny _ _ (call (Value.builtin "sum") [Value.ref _]) _ _ _)); (fail_if_success (with_reducible show wpAny _ _ (call (Value.builtin "max") [Value.ref _]) _ _ _)); (fail_if_success (with_reducible show wpAny _ _ (compareOp _ (Value.ref _) (Value.ref _)) _ _ _)); (fail_if_success (with_reducible show wpAny _ _ (compareOp _ (Value.str _ _) (Value.ref _)) _ _ _)); (fail_if_success (with_reducible show wpAny _ _ (exec (Stmt.Assign [Expr.Name _ _] (Expr.ListComp _ _ _ _) _) _) _ _ _)); (fail_if_success (with_reducible show LCg.CompSrc _ _ _ _ _ _ _ _ _ _ _ _ _ _)); (fail_if_success (with_reducible show LCt.CompSrcT _ _ _ _ _ _ _ _ _ _ _ _ _ _ _)); (fail_if_success (with_reducible show LCg.CompEnd _ _ _ _ _ _ _ _ _ _ _ _ _ _)); (fail_if_success (with_reducible show wpAny _ _ (subscriptTail _ _ (Value.ref _) (Value.int _ _)) _ _ _)); first | (k_unfold; (try dsimp only)) | walk1 | (dsimp only; walk1)))
        rename Fr _ _ _ _ => F1
        rename News _ _ _ _ => N1
        refine ke_ne_ints (News.isList N1 (.tail _ (.tail _ (.head _)))) (News.isList N1 (.head _)) hS hI9 (show callerA.units + 3 + 64 < cLine by decide +kernel) ?_
        rw [decide_eq_true hP1]
        replace N1 := nTl N1
        (repeat' ((fail_if_success (with_reducible show wpAny _ _ (call (Value.ref _) _) _ _ _)); (fail_if_success (with_reducible show wpAny _ _ (exec (Stmt.While _ _ _ _) _) _ _ _)); (fail_if_success (with_reducible show wpAny _ _ (exec (Stmt.For _ _ _ _ _) _) _ _ _)); (fail_if_success (with_reducible show wpAny _ _ (call (Value.builtin "list.append") _) _ _ _)); (fail_if_success (with_reducible show wpAny _ _ (call (Value.builtin "len") [Value.ref _]) _ _ _)); (fail_if_success (with_reducible show wpAny _ _ (call (Value.builtin "sum") [Value.ref _]) _ _ _)); (fail_if_success (with_reducible show wpAny _ _ (call (Value.builtin "max") [Value.ref _]) _ _ _)); (fail_if_success (with_reducible show wpAny _ _ (compareOp _ (Value.ref _) (Value.ref _)) _ _ _)); (fail_if_success (with_reducible show wpAny _ _ (compareOp _ (Value.str _ _) (Value.ref _)) _ _ _)); (fail_if_success (with_reducible show wpAny _ _ (exec (Stmt.Assign [Expr.Name _ _] (Expr.ListComp _ _ _ _) _) _) _ _ _)); (fail_if_success (with_reducible show LCg.CompSrc _ _ _ _ _ _ _ _ _ _ _ _ _ _)); (fail_if_success (with_reducible show LCt.CompSrcT _ _ _ _ _ _ _ _ _ _ _ _ _ _ _)); (fail_if_success (with_reducible show LCg.CompEnd _ _ _ _ _ _ _ _ _ _ _ _ _ _)); (fail_if_success (with_reducible show wpAny _ _ (subscriptTail _ _ (Value.ref _) (Value.int _ _)) _ _ _)); first | (k_unfold; (try dsimp only)) | walk1 | (dsimp only; walk1)))
        k_dflt (refine LCg.Assign_ListComp_U (F₀ := by k_asm) (by rfl) (by with_unfolding_all rfl) (by rfl) (by decide) (by rfl) (by decide) (by rfl) (by rfl) (by rfl) ?_)
        (repeat' ((fail_if_success (with_reducible show wpAny _ _ (call (Value.ref _) _) _ _ _)); (fail_if_success (with_reducible show wpAny _ _ (exec (Stmt.While _ _ _ _) _) _ _ _)); (fail_if_success (with_reducible show wpAny _ _ (exec (Stmt.For _ _ _ _ _) _) _ _ _)); (fail_if_success (with_reducible show wpAny _ _ (call (Value.builtin "list.append") _) _ _ _)); (fail_if_success (with_reducible show wpAny _ _ (call (Value.builtin "len") [Value.ref _]) _ _ _)); (fail_if_success (with_reducible show wpAny _ _ (call (Value.builtin "sum") [Value.ref _]) _ _ _)); (fail_if_success (with_reducible show wpAny _ _ (call (Value.builtin "max") [Value.ref _]) _ _ _)); (fail_if_success (with_reducible show wpAny _ _ (compareOp _ (Value.ref _) (Value.ref _)) _ _ _)); (fail_if_success (with_reducible show wpAny _ _ (compareOp _ (Value.str _ _) (Value.ref _)) _ _ _)); (fail_if_success (with_reducible show wpAny _ _ (exec (Stmt.Assign [Expr.Name _ _] (Expr.ListComp _ _ _ _) _) _) _ _ _)); (fail_if_success (with_reducible show LCg.CompSrc _ _ _ _ _ _ _ _ _ _ _ _ _ _)); (fail_if_success (with_reducible show LCt.CompSrcT _ _ _ _ _ _ _ _ _ _ _ _ _ _ _)); (fail_if_success (with_reducible show LCg.CompEnd _ _ _ _ _ _ _ _ _ _ _ _ _ _)); (fail_if_success (with_reducible show wpAny _ _ (subscriptTail _ _ (Value.ref _) (Value.int _ _)) _ _ _)); first | (k_unfold; (try dsimp only)) | walk1 | (dsimp only; walk1)))
        rename Fr _ _ _ _ => F1
        rename News _ _ _ _ => N1
        refine LCg.CompSrc.ledger rfl F1 N1 (.head _) (by rw [List.size_toArray, sizeLine_eq]; omega) ?_
        intro g9
        refine comp_all vs.toArray.size (fun j ys => IntsAre ys (((hpIt z fr i).1.take j).map (·.1))) ?_ ?_ _ 0 [] (by omega) .nil
        · intro j ys hj hJ v I oI C oC D m₂ h tk E' hv hC hx F7 N7 off ne
          obtain ⟨x, a, t, u, n, hxj, rfl, hm⟩ := item_of hH (show vs[j]? = some v by simpa using hv)
          have N8 := nAdd (x := (a, pairO x.1 t x.2 u n)) N7 (.tail _ (.tail _ (.tail _ (.tail _ (.tail _ (.tail _ (.tail _ hm)))))))
          (repeat' ((fail_if_success (with_reducible show wpAny _ _ (call (Value.ref _) _) _ _ _)); (fail_if_success (with_reducible show LCg.CompEnd _ _ _ _ _ _ _ _ _ _ _ _ _ _)); first | (k_unfold; (try dsimp only)) | walk1 | (dsimp only; walk1)))
          exact LCg.CompEnd.intro F7 N7 _ (fun p hp => hp) off (.inr ⟨_, .head _, rfl, _, rfl⟩) ⟨rfl, by rw [take_map _ _ _ _ hxj]; exact ints_snoc hJ⟩
        · intro ys hJ
          unfold LCg.FinA
          intro D6 h6 tk6 F7 N7 o6
          have hxt : (hpIt z fr i).1.take vs.toArray.size = (hpIt z fr i).1 := by
            rw [List.size_toArray, hH.len, List.take_length]
          rw [hxt] at hJ
          (repeat' ((fail_if_success (with_reducible show wpAny _ _ (call (Value.ref _) _) _ _ _)); (fail_if_success (with_reducible show wpAny _ _ (exec (Stmt.While _ _ _ _) _) _ _ _)); (fail_if_success (with_reducible show wpAny _ _ (exec (Stmt.For _ _ _ _ _) _) _ _ _)); (fail_if_success (with_reducible show wpAny _ _ (call (Value.builtin "list.append") _) _ _ _)); (fail_if_success (with_reducible show wpAny _ _ (call (Value.builtin "len") [Value.ref _]) _ _ _)); (fail_if_success (with_reducible show wpAny _ _ (call (Value.builtin "sum") [Value.ref _]) _ _ _)); (fail_if_success (with_reducible show wpAny _ _ (call (Value.builtin "max") [Value.ref _]) _ _ _)); (fail_if_success (with_reducible show wpAny _ _ (compareOp _ (Value.ref _) (Value.ref _)) _ _ _)); (fail_if_success (with_reducible show wpAny _ _ (compareOp _ (Value.str _ _) (Value.ref _)) _ _ _)); (fail_if_success (with_reducible show wpAny _ _ (exec (Stmt.Assign [Expr.Name _ _] (Expr.ListComp _ _ _ _) _) _) _ _ _)); (fail_if_success (with_reducible show LCg.CompSrc _ _ _ _ _ _ _ _ _ _ _ _ _ _)); (fail_if_success (with_reducible show LCt.CompSrcT _ _ _ _ _ _ _ _ _ _ _ _ _ _ _)); (fail_if_success (with_reducible show LCg.CompEnd _ _ _ _ _ _ _ _ _ _ _ _ _ _)); (fail_if_success (with_reducible show wpAny _ _ (subscriptTail _ _ (Value.ref _) (Value.int _ _)) _ _ _)); first | (k_unfold; (try dsimp only)) | walk1 | (dsimp only; walk1)))
          rename Fr _ _ _ _ => F7
          rename News _ _ _ _ => N7
          refine sumK rfl F7 N7 ⟨_, N7.get (.head _), rfl, _, rfl⟩ hJ ?_
          clear F7 N7
          intro h7 tk7 t7 F7 N7
          (repeat' ((fail_if_success (with_reducible show wpAny _ _ (call (Value.ref _) _) _ _ _)); (fail_if_success (with_reducible show wpAny _ _ (exec (Stmt.While _ _ _ _) _) _ _ _)); (fail_if_success (with_reducible show wpAny _ _ (exec (Stmt.For _ _ _ _ _) _) _ _ _)); (fail_if_success (with_reducible show wpAny _ _ (call (Value.builtin "list.append") _) _ _ _)); (fail_if_success (with_reducible show wpAny _ _ (call (Value.builtin "len") [Value.ref _]) _ _ _)); (fail_if_success (with_reducible show wpAny _ _ (call (Value.builtin "sum") [Value.ref _]) _ _ _)); (fail_if_success (with_reducible show wpAny _ _ (call (Value.builtin "max") [Value.ref _]) _ _ _)); (fail_if_success (with_reducible show wpAny _ _ (compareOp _ (Value.ref _) (Value.ref _)) _ _ _)); (fail_if_success (with_reducible show wpAny _ _ (compareOp _ (Value.str _ _) (Value.ref _)) _ _ _)); (fail_if_success (with_reducible show wpAny _ _ (exec (Stmt.Assign [Expr.Name _ _] (Expr.ListComp _ _ _ _) _) _) _ _ _)); (fail_if_success (with_reducible show LCg.CompSrc _ _ _ _ _ _ _ _ _ _ _ _ _ _)); (fail_if_success (with_reducible show LCt.CompSrcT _ _ _ _ _ _ _ _ _ _ _ _ _ _ _)); (fail_if_success (with_reducible show LCg.CompEnd _ _ _ _ _ _ _ _ _ _ _ _ _ _)); (fail_if_success (with_reducible show wpAny _ _ (subscriptTail _ _ (Value.ref _) (Value.int _ _)) _ _ _)); first | (k_unfold; (try dsimp only)) | walk1 | (dsimp only; walk1)))
          rename Fr _ _ _ _ => F7
          rename News _ _ _ _ => N7
          refine kso_max F7 N7 ⟨_, N7.get (.head _), rfl, _, rfl⟩ hJ (by rw [List.length_map, hpIt_len]; omega) rfl ?_
          clear F7 N7
          intro h8 M t8 tk8 F7 N7 hM hMb
          obtain rfl : M = (lsF 6 (i + 1) (colN z fr) z).2 := Int.le_antisymm (hP4 M hM) (hMb _ hP3)
          clear hM hMb
          rw [hP2]
          replace N7 := nTl N7
          (repeat' ((fail_if_success (with_reducible show wpAny _ _ (call (Value.ref _) _) _ _ _)); (fail_if_success (with_reducible show wpAny _ _ (exec (Stmt.While _ _ _ _) _) _ _ _)); (fail_if_success (with_reducible show wpAny _ _ (exec (Stmt.For _ _ _ _ _) _) _ _ _)); (fail_if_success (with_reducible show wpAny _ _ (call (Value.builtin "list.append") _) _ _ _)); (fail_if_success (with_reducible show wpAny _ _ (call (Value.builtin "len") [Value.ref _]) _ _ _)); (fail_if_success (with_reducible show wpAny _ _ (call (Value.builtin "sum") [Value.ref _]) _ _ _)); (fail_if_success (with_reducible show wpAny _ _ (call (Value.builtin "max") [Value.ref _]) _ _ _)); (fail_if_success (with_reducible show wpAny _ _ (compareOp _ (Value.ref _) (Value.ref _)) _ _ _)); (fail_if_success (with_reducible show wpAny _ _ (compareOp _ (Value.str _ _) (Value.ref _)) _ _ _)); (fail_if_success (with_reducible show wpAny _ _ (exec (Stmt.Assign [Expr.Name _ _] (Expr.ListComp _ _ _ _) _) _) _ _ _)); (fail_if_success (with_reducible show LCg.CompSrc _ _ _ _ _ _ _ _ _ _ _ _ _ _)); (fail_if_success (with_reducible show LCt.CompSrcT _ _ _ _ _ _ _ _ _ _ _ _ _ _ _)); (fail_if_success (with_reducible show LCg.CompEnd _ _ _ _ _ _ _ _ _ _ _ _ _ _)); (fail_if_success (with_reducible show wpAny _ _ (subscriptTail _ _ (Value.ref _) (Value.int _ _)) _ _ _)); first | (k_unfold; (try dsimp only)) | walk1 | (dsimp only; walk1)))
          rename Fr _ _ _ _ => F7
          rename News _ _ _ _ => N7
          refine Calls.use (least_c w 6 (by decide) (i + 1) (by omega) hk6 _ (colN z fr) _ rfl _ _ _ (by omega) _) K0 F7 KX N7 T rfl ?_ ?_ ?_
          · decide +kernel
          · decide +kernel
          clear F7 N7
          intro D8 t9 t10 c8 h9' tk9' F7 N7 l8
          (repeat' ((fail_if_success (with_reducible show wpAny _ _ (call (Value.ref _) _) _ _ _)); (fail_if_success (with_reducible show wpAny _ _ (exec (Stmt.While _ _ _ _) _) _ _ _)); (fail_if_success (with_reducible show wpAny _ _ (exec (Stmt.For _ _ _ _ _) _) _ _ _)); (fail_if_success (with_reducible show wpAny _ _ (call (Value.builtin "list.append") _) _ _ _)); (fail_if_success (with_reducible show wpAny _ _ (call (Value.builtin "len") [Value.ref _]) _ _ _)); (fail_if_success (with_reducible show wpAny _ _ (call (Value.builtin "sum") [Value.ref _]) _ _ _)); (fail_if_success (with_reducible show wpAny _ _ (call (Value.builtin "max") [Value.ref _]) _ _ _)); (fail_if_success (with_reducible show wpAny _ _ (compareOp _ (Value.ref _) (Value.ref _)) _ _ _)); (fail_if_success (with_reducible show wpAny _ _ (compareOp _ (Value.str _ _) (Value.ref _)) _ _ _)); (fail_if_success (with_reducible show wpAny _ _ (exec (Stmt.Assign [Expr.Name _ _] (Expr.ListComp _ _ _ _) _) _) _ _ _)); (fail_if_success (with_reducible show LCg.CompSrc _ _ _ _ _ _ _ _ _ _ _ _ _ _)); (fail_if_success (with_reducible show LCt.CompSrcT _ _ _ _ _ _ _ _ _ _ _ _ _ _ _)); (fail_if_success (with_reducible show LCg.CompEnd _ _ _ _ _ _ _ _ _ _ _ _ _ _)); (fail_if_success (with_reducible show wpAny _ _ (subscriptTail _ _ (Value.ref _) (Value.int _ _)) _ _ _)); first | (k_unfold; (try dsimp only)) | walk1 | (dsimp only; walk1)))
          walk1
          (repeat' ((fail_if_success (with_reducible show wpAny _ _ (call (Value.ref _) _) _ _ _)); (fail_if_success (with_reducible show wpAny _ _ (exec (Stmt.While _ _ _ _) _) _ _ _)); (fail_if_success (with_reducible show wpAny _ _ (exec (Stmt.For _ _ _ _ _) _) _ _ _)); (fail_if_success (with_reducible show wpAny _ _ (call (Value.builtin "list.append") _) _ _ _)); (fail_if_success (with_reducible show wpAny _ _ (call (Value.builtin "len") [Value.ref _]) _ _ _)); (fail_if_success (with_reducible show wpAny _ _ (call (Value.builtin "sum") [Value.ref _]) _ _ _)); (fail_if_success (with_reducible show wpAny _ _ (call (Value.builtin "max") [Value.ref _]) _ _ _)); (fail_if_success (with_reducible show wpAny _ _ (compareOp _ (Value.ref _) (Value.ref _)) _ _ _)); (fail_if_success (with_reducible show wpAny _ _ (compareOp _ (Value.str _ _) (Value.ref _)) _ _ _)); (fail_if_success (with_reducible show wpAny _ _ (exec (Stmt.Assign [Expr.Name _ _] (Expr.ListComp _ _ _ _) _) _) _ _ _)); (fail_if_success (with_reducible show LCg.CompSrc _ _ _ _ _ _ _ _ _ _ _ _ _ _)); (fail_if_success (with_reducible show LCt.CompSrcT _ _ _ _ _ _ _ _ _ _ _ _ _ _ _)); (fail_if_success (with_reducible show LCg.CompEnd _ _ _ _ _ _ _ _ _ _ _ _ _ _)); (fail_if_success (with_reducible show wpAny _ _ (subscriptTail _ _ (Value.ref _) (Value.int _ _)) _ _ _)); first | (k_unfold; (try dsimp only)) | walk1 | (dsimp only; walk1)))
          rename Fr _ _ _ _ => F7
          rename News _ _ _ _ => N7
          rename _ ∧ _ ∧ _ ∧ _ ∧ _ ∧ _ ∧ AllLt _ _ => lW
          rename_i W' _ _
          replace N7 := nSk (nSk N7)
          have lW3 := ltN lW.2.2.1
          have lW4 := ltN lW.2.2.2.1
          have lW5 := ltN lW.2.2.2.2.1
          have lW6 := ltN lW.2.2.2.2.2.1
          have hcS := ltN lS.2.2.2
          have hcG := ltN lG.2.2.2.2
          obtain ⟨m9, F8, f1, f2, f3, f4⟩ := frA4 (Str.ofString "heap") (Str.ofString "text") (Str.ofString "gone") (Str.ofString "words") F7 rfl rfl rfl rfl
          clear F7
          replace F8 := frB4 F8 f1 f2 f3 f4
          walk1
          (repeat' ((fail_if_success (with_reducible show wpAny _ _ (call (Value.ref _) _) _ _ _)); (fail_if_success (with_reducible show wpAny _ _ (exec (Stmt.While _ _ _ _) _) _ _ _)); (fail_if_success (with_reducible show wpAny _ _ (exec (Stmt.For _ _ _ _ _) _) _ _ _)); (fail_if_success (with_reducible show wpAny _ _ (call (Value.builtin "list.append") _) _ _ _)); (fail_if_success (with_reducible show wpAny _ _ (call (Value.builtin "len") [Value.ref _]) _ _ _)); (fail_if_success (with_reducible show wpAny _ _ (call (Value.builtin "sum") [Value.ref _]) _ _ _)); (fail_if_success (with_reducible show wpAny _ _ (call (Value.builtin "max") [Value.ref _]) _ _ _)); (fail_if_success (with_reducible show wpAny _ _ (compareOp _ (Value.ref _) (Value.ref _)) _ _ _)); (fail_if_success (with_reducible show wpAny _ _ (compareOp _ (Value.str _ _) (Value.ref _)) _ _ _)); (fail_if_success (with_reducible show wpAny _ _ (exec (Stmt.Assign [Expr.Name _ _] (Expr.ListComp _ _ _ _) _) _) _ _ _)); (fail_if_success (with_reducible show LCg.CompSrc _ _ _ _ _ _ _ _ _ _ _ _ _ _)); (fail_if_success (with_reducible show LCt.CompSrcT _ _ _ _ _ _ _ _ _ _ _ _ _ _ _)); (fail_if_success (with_reducible show LCg.CompEnd _ _ _ _ _ _ _ _ _ _ _ _ _ _)); (fail_if_success (with_reducible show wpAny _ _ (subscriptTail _ _ (Value.ref _) (Value.int _ _)) _ _ _)); first | (k_unfold; (try dsimp only)) | walk1 | (dsimp only; walk1)))
          rename Fr _ _ _ _ => F8
          rename News _ _ _ _ => N8
          rename Obj.data _ = _ => d8
          replace N8 := nP1342 N8
          have htx8 : tx.length ≤ 8 := by rw [htl]; exact sgW_log q2 8 (by omega)
          have hlds : (hpIt z fr i).1.map (·.2.cps.toList) = (hpIt z fr i).1.map (·.2.cps.toList) := rfl
          refine wpAny_mono (Q := PostW s₁.heap s₁.heap.objs.size s₁ tx tt W' H G' (s₁.heap.objs.size + 1) (listOf vs.toArray e1) (listOf gv.toArray e3) tb (pdGo ((hpIt z fr i).2.2.map (·.cps.toList)) tx)) (E := ek) ?_ ?_ (fun _ _ e => e)
          · refine While_inv2 (JWd ((hpIt z fr i).1.map (·.2.cps.toList)) tx tt W' H G' (s₁.heap.objs.size + 1) (listOf vs.toArray e1) (listOf gv.toArray e3) tb (pdGo ((hpIt z fr i).2.2.map (·.cps.toList)) tx)) (n₀ := tx.length) F8 N8 ?_ ?_
            · exact ⟨tx.length, [], tx, [], 0, _, _, rfl, .nil, d8, hP6, rfl, Nat.le_refl _, by omega, by simp only [List.length_nil]; omega, rfl, rfl, rfl, rfl⟩
            · clear F8 N8 d8
              rintro n m₁ nx h₁ tk₁ F8 N8 ⟨f, ws, r, wv, e, oR, tr, rfl, hwv, d8, hR, hn, hrf, hr10, hw10, hm1, hm2, hm3, hm4⟩
              replace F8 := frB4 F8 hm1 hm2 hm3 hm4
              (repeat' ((fail_if_success (with_reducible show wpAny _ _ (call (Value.ref _) _) _ _ _)); (fail_if_success (with_reducible show wpAny _ _ (exec (Stmt.While _ _ _ _) _) _ _ _)); (fail_if_success (with_reducible show wpAny _ _ (exec (Stmt.For _ _ _ _ _) _) _ _ _)); (fail_if_success (with_reducible show wpAny _ _ (call (Value.builtin "list.append") _) _ _ _)); (fail_if_success (with_reducible show wpAny _ _ (call (Value.builtin "len") [Value.ref _]) _ _ _)); (fail_if_success (with_reducible show wpAny _ _ (call (Value.builtin "sum") [Value.ref _]) _ _ _)); (fail_if_success (with_reducible show wpAny _ _ (call (Value.builtin "max") [Value.ref _]) _ _ _)); (fail_if_success (with_reducible show wpAny _ _ (compareOp _ (Value.ref _) (Value.ref _)) _ _ _)); (fail_if_success (with_reducible show wpAny _ _ (compareOp _ (Value.str _ _) (Value.ref _)) _ _ _)); (fail_if_success (with_reducible show wpAny _ _ (exec (Stmt.Assign [Expr.Name _ _] (Expr.ListComp _ _ _ _) _) _) _ _ _)); (fail_if_success (with_reducible show LCg.CompSrc _ _ _ _ _ _ _ _ _ _ _ _ _ _)); (fail_if_success (with_reducible show LCt.CompSrcT _ _ _ _ _ _ _ _ _ _ _ _ _ _ _)); (fail_if_success (with_reducible show LCg.CompEnd _ _ _ _ _ _ _ _ _ _ _ _ _ _)); (fail_if_success (with_reducible show wpAny _ _ (subscriptTail _ _ (Value.ref _) (Value.int _ _)) _ _ _)); first | (k_unfold; (try dsimp only)) | walk1 | (dsimp only; walk1)))
              · rename (_ != _) = true => ha
                have hr0 : r ≠ [] := fun e => by subst e; revert ha; decide
                k_dflt (refine LCt.Assign_ListComp_T (F₀ := by k_asm) (by rfl) (by with_unfolding_all rfl) (by with_unfolding_all rfl) (by decide) (by rfl) (by decide) (by rfl) (by rfl) (by rfl) ?_)
                (repeat' ((fail_if_success (with_reducible show wpAny _ _ (call (Value.ref _) _) _ _ _)); (fail_if_success (with_reducible show wpAny _ _ (exec (Stmt.While _ _ _ _) _) _ _ _)); (fail_if_success (with_reducible show wpAny _ _ (exec (Stmt.For _ _ _ _ _) _) _ _ _)); (fail_if_success (with_reducible show wpAny _ _ (call (Value.builtin "list.append") _) _ _ _)); (fail_if_success (with_reducible show wpAny _ _ (call (Value.builtin "len") [Value.ref _]) _ _ _)); (fail_if_success (with_reducible show wpAny _ _ (call (Value.builtin "sum") [Value.ref _]) _ _ _)); (fail_if_success (with_reducible show wpAny _ _ (call (Value.builtin "max") [Value.ref _]) _ _ _)); (fail_if_success (with_reducible show wpAny _ _ (compareOp _ (Value.ref _) (Value.ref _)) _ _ _)); (fail_if_success (with_reducible show wpAny _ _ (compareOp _ (Value.str _ _) (Value.ref _)) _ _ _)); (fail_if_success (with_reducible show wpAny _ _ (exec (Stmt.Assign [Expr.Name _ _] (Expr.ListComp _ _ _ _) _) _) _ _ _)); (fail_if_success (with_reducible show LCg.CompSrc _ _ _ _ _ _ _ _ _ _ _ _ _ _)); (fail_if_success (with_reducible show LCt.CompSrcT _ _ _ _ _ _ _ _ _ _ _ _ _ _ _)); (fail_if_success (with_reducible show LCg.CompEnd _ _ _ _ _ _ _ _ _ _ _ _ _ _)); (fail_if_success (with_reducible show wpAny _ _ (subscriptTail _ _ (Value.ref _) (Value.int _ _)) _ _ _)); first | (k_unfold; (try dsimp only)) | walk1 | (dsimp only; walk1)))
                rename Fr _ _ _ _ => F8
                rename News _ _ _ _ => N8
                refine LCt.CompSrcT.ledger rfl F8 N8 (.tail _ (.head _)) (by rw [List.size_toArray, sizeLine_eq]; omega) ?_
                intro g9
                refine comp_allT vs.toArray.size (fun j ys => StrsAre ys ((fitL (((hpIt z fr i).1.map (·.2.cps.toList)).take j) r).map toS)) ?_ ?_ _ 0 [] (by omega) .nil
                · intro j ys hj hJ v I oI C oC D m₂ h tk E' hv hC hx F7 N7 off ne
                  obtain ⟨x, a, t, u, n, hxj, rfl, hm⟩ := item_of hH (show vs[j]? = some v by simpa using hv)
                  have hxl : ((hpIt z fr i).1.map (·.2.cps.toList))[j]? = some x.2.cps.toList := by rw [List.getElem?_map, hxj]; rfl
                  have hx5 := hP5 x (List.mem_of_getElem? hxj)
                  have hxs : x.2.length ≤ 5 := Nat.le_trans (hpIt_ld z fr i x (List.mem_of_getElem? hxj)).2 (by omega)
                  have hfs := fit_snoc (r := r) hxl
                  have N9 := nAdd (x := (a, pairO x.1 t x.2 u n)) N7 (.tail _ (.tail _ (.tail _ (.tail _ (.tail _ (.tail _ (.tail _ hm)))))))
                  (repeat' ((fail_if_success (with_reducible show wpAny _ _ (call (Value.ref _) _) _ _ _)); (fail_if_success (with_reducible show LCg.CompEnd _ _ _ _ _ _ _ _ _ _ _ _ _ _)); first | (k_unfold; (try dsimp only)) | walk1 | (dsimp only; walk1)))
                  refine Calls.use (ellipsis_c w x.2 (toS r) _ tr hx5 (show r.length ≤ 512 by omega) _) K0 F7 KX N9 T rfl ?_ ?_ ?_
                  · decide +kernel
                  · decide +kernel
                  clear F7 N7 N9
                  intro t7 h7 tk7 F7 N9
                  rw [toS_cps]
                  cases hp : x.2.cps.toList.isPrefixOf r with
                  | true =>
                    rw [if_pos hp] at hfs
                    (repeat' ((fail_if_success (with_reducible show wpAny _ _ (call (Value.ref _) _) _ _ _)); (fail_if_success (with_reducible show LCg.CompEnd _ _ _ _ _ _ _ _ _ _ _ _ _ _)); first | (k_unfold; (try dsimp only)) | walk1 | (dsimp only; walk1)))
                    exact LCg.CompEnd.intro F7 N9 _ (fun p hp => .tail _ hp) off (.inr ⟨_, .tail _ (.head _), rfl, _, rfl⟩) ⟨rfl, by rw [hfs]; exact strs_snoc' hJ⟩
                  | false =>
                    rw [if_neg (by rw [hp]; exact Bool.false_ne_true)] at hfs
                    (repeat' ((fail_if_success (with_reducible show wpAny _ _ (call (Value.ref _) _) _ _ _)); (fail_if_success (with_reducible show LCg.CompEnd _ _ _ _ _ _ _ _ _ _ _ _ _ _)); first | (k_unfold; (try dsimp only)) | walk1 | (dsimp only; walk1)))
                    exact LCg.CompEnd.intro F7 N9 _ (fun p hp => .tail _ hp) off (.inr ⟨_, .tail _ (.head _), rfl, _, rfl⟩) ⟨rfl, by rw [hfs]; exact hJ⟩
                · intro ys hJ
                  unfold LCg.FinA
                  intro D6 h6 tk6 F7 N7 o6
                  have hxt : ((hpIt z fr i).1.map (·.2.cps.toList)).take vs.toArray.size = (hpIt z fr i).1.map (·.2.cps.toList) := by
                    rw [List.size_toArray, hH.len, ← List.length_map (f := (·.2.cps.toList)), List.take_length]
                  rw [hxt] at hJ
                  (repeat' ((fail_if_success (with_reducible show wpAny _ _ (call (Value.ref _) _) _ _ _)); (fail_if_success (with_reducible show wpAny _ _ (exec (Stmt.While _ _ _ _) _) _ _ _)); (fail_if_success (with_reducible show wpAny _ _ (exec (Stmt.For _ _ _ _ _) _) _ _ _)); (fail_if_success (with_reducible show wpAny _ _ (call (Value.builtin "list.append") _) _ _ _)); (fail_if_success (with_reducible show wpAny _ _ (call (Value.builtin "len") [Value.ref _]) _ _ _)); (fail_if_success (with_reducible show wpAny _ _ (call (Value.builtin "sum") [Value.ref _]) _ _ _)); (fail_if_success (with_reducible show wpAny _ _ (call (Value.builtin "max") [Value.ref _]) _ _ _)); (fail_if_success (with_reducible show wpAny _ _ (compareOp _ (Value.ref _) (Value.ref _)) _ _ _)); (fail_if_success (with_reducible show wpAny _ _ (compareOp _ (Value.str _ _) (Value.ref _)) _ _ _)); (fail_if_success (with_reducible show wpAny _ _ (exec (Stmt.Assign [Expr.Name _ _] (Expr.ListComp _ _ _ _) _) _) _ _ _)); (fail_if_success (with_reducible show LCg.CompSrc _ _ _ _ _ _ _ _ _ _ _ _ _ _)); (fail_if_success (with_reducible show LCt.CompSrcT _ _ _ _ _ _ _ _ _ _ _ _ _ _ _)); (fail_if_success (with_reducible show LCg.CompEnd _ _ _ _ _ _ _ _ _ _ _ _ _ _)); (fail_if_success (with_reducible show wpAny _ _ (subscriptTail _ _ (Value.ref _) (Value.int _ _)) _ _ _)); first | (k_unfold; (try dsimp only)) | walk1 | (dsimp only; walk1)))
                  rename News _ _ _ _ => N7
                  rename Fr _ _ _ _ => F7
                  have hyl : ys.length = (fitL ((hpIt z fr i).1.map (·.2.cps.toList)) r).length := by rw [strs_len hJ, List.length_map]
                  have hyz : ys.length ≤ 6 := by
                    have h1 := List.length_filter_le (fun x : List Nat => x.isPrefixOf r) ((hpIt z fr i).1.map (·.2.cps.toList))
                    have h2 := hpIt_len z fr i
                    rw [List.length_map] at h1
                    rw [hyl]
                    show (List.filter _ _).length ≤ 6
                    omega
                  refine len_led (vs := ys) N7 (.head _) (by omega) ?_
                  intro t8 tk8
                  (repeat' ((fail_if_success (with_reducible show wpAny _ _ (call (Value.ref _) _) _ _ _)); (fail_if_success (with_reducible show wpAny _ _ (exec (Stmt.While _ _ _ _) _) _ _ _)); (fail_if_success (with_reducible show wpAny _ _ (exec (Stmt.For _ _ _ _ _) _) _ _ _)); (fail_if_success (with_reducible show wpAny _ _ (call (Value.builtin "list.append") _) _ _ _)); (fail_if_success (with_reducible show wpAny _ _ (call (Value.builtin "len") [Value.ref _]) _ _ _)); (fail_if_success (with_reducible show wpAny _ _ (call (Value.builtin "sum") [Value.ref _]) _ _ _)); (fail_if_success (with_reducible show wpAny _ _ (call (Value.builtin "max") [Value.ref _]) _ _ _)); (fail_if_success (with_reducible show wpAny _ _ (compareOp _ (Value.ref _) (Value.ref _)) _ _ _)); (fail_if_success (with_reducible show wpAny _ _ (compareOp _ (Value.str _ _) (Value.ref _)) _ _ _)); (fail_if_success (with_reducible show wpAny _ _ (exec (Stmt.Assign [Expr.Name _ _] (Expr.ListComp _ _ _ _) _) _) _ _ _)); (fail_if_success (with_reducible show LCg.CompSrc _ _ _ _ _ _ _ _ _ _ _ _ _ _)); (fail_if_success (with_reducible show LCt.CompSrcT _ _ _ _ _ _ _ _ _ _ _ _ _ _ _)); (fail_if_success (with_reducible show LCg.CompEnd _ _ _ _ _ _ _ _ _ _ _ _ _ _)); (fail_if_success (with_reducible show wpAny _ _ (subscriptTail _ _ (Value.ref _) (Value.int _ _)) _ _ _)); first | (k_unfold; (try dsimp only)) | walk1 | (dsimp only; walk1)))
                  · have hbk := pwGo_brk (lds := (hpIt z fr i).1.map (·.2.cps.toList)) (f := f) (ws := ws) (r := r) (by omega)
                    rw [hbk] at hR
                    refine ⟨rfl, _, _, _, wv, e, oR, tr, rfl, F7, nTl N7, ?_, ?_, rfl, rfl, rfl⟩
                    · rw [← hR]; exact hwv
                    · rw [← hR]; exact d8
                  · obtain ⟨x0, hfx⟩ := List.length_eq_one_iff.mp (show (fitL ((hpIt z fr i).1.map (·.2.cps.toList)) r).length = 1 by omega)
                    rw [hfx] at hJ
                    obtain ⟨t9, rfl⟩ : ∃ t, ys = [Value.str (toS x0) t] := strs_one hJ
                    have hx0p : x0.isPrefixOf r = true := by
                      have hm : x0 ∈ fitL ((hpIt z fr i).1.map (·.2.cps.toList)) r := by rw [hfx]; exact .head _
                      exact (List.mem_filter.mp hm).2
                    have hx0m : x0 ∈ (hpIt z fr i).1.map (·.2.cps.toList) := by
                      have hm : x0 ∈ fitL ((hpIt z fr i).1.map (·.2.cps.toList)) r := by rw [hfx]; exact .head _
                      exact (List.mem_filter.mp hm).1
                    obtain ⟨p0, hp0m, hp0e⟩ := List.mem_map.mp hx0m
                    have hx0l := lead_len (hP5 p0 hp0m)
                    rw [hp0e] at hx0l
                    have hx0r : x0.length ≤ r.length := (List.isPrefixOf_iff_prefix.mp hx0p).length_le
                    refine item_led (vs := [Value.str (toS x0) t9]) N7 (.head _) (by decide) (by decide) rfl ?_
                    (repeat' ((fail_if_success (with_reducible show wpAny _ _ (call (Value.ref _) _) _ _ _)); (fail_if_success (with_reducible show wpAny _ _ (exec (Stmt.While _ _ _ _) _) _ _ _)); (fail_if_success (with_reducible show wpAny _ _ (exec (Stmt.For _ _ _ _ _) _) _ _ _)); (fail_if_success (with_reducible show wpAny _ _ (call (Value.builtin "list.append") _) _ _ _)); (fail_if_success (with_reducible show wpAny _ _ (call (Value.builtin "len") [Value.ref _]) _ _ _)); (fail_if_success (with_reducible show wpAny _ _ (call (Value.builtin "sum") [Value.ref _]) _ _ _)); (fail_if_success (with_reducible show wpAny _ _ (call (Value.builtin "max") [Value.ref _]) _ _ _)); (fail_if_success (with_reducible show wpAny _ _ (compareOp _ (Value.ref _) (Value.ref _)) _ _ _)); (fail_if_success (with_reducible show wpAny _ _ (compareOp _ (Value.str _ _) (Value.ref _)) _ _ _)); (fail_if_success (with_reducible show wpAny _ _ (exec (Stmt.Assign [Expr.Name _ _] (Expr.ListComp _ _ _ _) _) _) _ _ _)); (fail_if_success (with_reducible show LCg.CompSrc _ _ _ _ _ _ _ _ _ _ _ _ _ _)); (fail_if_success (with_reducible show LCt.CompSrcT _ _ _ _ _ _ _ _ _ _ _ _ _ _ _)); (fail_if_success (with_reducible show LCg.CompEnd _ _ _ _ _ _ _ _ _ _ _ _ _ _)); (fail_if_success (with_reducible show wpAny _ _ (subscriptTail _ _ (Value.ref _) (Value.int _ _)) _ _ _)); first | (k_unfold; (try dsimp only)) | walk1 | (dsimp only; walk1)))
                    rename News _ _ _ _ => N7
                    rename Fr _ _ _ _ => F7
                    refine append_led F7 (nP21 N7) (off_cons (Ne.symm o6.1) (off_cons (Nat.ne_of_lt lW3) (off_cons (Nat.ne_of_lt lW5) (off_cons (Nat.ne_of_lt lW6) (off_lt lW.2.2.2.2.2.2))))) (by rw [strs_len hwv, List.length_map]; omega) ?_
                    clear F7 N7
                    intro h8 F7 N7
                    have hr10s : (toS r).length ≤ 10 := hr10
                    have hx5s : (toS x0).length ≤ 5 := hx0l.2
                    (repeat' ((fail_if_success (with_reducible show wpAny _ _ (call (Value.ref _) _) _ _ _)); (fail_if_success (with_reducible show wpAny _ _ (exec (Stmt.While _ _ _ _) _) _ _ _)); (fail_if_success (with_reducible show wpAny _ _ (exec (Stmt.For _ _ _ _ _) _) _ _ _)); (fail_if_success (with_reducible show wpAny _ _ (call (Value.builtin "list.append") _) _ _ _)); (fail_if_success (with_reducible show wpAny _ _ (call (Value.builtin "len") [Value.ref _]) _ _ _)); (fail_if_success (with_reducible show wpAny _ _ (call (Value.builtin "sum") [Value.ref _]) _ _ _)); (fail_if_success (with_reducible show wpAny _ _ (call (Value.builtin "max") [Value.ref _]) _ _ _)); (fail_if_success (with_reducible show wpAny _ _ (compareOp _ (Value.ref _) (Value.ref _)) _ _ _)); (fail_if_success (with_reducible show wpAny _ _ (compareOp _ (Value.str _ _) (Value.ref _)) _ _ _)); (fail_if_success (with_reducible show wpAny _ _ (exec (Stmt.Assign [Expr.Name _ _] (Expr.ListComp _ _ _ _) _) _) _ _ _)); (fail_if_success (with_reducible show LCg.CompSrc _ _ _ _ _ _ _ _ _ _ _ _ _ _)); (fail_if_success (with_reducible show LCt.CompSrcT _ _ _ _ _ _ _ _ _ _ _ _ _ _ _)); (fail_if_success (with_reducible show LCg.CompEnd _ _ _ _ _ _ _ _ _ _ _ _ _ _)); (fail_if_success (with_reducible show wpAny _ _ (subscriptTail _ _ (Value.ref _) (Value.int _ _)) _ _ _)); first | (k_unfold; (try dsimp only)) | walk1 | (dsimp only; walk1)))
                    rename News _ _ _ _ => N7
                    refine item_led (vs := [Value.str (toS x0) t9]) N7 (.tail _ (.head _)) (by decide) (by decide) rfl ?_
                    have hoC : @Ne Nat D6 (s₁.heap.objs.size + 1) := Ne.symm o6.2.2.2.1
                    (repeat' ((fail_if_success (with_reducible show wpAny _ _ (call (Value.ref _) _) _ _ _)); (fail_if_success (with_reducible show wpAny _ _ (exec (Stmt.While _ _ _ _) _) _ _ _)); (fail_if_success (with_reducible show wpAny _ _ (exec (Stmt.For _ _ _ _ _) _) _ _ _)); (fail_if_success (with_reducible show wpAny _ _ (call (Value.builtin "list.append") _) _ _ _)); (fail_if_success (with_reducible show wpAny _ _ (call (Value.builtin "len") [Value.ref _]) _ _ _)); (fail_if_success (with_reducible show wpAny _ _ (call (Value.builtin "sum") [Value.ref _]) _ _ _)); (fail_if_success (with_reducible show wpAny _ _ (call (Value.builtin "max") [Value.ref _]) _ _ _)); (fail_if_success (with_reducible show wpAny _ _ (compareOp _ (Value.ref _) (Value.ref _)) _ _ _)); (fail_if_success (with_reducible show wpAny _ _ (compareOp _ (Value.str _ _) (Value.ref _)) _ _ _)); (fail_if_success (with_reducible show wpAny _ _ (exec (Stmt.Assign [Expr.Name _ _] (Expr.ListComp _ _ _ _) _) _) _ _ _)); (fail_if_success (with_reducible show LCg.CompSrc _ _ _ _ _ _ _ _ _ _ _ _ _ _)); (fail_if_success (with_reducible show LCt.CompSrcT _ _ _ _ _ _ _ _ _ _ _ _ _ _ _)); (fail_if_success (with_reducible show LCg.CompEnd _ _ _ _ _ _ _ _ _ _ _ _ _ _)); (fail_if_success (with_reducible show wpAny _ _ (subscriptTail _ _ (Value.ref _) (Value.int _ _)) _ _ _)); first | (k_unfold; (try dsimp only)) | walk1 | (dsimp only; walk1)))
                    rename News _ _ _ _ => N7
                    rename Fr _ _ _ _ => F7
                    rename Obj.data _ = _ => d9
                    rw [show Txt.slice (toS r) (some ((toS x0).length : Int)) none = toS (r.drop x0.length) from slice_drop r x0.length hx0r] at d9
                    obtain ⟨f', rfl⟩ : ∃ f', f = f' + 1 := ⟨f - 1, by omega⟩
                    rw [pwGo_step hr0 hfx] at hR
                    have hdl : (r.drop x0.length).length = r.length - x0.length := List.length_drop
                    refine ws_next F7 (nSk N7) (n' := (r.drop x0.length).length) (by omega) ⟨f', ws ++ [x0], r.drop x0.length, _, _, _, _, rfl, ?_, d9, hR, rfl, by omega, by omega, ?_, rfl, rfl, rfl, rfl⟩
                    · rw [List.map_append]; exact strs_snoc' hwv
                    · rw [List.length_append, List.length_singleton]; omega
              · rename (_ != _) = false => ha
                have hr0 : r = [] := by
                  rw [bne, str_empty r] at ha
                  simpa using ha
                subst hr0
                rw [pwGo_nil] at hR
                refine ⟨rfl, _, _, _, wv, e, oR, tr, rfl, F8, N8, ?_, ?_, rfl, rfl, rfl⟩
                · rw [← hR]; exact hwv
                · rw [← hR]; exact d8
          · clear F8 N8 d8
            rintro fl s' ⟨rfl, h', tk, mm, wv, e, oR, tr, rfl, F8, N8, hwv, d8, g1, g2, g3⟩
            replace F8 := frB3 F8 g1 g2 g3
            (try dsimp only)
            (repeat' ((fail_if_success (with_reducible show wpAny _ _ (call (Value.ref _) _) _ _ _)); (fail_if_success (with_reducible show wpAny _ _ (exec (Stmt.While _ _ _ _) _) _ _ _)); (fail_if_success (with_reducible show wpAny _ _ (exec (Stmt.For _ _ _ _ _) _) _ _ _)); (fail_if_success (with_reducible show wpAny _ _ (call (Value.builtin "list.append") _) _ _ _)); (fail_if_success (with_reducible show wpAny _ _ (call (Value.builtin "len") [Value.ref _]) _ _ _)); (fail_if_success (with_reducible show wpAny _ _ (call (Value.builtin "sum") [Value.ref _]) _ _ _)); (fail_if_success (with_reducible show wpAny _ _ (call (Value.builtin "max") [Value.ref _]) _ _ _)); (fail_if_success (with_reducible show wpAny _ _ (compareOp _ (Value.ref _) (Value.ref _)) _ _ _)); (fail_if_success (with_reducible show wpAny _ _ (compareOp _ (Value.str _ _) (Value.ref _)) _ _ _)); (fail_if_success (with_reducible show wpAny _ _ (exec (Stmt.Assign [Expr.Name _ _] (Expr.ListComp _ _ _ _) _) _) _ _ _)); (fail_if_success (with_reducible show LCg.CompSrc _ _ _ _ _ _ _ _ _ _ _ _ _ _)); (fail_if_success (with_reducible show LCt.CompSrcT _ _ _ _ _ _ _ _ _ _ _ _ _ _ _)); (fail_if_success (with_reducible show LCg.CompEnd _ _ _ _ _ _ _ _ _ _ _ _ _ _)); (fail_if_success (with_reducible show wpAny _ _ (subscriptTail _ _ (Value.ref _) (Value.int _ _)) _ _ _)); first | (k_unfold; (try dsimp only)) | walk1 | (dsimp only; walk1)))
            rename Fr _ _ _ _ => F9
            rename News _ _ _ _ => N9
            rename _ ∧ _ ∧ _ ∧ _ ∧ AllLt _ _ => lD9
            rename_i DU _ _ _
            refine For_invVF F9 rfl rfl ?_
            walk1
            refine str_inv (JDd tx ((hpIt z fr i).2.2.map (·.cps.toList)) DU W' G' ((W', listOf wv.toArray e) :: (H, listOf vs.toArray e1) :: (G', listOf gv.toArray e3) :: (s₁.heap.objs.size + 1, oR) :: tb)) rfl F9 N9 ?_ ?_ ?_
            · exact ⟨[], [], [], 0, _, rfl, .nil, rfl, Nat.le_refl _, Nat.le_refl _, rfl, rfl, rfl, rfl⟩
            · clear F9 N9
              rintro j c t m₂ nx h9 tk9 own hc hoff ⟨dl, pc, dv, e9, tp, rfl, hdv, hfo, hpl, hdl, hm1, hm2, hm3, hm4⟩ F1 N1
              replace F1 := frB5 (x0 := Str.ofString "sign") (x1 := Str.ofString "gone") (x2 := Str.ofString "words") (x3 := Str.ofString "due") (x4 := Str.ofString "piece") (v0 := .str (toS [c]) t) F1 rfl hm1 hm2 hm3 hm4
              have hc' : tx[j]? = some c := by rw [← toS_cps tx, Array.getElem?_toList]; exact hc
              have hjl : j < tx.length := (List.getElem?_eq_some_iff.mp hc').1
              have htk : tx.take (j + 1) = tx.take j ++ [c] := by rw [List.take_add_one, hc']; rfl
              have hsn : (tx.take (j + 1)).foldl (pdStep ((hpIt z fr i).2.2.map (·.cps.toList))) ([], []) = pdStep ((hpIt z fr i).2.2.map (·.cps.toList)) (dl, pc) c := by
                rw [htk, List.foldl_append, hfo]; rfl
              have hps : (toS pc).length ≤ 10 := by show pc.length ≤ 10; omega
              have hcs : (toS [c]).length ≤ 1 := Nat.le_refl _
              have hpl1 : (pc ++ [c]).length ≤ j + 1 := by rw [List.length_append, List.length_singleton]; omega
              simp only [List.cons_append] at N1
              replace N1 : News s₁.heap s₁.heap.objs.size h9 _ := N1
              replace F1 : Fr s₁.heap s₁.heap.objs.size h9 _ := F1
              (repeat' ((fail_if_success (with_reducible show wpAny _ _ (call (Value.ref _) _) _ _ _)); (fail_if_success (with_reducible show wpAny _ _ (exec (Stmt.While _ _ _ _) _) _ _ _)); (fail_if_success (with_reducible show wpAny _ _ (exec (Stmt.For _ _ _ _ _) _) _ _ _)); (fail_if_success (with_reducible show wpAny _ _ (call (Value.builtin "list.append") _) _ _ _)); (fail_if_success (with_reducible show wpAny _ _ (call (Value.builtin "len") [Value.ref _]) _ _ _)); (fail_if_success (with_reducible show wpAny _ _ (call (Value.builtin "sum") [Value.ref _]) _ _ _)); (fail_if_success (with_reducible show wpAny _ _ (call (Value.builtin "max") [Value.ref _]) _ _ _)); (fail_if_success (with_reducible show wpAny _ _ (compareOp _ (Value.ref _) (Value.ref _)) _ _ _)); (fail_if_success (with_reducible show wpAny _ _ (compareOp _ (Value.str _ _) (Value.ref _)) _ _ _)); (fail_if_success (with_reducible show wpAny _ _ (exec (Stmt.Assign [Expr.Name _ _] (Expr.ListComp _ _ _ _) _) _) _ _ _)); (fail_if_success (with_reducible show LCg.CompSrc _ _ _ _ _ _ _ _ _ _ _ _ _ _)); (fail_if_success (with_reducible show LCt.CompSrcT _ _ _ _ _ _ _ _ _ _ _ _ _ _ _)); (fail_if_success (with_reducible show LCg.CompEnd _ _ _ _ _ _ _ _ _ _ _ _ _ _)); (fail_if_success (with_reducible show wpAny _ _ (subscriptTail _ _ (Value.ref _) (Value.int _ _)) _ _ _)); first | (k_unfold; (try dsimp only)) | walk1 | (dsimp only; walk1)))
              rename Fr _ _ _ _ => F1
              rename News _ _ _ _ => N1
              refine notin_list_strs (News.isList N1 (.tail _ (.tail _ (.tail _ (.head _))))) hG ?_
              rw [toS_app, any_gone]
              by_cases hg : pc ++ [c] ∈ (hpIt z fr i).2.2.map (·.cps.toList)
              · rw [decide_eq_true hg]
                have hst : pdStep ((hpIt z fr i).2.2.map (·.cps.toList)) (dl, pc) c = (dl, pc ++ [c]) := if_pos hg
                rw [hst] at hsn
                (repeat' ((fail_if_success (with_reducible show wpAny _ _ (call (Value.ref _) _) _ _ _)); (fail_if_success (with_reducible show wpAny _ _ (exec (Stmt.While _ _ _ _) _) _ _ _)); (fail_if_success (with_reducible show wpAny _ _ (exec (Stmt.For _ _ _ _ _) _) _ _ _)); (fail_if_success (with_reducible show wpAny _ _ (call (Value.builtin "list.append") _) _ _ _)); (fail_if_success (with_reducible show wpAny _ _ (call (Value.builtin "len") [Value.ref _]) _ _ _)); (fail_if_success (with_reducible show wpAny _ _ (call (Value.builtin "sum") [Value.ref _]) _ _ _)); (fail_if_success (with_reducible show wpAny _ _ (call (Value.builtin "max") [Value.ref _]) _ _ _)); (fail_if_success (with_reducible show wpAny _ _ (compareOp _ (Value.ref _) (Value.ref _)) _ _ _)); (fail_if_success (with_reducible show wpAny _ _ (compareOp _ (Value.str _ _) (Value.ref _)) _ _ _)); (fail_if_success (with_reducible show wpAny _ _ (exec (Stmt.Assign [Expr.Name _ _] (Expr.ListComp _ _ _ _) _) _) _ _ _)); (fail_if_success (with_reducible show LCg.CompSrc _ _ _ _ _ _ _ _ _ _ _ _ _ _)); (fail_if_success (with_reducible show LCt.CompSrcT _ _ _ _ _ _ _ _ _ _ _ _ _ _ _)); (fail_if_success (with_reducible show LCg.CompEnd _ _ _ _ _ _ _ _ _ _ _ _ _ _)); (fail_if_success (with_reducible show wpAny _ _ (subscriptTail _ _ (Value.ref _) (Value.int _ _)) _ _ _)); first | (k_unfold; (try dsimp only)) | walk1 | (dsimp only; walk1)))
                exact endG0 (news := _ :: _ :: _ :: _ :: _ :: tb) F1 N1 ⟨dl, pc ++ [c], dv, e9, _, rfl, hdv, hsn, hpl1, by omega, rfl, rfl, rfl, vstr (toS_app pc [c])⟩ hoff
              · rw [decide_eq_false hg]
                have hst : pdStep ((hpIt z fr i).2.2.map (·.cps.toList)) (dl, pc) c = (dl ++ [pc ++ [c]], []) := if_neg hg
                rw [hst] at hsn
                (repeat' ((fail_if_success (with_reducible show wpAny _ _ (call (Value.ref _) _) _ _ _)); (fail_if_success (with_reducible show wpAny _ _ (exec (Stmt.While _ _ _ _) _) _ _ _)); (fail_if_success (with_reducible show wpAny _ _ (exec (Stmt.For _ _ _ _ _) _) _ _ _)); (fail_if_success (with_reducible show wpAny _ _ (call (Value.builtin "list.append") _) _ _ _)); (fail_if_success (with_reducible show wpAny _ _ (call (Value.builtin "len") [Value.ref _]) _ _ _)); (fail_if_success (with_reducible show wpAny _ _ (call (Value.builtin "sum") [Value.ref _]) _ _ _)); (fail_if_success (with_reducible show wpAny _ _ (call (Value.builtin "max") [Value.ref _]) _ _ _)); (fail_if_success (with_reducible show wpAny _ _ (compareOp _ (Value.ref _) (Value.ref _)) _ _ _)); (fail_if_success (with_reducible show wpAny _ _ (compareOp _ (Value.str _ _) (Value.ref _)) _ _ _)); (fail_if_success (with_reducible show wpAny _ _ (exec (Stmt.Assign [Expr.Name _ _] (Expr.ListComp _ _ _ _) _) _) _ _ _)); (fail_if_success (with_reducible show LCg.CompSrc _ _ _ _ _ _ _ _ _ _ _ _ _ _)); (fail_if_success (with_reducible show LCt.CompSrcT _ _ _ _ _ _ _ _ _ _ _ _ _ _ _)); (fail_if_success (with_reducible show LCg.CompEnd _ _ _ _ _ _ _ _ _ _ _ _ _ _)); (fail_if_success (with_reducible show wpAny _ _ (subscriptTail _ _ (Value.ref _) (Value.int _ _)) _ _ _)); first | (k_unfold; (try dsimp only)) | walk1 | (dsimp only; walk1)))
                rename Fr _ _ _ _ => F1
                rename News _ _ _ _ => N1
                refine append_led F1 N1 (off_cons (Nat.ne_of_lt (ltN lD9.1)) (off_cons (Nat.ne_of_lt (ltN lD9.2.1)) (off_cons (Nat.ne_of_lt (ltN lD9.2.2.1)) (off_cons (Nat.ne_of_lt (ltN lD9.2.2.2.1)) (off_app (off_lt lD9.2.2.2.2) (off_one hoff (.head _))))))) (by rw [strs_len hdv, List.length_map]; omega) ?_
                clear F1 N1
                intro h8 F1 N1
                (repeat' ((fail_if_success (with_reducible show wpAny _ _ (call (Value.ref _) _) _ _ _)); (fail_if_success (with_reducible show wpAny _ _ (exec (Stmt.While _ _ _ _) _) _ _ _)); (fail_if_success (with_reducible show wpAny _ _ (exec (Stmt.For _ _ _ _ _) _) _ _ _)); (fail_if_success (with_reducible show wpAny _ _ (call (Value.builtin "list.append") _) _ _ _)); (fail_if_success (with_reducible show wpAny _ _ (call (Value.builtin "len") [Value.ref _]) _ _ _)); (fail_if_success (with_reducible show wpAny _ _ (call (Value.builtin "sum") [Value.ref _]) _ _ _)); (fail_if_success (with_reducible show wpAny _ _ (call (Value.builtin "max") [Value.ref _]) _ _ _)); (fail_if_success (with_reducible show wpAny _ _ (compareOp _ (Value.ref _) (Value.ref _)) _ _ _)); (fail_if_success (with_reducible show wpAny _ _ (compareOp _ (Value.str _ _) (Value.ref _)) _ _ _)); (fail_if_success (with_reducible show wpAny _ _ (exec (Stmt.Assign [Expr.Name _ _] (Expr.ListComp _ _ _ _) _) _) _ _ _)); (fail_if_success (with_reducible show LCg.CompSrc _ _ _ _ _ _ _ _ _ _ _ _ _ _)); (fail_if_success (with_reducible show LCt.CompSrcT _ _ _ _ _ _ _ _ _ _ _ _ _ _ _)); (fail_if_success (with_reducible show LCg.CompEnd _ _ _ _ _ _ _ _ _ _ _ _ _ _)); (fail_if_success (with_reducible show wpAny _ _ (subscriptTail _ _ (Value.ref _) (Value.int _ _)) _ _ _)); first | (k_unfold; (try dsimp only)) | walk1 | (dsimp only; walk1)))
                rename Fr _ _ _ _ => F1
                rename News _ _ _ _ => N1
                have hnew : (dl ++ [pc ++ [c]]).map toS = dl.map toS ++ [toS pc ++ toS [c]] := by rw [List.map_append, toS_app]; rfl
                exact endG0 (news := _ :: _ :: _ :: _ :: _ :: tb) F1 N1 ⟨dl ++ [pc ++ [c]], [], _, _, _, rfl, by rw [hnew]; exact strs_snoc' hdv, hsn, Nat.zero_le _, by rw [List.length_append, List.length_singleton]; omega, rfl, rfl, rfl, rfl⟩ hoff
            · clear F9 N9
              rintro m₂ nx h9 tk9 ⟨dl, pc, dv, e9, tp, rfl, hdv, hfo, hpl, hdl, hm1, hm2, hm3, hm4⟩ F1 N1
              replace F1 := frB4 F1 hm1 hm2 hm3 hm4
              have hfw : tx.take (toS tx).cps.size = tx := by
                rw [show (toS tx).cps.size = tx.length from rfl, List.take_length]
              rw [hfw] at hfo
              replace N1 : News s₁.heap s₁.heap.objs.size h9 _ := N1
              replace F1 : Fr s₁.heap s₁.heap.objs.size h9 _ := F1
              have hq : pdGo ((hpIt z fr i).2.2.map (·.cps.toList)) tx = (dl, pc) := hfo
              rw [hq] at hwv d8
              have hch := pdF_ch (fun c => c = 32 ∨ c = 9) ((hpIt z fr i).2.2.map (·.cps.toList)) tx ([], []) htc (fun d hd => nomatch hd) (fun c hc => nomatch hc)
              rw [hfo] at hch
              have hlay : (pairD (dl, pc)).canLay0 = true := canLay_pair hch.1 hch.2
              have hsh := shaped_pair hlay
              (repeat' ((fail_if_success (with_reducible show wpAny _ _ (call (Value.ref _) _) _ _ _)); (fail_if_success (with_reducible show wpAny _ _ (exec (Stmt.While _ _ _ _) _) _ _ _)); (fail_if_success (with_reducible show wpAny _ _ (exec (Stmt.For _ _ _ _ _) _) _ _ _)); (fail_if_success (with_reducible show wpAny _ _ (call (Value.builtin "list.append") _) _ _ _)); (fail_if_success (with_reducible show wpAny _ _ (call (Value.builtin "len") [Value.ref _]) _ _ _)); (fail_if_success (with_reducible show wpAny _ _ (call (Value.builtin "sum") [Value.ref _]) _ _ _)); (fail_if_success (with_reducible show wpAny _ _ (call (Value.builtin "max") [Value.ref _]) _ _ _)); (fail_if_success (with_reducible show wpAny _ _ (compareOp _ (Value.ref _) (Value.ref _)) _ _ _)); (fail_if_success (with_reducible show wpAny _ _ (compareOp _ (Value.str _ _) (Value.ref _)) _ _ _)); (fail_if_success (with_reducible show wpAny _ _ (exec (Stmt.Assign [Expr.Name _ _] (Expr.ListComp _ _ _ _) _) _) _ _ _)); (fail_if_success (with_reducible show LCg.CompSrc _ _ _ _ _ _ _ _ _ _ _ _ _ _)); (fail_if_success (with_reducible show LCt.CompSrcT _ _ _ _ _ _ _ _ _ _ _ _ _ _ _)); (fail_if_success (with_reducible show LCg.CompEnd _ _ _ _ _ _ _ _ _ _ _ _ _ _)); (fail_if_success (with_reducible show wpAny _ _ (subscriptTail _ _ (Value.ref _) (Value.int _ _)) _ _ _)); first | (k_unfold; (try dsimp only)) | walk1 | (dsimp only; walk1)))
              rename Fr _ _ _ _ => F1
              rename News _ _ _ _ => N1
              refine eq_dataH (da := pairD (dl, pc)) (db := pairD (dl, pc)) (reads_tuple_at (N1.get (.tail _ (.head _))) rfl rfl (ReadsAll.cons (reads_list_at (N1.get (.tail _ (.tail _ (.tail _ (.head _))))) rfl rfl (StrsAre.reads _ hwv)) (ReadsAll.cons (Reads.str _ _) ReadsAll.nil)))
                (reads_tuple_at (N1.get (.head _)) rfl rfl (ReadsAll.cons (reads_list_at (N1.get (.tail _ (.tail _ (.head _)))) rfl rfl (StrsAre.reads _ hdv)) (ReadsAll.cons (Reads.str _ _) ReadsAll.nil))) hsh hsh (show callerA.units + 3 + 64 < cLine by decide +kernel) ?_
              rw [SeqAt.eqv_refl _ hlay]
              exact hqk _ _ _ F1
end Mine

namespace Mine
/-! the level is the column -/
theorem ilGo_ge (cs : List Int) (z : Nat) : ∀ (d k : Nat), cs.length ≤ z + k → ilGo cs z (k + d) = ilGo cs z k
  | 0, _, _ => rfl
  | d + 1, k, h => by
    show ilGo cs z (k + d) + _ * cs.getD (z + (k + d)) 0 = _
    have e : cs.getD (z + (k + d)) 0 = 0 := by
      rw [List.getD_eq_getElem?_getD, List.getElem?_eq_none (by omega)]; rfl
    rw [e, Int.mul_zero, Int.add_zero, ilGo_ge cs z d k h]
theorem ilGo_big (cs : List Int) (z k : Nat) (h : cs.length - z ≤ k) : ilGo cs z k = ilGo cs z (cs.length - z) := by
  obtain ⟨d, rfl⟩ : ∃ d, k = (cs.length - z) + d := ⟨k - (cs.length - z), by omega⟩
  exact ilGo_ge cs z d _ (by omega)
theorem grow_getD (cs : List Int) (b i : Nat) : (grow cs b).getD i 0 = cs.getD i 0 := by
  unfold grow
  split
  · rw [List.getD_eq_getElem?_getD, List.getD_eq_getElem?_getD, List.getElem?_append]
    split
    · rfl
    · rename_i h
      rw [List.getElem?_eq_none (l := cs) (by omega), List.getElem?_replicate]
      split <;> rfl
  · rfl
theorem bump_getD (cs : List Int) (b i : Nat) : (bump cs b).getD i 0 = cs.getD i 0 + (if i = b then 1 else 0) := by
  have hl : b < (grow cs b).length := by rw [grow_len]; omega
  unfold bump
  rw [List.getD_eq_getElem?_getD, List.getElem?_set]
  by_cases h : b = i
  · subst h
    rw [if_pos rfl, if_pos hl, if_pos rfl, grow_getD]; rfl
  · rw [if_neg h, if_neg (fun e => h e.symm), Int.add_zero, ← List.getD_eq_getElem?_getD, grow_getD]
theorem ilGo_bump (cs : List Int) (z b : Nat) : ∀ k : Nat, ilGo (bump cs b) z k = ilGo cs z k + (if z ≤ b ∧ b < z + k then ((b / z : Nat) : Int) else 0)
  | 0 => by rw [if_neg (by omega)]; rfl
  | k + 1 => by
    show ilGo (bump cs b) z k + (((z + k) / z : Nat) : Int) * (bump cs b).getD (z + k) 0 = ilGo cs z k + (((z + k) / z : Nat) : Int) * cs.getD (z + k) 0 + _
    rw [ilGo_bump cs z b k, bump_getD]
    by_cases h : z + k = b
    · rw [if_pos h, if_neg (by omega), if_pos (by omega), h, Int.mul_add, Int.mul_one]; omega
    · rw [if_neg h, Int.add_zero]
      by_cases h2 : z ≤ b ∧ b < z + k
      · rw [if_pos h2, if_pos (by omega)]; omega
      · rw [if_neg h2, if_neg (by omega), Int.add_zero, Int.add_zero]
theorem ilev_tab (cs : List Int) (b n nt z : Nat) (hz : 1 ≤ z) : ilev (wsStep ⟨cs, b, n, nt⟩ 9) z = ilev ⟨cs, b, n, nt⟩ z + ((z : Int) - (ilev ⟨cs, b, n, nt⟩ z).fmod (z : Int)) := by
  have h1 : ilGo (bump cs b) z ((bump cs b).length - z) = ilGo cs z (cs.length - z) + ((b / z : Nat) : Int) := by
    rw [ilGo_bump, ilGo_big cs z ((bump cs b).length - z) (by rw [bump_len]; omega)]
    congr 1
    by_cases h : z ≤ b
    · rw [if_pos ⟨h, by rw [bump_len]; omega⟩]
    · rw [if_neg (by omega), Nat.div_eq_of_lt (by omega)]; rfl
  show ((0 : Nat) : Int) + (z : Int) * (ilGo (bump cs b) z ((bump cs b).length - z) + ((nt + 1 : Nat) : Int)) = (b : Int) + (z : Int) * (ilGo cs z (cs.length - z) + (nt : Int)) + ((z : Int) - ((b : Int) + (z : Int) * (ilGo cs z (cs.length - z) + (nt : Int))).fmod (z : Int))
  rw [h1]
  generalize ilGo cs z (cs.length - z) = S
  have hm : ((b : Int) + (z : Int) * (S + (nt : Int))).fmod (z : Int) = ((b % z : Nat) : Int) := by
    rw [Int.fmod_eq_emod_of_nonneg _ (by omega), Int.add_mul_emod_self_left]; rfl
  rw [hm]
  have hb : (b : Int) = (z : Int) * ((b / z : Nat) : Int) + ((b % z : Nat) : Int) := by
    have := Nat.div_add_mod b z
    rw [← Int.natCast_mul, ← Int.natCast_add, this]
  generalize ((b / z : Nat) : Int) = d at *
  generalize ((b % z : Nat) : Int) = r at *
  rw [hb, Int.mul_add, Int.mul_add, Int.mul_add, Int.natCast_add, Int.mul_add]
  simp only [Int.natCast_zero, Int.natCast_one, Int.mul_one]
  omega
theorem ilev_col (z : Nat) (hz : 1 ≤ z) (l : List Nat) (h : ∀ c ∈ l, c = 32 ∨ c = 9) : ilev (wsRun l) z = colN z l := by
  rw [← List.reverse_reverse l] at h ⊢
  generalize l.reverse = r at *
  induction r with
  | nil =>
    show ((0 : Nat) : Int) + (z : Int) * (ilGo [] z (0 - z) + ((0 : Nat) : Int)) = 0
    rw [show 0 - z = 0 by omega]
    show ((0 : Nat) : Int) + (z : Int) * (0 + ((0 : Nat) : Int)) = 0
    simp
  | cons c r ih =>
    rw [List.reverse_cons] at h ⊢
    rw [wsRun_snoc, colN_snoc]
    have ih := ih (fun x hx => h x (List.mem_append.mpr (.inl hx)))
    rw [← ih]
    generalize wsRun r.reverse = s
    obtain ⟨cs, b, n, nt⟩ := s
    rcases h c (List.mem_append.mpr (.inr (.head _))) with rfl | rfl
    · rw [if_pos rfl]
      show ((b + 1 : Nat) : Int) + (z : Int) * (ilGo cs z (cs.length - z) + (nt : Int)) = (b : Int) + (z : Int) * (ilGo cs z (cs.length - z) + (nt : Int)) + 1
      generalize (z : Int) * (ilGo cs z (cs.length - z) + (nt : Int)) = q
      omega
    · rw [if_neg (by decide)]
      exact ilev_tab cs b n nt z hz
/-! the heap by columns -/
section
variable {P : Int × Str → Prop}
theorem getD_in {xs : List (Int × Str)} {i : Nat} (h : ∀ p ∈ xs, P p) (hi : i < xs.length) : P (xs.getD i d0) := h _ (List.mem_of_getElem? (getD_some hi))
theorem sdGo_in (new : Int × Str) (hn : P new) (st : Nat) : ∀ (f : Nat) (xs : List (Int × Str)) (pos : Nat), pos < xs.length → (∀ p ∈ xs, P p) → ∀ p ∈ sdGo new st f xs pos, P p
  | 0, xs, pos, _, h => set_all h hn
  | f + 1, xs, pos, hp, h => by
    unfold sdGo
    split
    · split
      · exact sdGo_in new hn st f _ _ (by rw [List.length_set]; omega) (set_all h (getD_in h (by omega)))
      · exact set_all h hn
    · exact set_all h hn
theorem sdown_in {xs : List (Int × Str)} {st pos : Nat} (hp : pos < xs.length) (h : ∀ p ∈ xs, P p) : ∀ p ∈ sdown xs st pos, P p := sdGo_in _ (getD_in h hp) _ _ _ _ hp h
theorem suGo_in (new : Int × Str) (hn : P new) (len : Nat) : ∀ (f : Nat) (xs : List (Int × Str)) (pos : Nat), pos < len → xs.length = len → (∀ p ∈ xs, P p) → (∀ p ∈ (suGo new len f xs pos).1, P p) ∧ (suGo new len f xs pos).2 < len
  | 0, xs, pos, hp, _, h => ⟨set_all h hn, hp⟩
  | f + 1, xs, pos, hp, hl, h => by
    unfold suGo
    split
    · rename_i hk
      have hc := (kid_lt (xs := xs) hk).1
      exact suGo_in new hn len f _ _ hc (by rw [List.length_set]; exact hl) (set_all h (getD_in h (by omega)))
    · exact ⟨set_all h hn, hp⟩
theorem sup_in {xs : List (Int × Str)} {pos : Nat} (hp : pos < xs.length) (h : ∀ p ∈ xs, P p) : ∀ p ∈ sup xs pos, P p := by
  have := suGo_in _ (getD_in h hp) xs.length xs.length xs pos hp rfl h
  refine sdown_in ?_ this.1
  rw [suGo_len]; exact this.2
end
def hcTurn (z : Nat) (q : HSt) : HSt :=
  let p := q.1.getD 0 d0
  let l := p.2.cps.toList
  let x1 := sup (q.1.set 0 (p.1 + 1, toS (l ++ [32]))) 0
  (sdown (x1 ++ [(p.1 + ((z : Int) - p.1.fmod (z : Int)), toS (l ++ [9]))]) 0 x1.length, q.2.1 ++ [p.1], q.2.2 ++ [p.2])
def hcIt (z : Nat) (c : Int) : Nat → HSt
  | 0 => ([(c, toS [])], [], [])
  | i + 1 => hcTurn z (hcIt z c i)
def CP (z : Nat) (fr : List Nat) (p : Int × Str) : Prop := p.1 = colN z (fr ++ p.2.cps.toList) ∧ ∀ c ∈ p.2.cps.toList, c = 32 ∨ c = 9
theorem hc_eq (z : Nat) (hz : 1 ≤ z) (fr : List Nat) (hf : ∀ c ∈ fr, c = 32 ∨ c = 9) : ∀ i, hpIt z fr i = hcIt z (colN z fr) i ∧ ∀ p ∈ (hpIt z fr i).1, CP z fr p
  | 0 => by
    have e : lv z fr [] = colN z fr := by
      unfold lv; rw [List.append_nil]; exact ilev_col z hz fr hf
    refine ⟨by show ([(lv z fr [], toS [])], [], []) = _; rw [e]; rfl, fun p hp => ?_⟩
    rw [List.mem_singleton.mp hp]
    exact ⟨by show lv z fr [] = colN z (fr ++ []); rw [e, List.append_nil], fun c hc => nomatch hc⟩
  | i + 1 => by
    obtain ⟨h1, h2⟩ := hc_eq z hz fr hf i
    have hlen := hpIt_len z fr i
    have hp := getD_in (i := 0) h2 (by omega)
    obtain ⟨hp1, hp2⟩ := hp
    have hS : ∀ c ∈ fr ++ ((((hpIt z fr i).1.getD 0 d0).2.cps.toList) ++ [32]), c = 32 ∨ c = 9 := fun c hc => by
      rcases List.mem_append.mp hc with hc | hc
      · exact hf c hc
      rcases List.mem_append.mp hc with hc | hc
      · exact hp2 c hc
      · exact .inl (List.mem_singleton.mp hc)
    have hT : ∀ c ∈ fr ++ ((((hpIt z fr i).1.getD 0 d0).2.cps.toList) ++ [9]), c = 32 ∨ c = 9 := fun c hc => by
      rcases List.mem_append.mp hc with hc | hc
      · exact hf c hc
      rcases List.mem_append.mp hc with hc | hc
      · exact hp2 c hc
      · exact .inr (List.mem_singleton.mp hc)
    have eS : lv z fr ((((hpIt z fr i).1.getD 0 d0).2.cps.toList) ++ [32]) = ((hpIt z fr i).1.getD 0 d0).1 + 1 := by
      unfold lv
      rw [ilev_col z hz _ hS, ← List.append_assoc, colN_snoc, if_pos rfl, ← hp1]
    have eT : lv z fr ((((hpIt z fr i).1.getD 0 d0).2.cps.toList) ++ [9]) = ((hpIt z fr i).1.getD 0 d0).1 + ((z : Int) - (((hpIt z fr i).1.getD 0 d0).1).fmod (z : Int)) := by
      unfold lv
      rw [ilev_col z hz _ hT, ← List.append_assoc, colN_snoc, if_neg (by decide), ← hp1]
    have ht : hpTurn z fr (hpIt z fr i) = hcTurn z (hpIt z fr i) := by
      unfold hpTurn hcTurn
      dsimp only
      rw [eS, eT]
    refine ⟨by show hpTurn z fr (hpIt z fr i) = hcTurn z (hcIt z (colN z fr) i); rw [ht, h1], ?_⟩
    show ∀ p ∈ (hpTurn z fr (hpIt z fr i)).1, CP z fr p
    unfold hpTurn
    refine sdown_in (by rw [List.length_append]; exact Nat.lt_succ_self _) fun p hp => ?_
    rcases List.mem_append.mp hp with hp | hp
    · refine sup_in (by rw [List.length_set]; omega) (set_all h2 ⟨?_, ?_⟩) p hp
      · show lv z fr _ = colN z (fr ++ _)
        unfold lv; rw [ilev_col z hz _ hS]; rfl
      · intro c hc; exact hS c (List.mem_append.mpr (.inr hc))
    · rw [List.mem_singleton.mp hp]
      refine ⟨?_, ?_⟩
      · show lv z fr _ = colN z (fr ++ _)
        unfold lv; rw [ilev_col z hz _ hT]; rfl
      · intro c hc; exact hT c (List.mem_append.mpr (.inr hc))
end Mine

namespace Mine
def cgD (lds gone : List (List Nat)) : Bool :=
  decide ([] ∈ gone) && (gone.all fun g => [32, 9].all fun c => decide (g ++ [c] ∈ gone) || decide (g ++ [c] ∈ lds)) && (gone.all fun g => lds.all fun x => !x.isPrefixOf g) && decide (lds.Pairwise fun x y => x.isPrefixOf y = false ∧ y.isPrefixOf x = false)
def cgL (cols : List Int) (r : Int × Int) : Bool := decide (cols.sum = r.1) && decide (r.2 ∈ cols) && cols.all fun a => decide (a ≤ r.2)
def cg (z k : Nat) (c : Int) (q : HSt) : Bool := decide (q.2.1 = dueL (k - 1) z c) && cgL (q.1.map (·.1)) (lsF 6 k c z) && cgD (q.1.map (·.2.cps.toList)) (q.2.2.map (·.cps.toList))
def cq (z : Nat) (c : Int) : Nat → Nat → HSt → Bool
  | 0, _, _ => true
  | f + 1, k, q => cg z k c q && cq z c f (k + 1) (hcTurn z q)
def cz (z : Nat) (c : Int) : Bool := cq z c 5 2 (hcTurn z ([(c, toS [])], [], []))
theorem cq_at (z : Nat) (c : Int) : ∀ (f k i : Nat), cq z c f k (hcIt z c i) = true → ∀ j, j < f → cg z (k + j) c (hcIt z c (i + j)) = true
  | 0, _, _, _, j, h => absurd h (Nat.not_lt_zero j)
  | f + 1, k, i, h, j, hj => by
    have h' := Bool.and_eq_true_iff.mp h
    cases j with
    | zero => exact h'.1
    | succ j =>
      have := cq_at z c f (k + 1) (i + 1) h'.2 j (by omega)
      rw [show k + 1 + j = k + (j + 1) by omega, show i + 1 + j = i + (j + 1) by omega] at this
      exact this
theorem cz_at {z k : Nat} {c : Int} (h : cz z c = true) (hk2 : 2 ≤ k) (hk6 : k ≤ 6) : cg z k c (hcIt z c (k - 1)) = true := by
  have := cq_at z c 5 2 1 h (k - 2) (by omega)
  rw [show 2 + (k - 2) = k by omega, show 1 + (k - 2) = k - 1 by omega] at this
  exact this
theorem code_of {lds gone : List (List Nat)} (h : cgD lds gone = true) : Code lds gone := by
  unfold cgD at h
  simp only [Bool.and_eq_true, decide_eq_true_eq, List.all_eq_true, Bool.or_eq_true, Bool.not_eq_true'] at h
  exact ⟨h.1.1.1, h.1.1.2, h.1.2, h.2⟩
theorem pl_of {z k q1 q2 : Nat} (hk6 : k ≤ 6) (h : cg z k (colN z (sgW q1)) (hpIt z (sgW q1) (k - 1)) = true) : PL z k (sgW q1) (sgW q2) := by
  unfold cg cgL at h
  simp only [Bool.and_eq_true, decide_eq_true_eq, List.all_eq_true] at h
  obtain ⟨⟨h1, ⟨h2, h3⟩, h4⟩, h5⟩ := h
  have C := code_of h5
  refine ⟨h1, h2, h3, h4, fun p hp => ?_, ?_⟩
  · have hl := hpIt_ld z (sgW q1) (k - 1) p hp
    refine mem_leads hl.1 ?_ (Nat.le_trans hl.2 (by omega))
    have := C.out [] C.nil p.2.cps.toList (List.mem_map.mpr ⟨p, hp, rfl⟩)
    cases e : p.2.cps.toList with
    | nil => rw [e] at this; cases this
    | cons a l => exact Nat.succ_le_succ (Nat.zero_le _)
  · exact code_parse C (sgW q2).length (sgW q2) _ [] (Nat.le_refl _) (Nat.le_refl _) (sgW_chars q2)
def colsOf : Nat → List Int
  | 1 => [0, 1, 2, 3, 4]
  | 2 => [0, 1, 2, 3, 4, 5, 6, 7, 8]
  | 3 => [0, 1, 2, 3, 4, 5, 6, 7, 8, 9, 10, 12]
  | 4 => [0, 1, 2, 3, 4, 5, 6, 7, 8, 9, 10, 12, 13, 16]
  | 5 => [0, 1, 2, 3, 4, 5, 6, 7, 8, 10, 11, 12, 15, 16, 20]
  | _ => [0, 1, 2, 3, 4, 6, 7, 8, 9, 12, 13, 14, 18, 19, 24]
theorem cols_in : ([1, 2, 3, 4, 5, 6].all fun z => [0, 1, 2, 3, 4].all fun n => (btN n).all fun fr => (colsOf z).contains (colN z fr)) = true := by decide +kernel
theorem cz1 : (colsOf 1).all (cz 1) = true := by decide +kernel
theorem cz2 : (colsOf 2).all (cz 2) = true := by decide +kernel
theorem cz3 : (colsOf 3).all (cz 3) = true := by decide +kernel
theorem cz4 : (colsOf 4).all (cz 4) = true := by decide +kernel
theorem cz5 : (colsOf 5).all (cz 5) = true := by decide +kernel
theorem cz6 : (colsOf 6).all (cz 6) = true := by decide +kernel
theorem cz_all {z : Nat} (hz1 : 1 ≤ z) (hz6 : z ≤ 6) : (colsOf z).all (cz z) = true := by
  have hz : z = 1 ∨ z = 2 ∨ z = 3 ∨ z = 4 ∨ z = 5 ∨ z = 6 := by omega
  rcases hz with rfl | rfl | rfl | rfl | rfl | rfl
  · exact cz1
  · exact cz2
  · exact cz3
  · exact cz4
  · exact cz5
  · exact cz6
theorem col_in {z n : Nat} (hz1 : 1 ≤ z) (hz6 : z ≤ 6) (hn : n ≤ 4) {fr : List Nat} (h : fr ∈ btN n) : colN z fr ∈ colsOf z := by
  have h1 := List.all_eq_true.mp cols_in z (by simp only [List.mem_cons, List.not_mem_nil, or_false]; omega)
  have h2 := List.all_eq_true.mp h1 n (by simp only [List.mem_cons, List.not_mem_nil, or_false]; omega)
  exact List.contains_iff_mem.mp (List.all_eq_true.mp h2 fr h)
theorem pl_all (z q1 k q2 : Nat) (hz1 : 1 ≤ z) (hz6 : z ≤ 6) (_ : 1 ≤ q1) (h2 : q1 ≤ 31) (hk2 : 2 ≤ k) (hk6 : k ≤ 6) (_ : 256 ≤ q2) (_ : q2 ≤ 511) : PL z k (sgW q1) (sgW q2) := by
  refine pl_of hk6 ?_
  rw [(hc_eq z hz1 (sgW q1) (sgW_chars q1) (k - 1)).1]
  refine cz_at (List.all_eq_true.mp (cz_all hz1 hz6) _ ?_) hk2 hk6
  exact col_in hz1 hz6 (sgW_log q1 4 (by omega)) (mem_btN (sgW q1) (sgW_chars q1))
end Mine

set_option maxRecDepth 100000 in
set_option maxHeartbeats 8000000 in
theorem PySem.Challenge.cw_qj0004_01_holds : PySem.Challenge.rw_qj0004_01.Holds :=
  Mine.la Mine.pl_all
