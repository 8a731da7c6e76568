import PyProof.Rows.All
import Wide.All
import OpenK.AllK
import Wide.FinOn
import PySem.Challenge.RW_fj5009_01
open PySem PySem.W PyProof.Rows
set_option Elab.async false
set_option maxRecDepth 100000
set_option maxHeartbeats 8000000
set_option rowWalk.seconds 0
set_option linter.unusedVariables false
set_option linter.unusedSimpArgs false
namespace Mine
open_top hd for PySem.Challenge.rw_fj5009_01
end Mine
namespace Mine
theorem pop0 {prog : Program} {w : World} {A : Around} {E : Value → Shared → Prop} {s : Shared} {h₀ : Heap} {L D : Addr} {m : Str → Option Value} {news news' : List (Addr × Obj)} {v : Value} {vs : List Value} {n : Nat} {u : Tok}
    {Q : Value → Shared → Prop} (F : Fr h₀ L s.heap m) (N : News h₀ L s.heap news) (U : Upd D (listOf (v :: vs).toArray n) (listOf vs.toArray (n + 1)) news news')
    (hz : vs.length + 1 ≤ 1000) (h : ∀ h', Fr h₀ L h' m → News h₀ L h' news' → Q v { s with heap := h' }) : wpAny (model prog w) A (call (.builtin "list.pop") [.ref D, .int 0 u]) Q E s := by
  refine kl_popAt (k := 0) (p := []) (y := v) (q := vs) F N rfl ?_ ?_ U ?_ h
  · simp [seqIndex?]
  · simp [kl_cut]
  · simp only [List.toList_toArray, List.length_cons, PySem.sizeLine_eq]; omega
theorem news_tl {h₀ h : Heap} {L : Addr} {p : Addr × Obj} {r : List (Addr × Obj)} (N : News h₀ L h (p :: r)) : News h₀ L h r := fun q hq => N q (.tail _ hq)
theorem fmod_pos {a b : Int} (h : 0 < b) : 0 ≤ a.fmod b ∧ a.fmod b < b := ⟨Int.fmod_nonneg_of_pos a h, Int.fmod_lt_of_pos a h⟩

/-- the map m₀, but for the names ks, which read m₁ -/
def over : List Str → (Str → Option Value) → (Str → Option Value) → Str → Option Value
  | [], _, m₀, y => m₀ y
  | k :: ks, m₁, m₀, y => if y = k then m₁ y else over ks m₁ m₀ y
theorem over_eq {m₁ m₀ : Str → Option Value} : ∀ {ks : List Str}, (∀ z, z ∉ ks → m₁ z = m₀ z) → over ks m₁ m₀ = m₁ := by
  intro ks h
  funext y
  have : ∀ (l : List Str), (∀ z, z ∉ l → z = y → m₁ z = m₀ z) → over l m₁ m₀ y = m₁ y := by
    intro l
    induction l with
    | nil => intro h; exact (h y (by simp) rfl).symm
    | cons k r ih =>
      intro h
      unfold over
      by_cases e : y = k
      · rw [if_pos e]
      · rw [if_neg e]
        refine ih fun z hz hy => h z (fun hm => ?_) hy
        rcases List.mem_cons.mp hm with q | q
        · exact e (hy ▸ q)
        · exact hz q
  exact this ks fun z hz _ => h z hz

theorem over_keep {m₁ m₀ : Str → Option Value} {ks : List Str} : ∀ z, z ∉ ks → over ks m₁ m₀ z = m₀ z := by
  intro z hz
  induction ks with
  | nil => rfl
  | cons k r ih =>
    unfold over
    rw [if_neg (fun e : z = k => hz (e ▸ List.mem_cons_self)), ih fun h => hz (List.mem_cons_of_mem _ h)]
theorem over_sub {m₁ f g : Str → Option Value} {ks : List Str} : ∀ {kt : List Str}, (∀ k ∈ kt, k ∈ ks) → (∀ z, z ∉ ks → f z = g z) → ∀ z, z ∉ ks → over kt m₁ f z = g z := by
  intro kt
  induction kt with
  | nil => intro _ h z hz; exact h z hz
  | cons k r ih =>
    intro hk h z hz
    unfold over
    rw [if_neg (fun e : z = k => hz (e ▸ hk k List.mem_cons_self)), ih (fun x hx => hk x (List.mem_cons_of_mem _ hx)) h z hz]
theorem if_keep {f g : Str → Option Value} {k : Str} {v : Option Value} {ks : List Str} (hk : k ∈ ks) (h : ∀ z, z ∉ ks → f z = g z) : ∀ z, z ∉ ks → (if z = k then v else f z) = g z := by
  intro z hz
  rw [if_neg (fun e : z = k => hz (e ▸ hk))]
  exact h z hz
/-- what a turn of a loop leaves: the ledger nx with the same addresses, the frame as m₀ but for the stored names -/
def TEnd (h₀ : Heap) (L : Addr) (stored : List Str) (m₀ : Str → Option Value) (J : (Str → Option Value) → List (Addr × Obj) → Prop) (own : List (Addr × Obj)) (adr : List Addr) (s₁ s₂ : Shared) : Prop :=
  ∃ h' tk m' nx, s₂ = { s₁ with heap := h', toks := tk } ∧ Fr h₀ L h' m' ∧ News h₀ L h' (nx ++ own) ∧ nx.map (·.1) = adr ∧ (∀ z, z ∉ stored → m' z = m₀ z) ∧ J m' nx
def TPost (h₀ : Heap) (L : Addr) (stored : List Str) (m₀ : Str → Option Value) (J : (Str → Option Value) → List (Addr × Obj) → Prop) (own : List (Addr × Obj)) (adr : List Addr) (s₁ : Shared) (Q : Flow → Shared → Prop) (f : Flow) (s₂ : Shared) : Prop :=
  match f with
  | .ret v => Q (.ret v) s₂
  | .brk => Q .next s₂
  | _ => TEnd h₀ L stored m₀ J own adr s₁ s₂
theorem TEnd.intro {h₀ : Heap} {L : Addr} {stored : List Str} {m₀ m' : Str → Option Value} {J : (Str → Option Value) → List (Addr × Obj) → Prop} {own nx : List (Addr × Obj)} {adr : List Addr} {s₁ : Shared} {h' : Heap} {tk : Nat}
    (F : Fr h₀ L h' m') (N : News h₀ L h' (nx ++ own)) (ha : nx.map (·.1) = adr) (hm : ∀ z, z ∉ stored → m' z = m₀ z) (hj : J m' nx) : TEnd h₀ L stored m₀ J own adr s₁ { s₁ with heap := h', toks := tk } :=
  ⟨h', tk, m', nx, rfl, F, N, ha, hm, hj⟩
theorem TPost.toN {h₀ : Heap} {L : Addr} {stored : List Str} {m₀ : Str → Option Value} {J : (Str → Option Value) → List (Addr × Obj) → Prop} {own : List (Addr × Obj)} {adr : List Addr} {s₁ : Shared} {Q : Flow → Shared → Prop} {f : Flow} {s₂ : Shared}
    (h : TPost h₀ L stored m₀ J own adr s₁ Q f s₂) : InvPostN h₀ L (fun m nx => (∀ z, z ∉ stored → m z = m₀ z) ∧ J m nx) own adr s₁ Q f s₂ := by
  have q : TEnd h₀ L stored m₀ J own adr s₁ s₂ → InvEndN h₀ L (fun m nx => (∀ z, z ∉ stored → m z = m₀ z) ∧ J m nx) own adr s₁ s₂ := by
    rintro ⟨h', tk, m', nx, e, F, N, ha, hm, hj⟩
    exact ⟨h', tk, m', nx ++ own, nx, e, F, N, fun p hp => List.mem_append_left _ hp, fun p hp => List.mem_append_right _ hp, ha, hm, hj⟩
  cases f <;> first | exact q h | exact h

section
variable {prog : Program} {w : World} {A : Around} {E : Value → Shared → Prop} {s : Shared} {env : Env} {h₀ : Heap} {x : Str} {body : List Stmt} {Q : Flow → Shared → Prop}
theorem loopK {I : Addr} {fp wr : List Addr} {n : Nat} {P : Nat → Value → Prop} {St : Nat → Heap → Prop} {m₀ : Str → Option Value} {news : List (Addr × Obj)} (stored : List Str) (J : Nat → (Str → Option Value) → List (Addr × Obj) → Prop)
    (W : Walks prog w A I fp wr n P St) (hLf : env.locals ∉ fp) (hwr : ∀ b ∈ wr, h₀.get? b = none) (hnw : ∀ p ∈ news, p.1 ∉ wr) (hfp : ∀ q ∈ news, q.1 ∉ fp) (hst : St 0 s.heap) (F : Fr h₀ env.locals s.heap m₀) (N : News h₀ env.locals s.heap news) (hj : J 0 m₀ news)
    (turn : ∀ i v m₁ nx h tk own, i < n → P i v → nx.map (·.1) = news.map (·.1) → OwnOff own (news.map (·.1)) → J i m₁ nx → Fr h₀ env.locals h (fun y => if y = x then some v else over stored m₁ m₀ y) → News h₀ env.locals h (nx ++ own) →
      wpAny (model prog w) A (execs body env) (TPost h₀ env.locals stored m₀ (J (i + 1)) own (news.map (·.1)) { s with heap := h, toks := tk } Q) E { s with heap := h, toks := tk })
    (done : ∀ m₁ nx h tk, nx.map (·.1) = news.map (·.1) → J n m₁ nx → Fr h₀ env.locals h (over stored m₁ m₀) → News h₀ env.locals h nx → Q .next { s with heap := h, toks := tk }) :
    LoopAtV prog w A h₀ env x body Q E (.ref I) s := by
  refine loop_invN (fun i m nx => nx.map (·.1) = news.map (·.1) ∧ (∀ z, z ∉ stored → m z = m₀ z) ∧ J i m nx) W hLf hwr hnw hfp hst F N ⟨rfl, fun _ _ => rfl, hj⟩ ?_ ?_
  · rintro i v m₁ nx h tk own hin hP hadr hoff ⟨_, hm, hJ⟩ F₁ N₁
    rw [← over_eq hm] at F₁
    refine wpAny_mono (turn i v m₁ nx h tk own hin hP hadr hoff hJ F₁ N₁) (fun f s₂ p => ?_) fun _ _ e => e
    have p' := p.toN
    have q : InvEndN h₀ env.locals (fun m nx => (∀ z, z ∉ stored → m z = m₀ z) ∧ J (i + 1) m nx) own (news.map (·.1)) { s with heap := h, toks := tk } s₂ →
        InvEndN h₀ env.locals (fun m nx => nx.map (·.1) = news.map (·.1) ∧ (∀ z, z ∉ stored → m z = m₀ z) ∧ J (i + 1) m nx) own (news.map (·.1)) { s with heap := h, toks := tk } s₂ := by
      rintro ⟨h', tk, m', news', nx, e, F, N, hn, ho, ha, hr⟩
      exact ⟨h', tk, m', news', nx, e, F, N, hn, ho, ha, ha, hr⟩
    cases f <;> first | exact q p' | exact p'
  · rintro m₁ nx h tk ⟨ha, hm, hJ⟩ F₁ N₁
    rw [← over_eq hm] at F₁
    exact done m₁ nx h tk ha hJ F₁ N₁

theorem iter_listK {l : Addr} {vs : List Value} {m₀ : Str → Option Value} {news : List (Addr × Obj)} (stored : List Str) (J : Nat → (Str → Option Value) → List (Addr × Obj) → Prop)
    (hh : A.handled = none) (hl : h₀.IsList l vs.toArray) (F : Fr h₀ env.locals s.heap m₀) (N : News h₀ env.locals s.heap news) (hj : J 0 m₀ news)
    (turn : ∀ i v m₁ nx h tk own, vs[i]? = some v → nx.map (·.1) = news.map (·.1) → OwnOff own (news.map (·.1)) → J i m₁ nx → Fr h₀ env.locals h (fun y => if y = x then some v else over stored m₁ m₀ y) → News h₀ env.locals h (nx ++ own) →
      wpAny (model prog w) A (execs body env) (TPost h₀ env.locals stored m₀ (J (i + 1)) own (news.map (·.1)) { s with heap := h, toks := tk } Q) E { s with heap := h, toks := tk })
    (done : ∀ m₁ nx h tk, nx.map (·.1) = news.map (·.1) → J vs.length m₁ nx → Fr h₀ env.locals h (over stored m₁ m₀) → News h₀ env.locals h nx → Q .next { s with heap := h, toks := tk }) :
    wpAny (model prog w) A (pyIter (.ref l)) (fun it s₂ => LoopAtV prog w A h₀ env x body Q E it s₂) E s := by
  have hls : s.heap.IsList l vs.toArray := hl.at fun o e => F.keep l o e
  obtain ⟨ol, hol, _⟩ := id hl
  have hlt : l < h₀.objs.size := Heap.lt_size hol
  have hne : l ≠ s.heap.objs.size := Nat.ne_of_lt (Nat.lt_trans (Nat.lt_of_lt_of_le hlt F.above) F.ns.lt)
  refine wpAny_pyIter_list hls ?_
  have W := Walks.list (prog := prog) (w := w) hh s.heap.objs.size l hne vs.toArray
  have hlen : vs.toArray.size = vs.length := by simp
  rw [hlen] at W
  refine loopK stored J W ?_ ?_ ?_ ?_ ⟨⟨_, Heap.get?_push_size _ rfl, rfl, rfl⟩, hls.at fun o e => Heap.get?_push_of_some _ e⟩ (F.push _) (fun p hp => ⟨Heap.get?_push_of_some _ (N p hp).1, (N p hp).2⟩) hj ?_ done
  · intro hm
    rcases List.mem_cons.mp hm with e | hm
    · exact absurd F.ns.lt (e ▸ Nat.lt_irrefl _)
    · exact absurd (Nat.lt_of_lt_of_le hlt F.above) ((List.mem_singleton.mp hm) ▸ Nat.lt_irrefl _)
  · intro b hb
    rw [List.mem_singleton.mp hb]
    exact next_is_new F
  · intro p hp hI
    exact absurd (Heap.lt_size (N p hp).1) ((List.mem_singleton.mp hI) ▸ Nat.lt_irrefl _)
  · intro p hp hI
    rcases List.mem_cons.mp hI with e | hm
    · exact absurd (Heap.lt_size (N p hp).1) (e ▸ Nat.lt_irrefl _)
    · have h3 := (N p hp).2.2
      rw [List.mem_singleton.mp hm, hol] at h3
      cases h3
  · intro i v m₁ nx h tk own hi hP
    exact turn i v m₁ nx h tk own (by simpa using hP)

theorem iter_madeK {l : Addr} {vs : List Value} {nn : Nat} {m₀ : Str → Option Value} {news : List (Addr × Obj)} (stored : List Str) (J : Nat → (Str → Option Value) → List (Addr × Obj) → Prop)
    (hh : A.handled = none) (F : Fr h₀ env.locals s.heap m₀) (N : News h₀ env.locals s.heap ((l, listOf vs.toArray nn) :: news)) (hln : ∀ p ∈ news, p.1 ≠ l) (hj : J 0 m₀ news)
    (turn : ∀ i v m₁ nx h tk own, vs[i]? = some v → nx.map (·.1) = news.map (·.1) → OwnOff own (news.map (·.1)) → J i m₁ nx → Fr h₀ env.locals h (fun y => if y = x then some v else over stored m₁ m₀ y) → News h₀ env.locals h (nx ++ own) →
      wpAny (model prog w) A (execs body env) (TPost h₀ env.locals stored m₀ (J (i + 1)) own (news.map (·.1)) { s with heap := h, toks := tk } Q) E { s with heap := h, toks := tk })
    (done : ∀ m₁ nx h tk, nx.map (·.1) = news.map (·.1) → J vs.length m₁ nx → Fr h₀ env.locals h (over stored m₁ m₀) → News h₀ env.locals h nx → Q .next { s with heap := h, toks := tk }) :
    wpAny (model prog w) A (pyIter (.ref l)) (fun it s₂ => LoopAtV prog w A h₀ env x body Q E it s₂) E s := by
  have hl0 := N _ (.head _)
  have hls : s.heap.IsList l vs.toArray := ⟨_, hl0.1, rfl, nn, rfl⟩
  have hne : l ≠ s.heap.objs.size := Nat.ne_of_lt (Heap.lt_size hl0.1)
  refine wpAny_pyIter_list hls ?_
  have W := Walks.list (prog := prog) (w := w) hh s.heap.objs.size l hne vs.toArray
  have hlen : vs.toArray.size = vs.length := by simp
  rw [hlen] at W
  have N' : News h₀ env.locals s.heap news := fun p hp => N p (.tail _ hp)
  refine loopK stored J W ?_ ?_ ?_ ?_ ⟨⟨_, Heap.get?_push_size _ rfl, rfl, rfl⟩, hls.at fun o e => Heap.get?_push_of_some _ e⟩ (F.push _) (fun p hp => ⟨Heap.get?_push_of_some _ (N' p hp).1, (N' p hp).2⟩) hj ?_ done
  · intro hm
    rcases List.mem_cons.mp hm with e | hm
    · exact absurd F.ns.lt (e ▸ Nat.lt_irrefl _)
    · exact hl0.2.1 (List.mem_singleton.mp hm).symm
  · intro b hb
    rw [List.mem_singleton.mp hb]
    exact next_is_new F
  · intro p hp hI
    exact absurd (Heap.lt_size (N' p hp).1) ((List.mem_singleton.mp hI) ▸ Nat.lt_irrefl _)
  · intro p hp hI
    rcases List.mem_cons.mp hI with e | hm
    · exact absurd (Heap.lt_size (N' p hp).1) (e ▸ Nat.lt_irrefl _)
    · exact hln p hp (List.mem_singleton.mp hm)
  · intro i v m₁ nx h tk own hi hP
    exact turn i v m₁ nx h tk own (by simpa using hP)

theorem iter_rangeK {r : Addr} {a₀ b₀ : Int} {t₀ u₀ v₀ : Tok} {n : Nat} {m₀ : Str → Option Value} {news : List (Addr × Obj)} (stored : List Str) (J : Nat → (Str → Option Value) → List (Addr × Obj) → Prop)
    (hh : A.handled = none) (hr : IsRange s.heap r a₀ b₀ 1 t₀ u₀ v₀) (hsmall : Builtin.Range.small a₀ b₀ 1 = true) (hn : Builtin.Range.rangeSize a₀ b₀ 1 = (n : Int)) (F : Fr h₀ env.locals s.heap m₀) (N : News h₀ env.locals s.heap news) (hj : J 0 m₀ news)
    (turn : ∀ (i : Nat) t m₁ nx h tk own, i < n → nx.map (·.1) = news.map (·.1) → OwnOff own (news.map (·.1)) → J i m₁ nx → Fr h₀ env.locals h (fun y => if y = x then some (.int (a₀ + i) t) else over stored m₁ m₀ y) → News h₀ env.locals h (nx ++ own) →
      wpAny (model prog w) A (execs body env) (TPost h₀ env.locals stored m₀ (J (i + 1)) own (news.map (·.1)) { s with heap := h, toks := tk } Q) E { s with heap := h, toks := tk })
    (done : ∀ m₁ nx h tk, nx.map (·.1) = news.map (·.1) → J n m₁ nx → Fr h₀ env.locals h (over stored m₁ m₀) → News h₀ env.locals h nx → Q .next { s with heap := h, toks := tk }) :
    wpAny (model prog w) A (pyIter (.ref r)) (fun it s₂ => LoopAtV prog w A h₀ env x body Q E it s₂) E s := by
  refine wpAny_pyIter_range hr hsmall ?_
  have W : Walks prog w A s.heap.objs.size [s.heap.objs.size] [s.heap.objs.size] n (fun i v => i < n ∧ ∃ t, v = .int (a₀ + i * 1) t)
      (fun i h => IsRangeIter h s.heap.objs.size (a₀ + (i : Nat) * 1) ((n : Int) - (i : Nat)) 1) := (Walks.range hh _ a₀ 1 n).bound
  refine loopK stored J W ?_ ?_ ?_ ?_ (by show IsRangeIter _ _ _ _ _; rw [hn]; simpa using Heap.get?_push_size _ rfl) (F.push _) (fun p hp => ⟨Heap.get?_push_of_some _ (N p hp).1, (N p hp).2⟩) hj ?_ done
  · intro hm
    exact absurd F.ns.lt ((List.mem_singleton.mp hm) ▸ Nat.lt_irrefl _)
  · intro b hb
    rw [List.mem_singleton.mp hb]
    exact next_is_new F
  · intro p hp hI
    exact absurd (Heap.lt_size (N p hp).1) ((List.mem_singleton.mp hI) ▸ Nat.lt_irrefl _)
  · intro p hp hI
    exact absurd (Heap.lt_size (N p hp).1) ((List.mem_singleton.mp hI) ▸ Nat.lt_irrefl _)
  · rintro i v m₁ nx h tk own hi ⟨_, t, rfl⟩
    rw [Int.mul_one]
    exact turn i t m₁ nx h tk own hi
end
theorem size_of {a b : Int} (n : Nat) (h : b - a = n) : Builtin.Range.rangeSize a b 1 = (n : Int) := by
  unfold Builtin.Range.rangeSize
  rw [if_pos (by decide)]
  split
  · rw [Int.ediv_one]; omega
  · omega
theorem fits_long {x : Int} (h1 : -10000000 < x) (h2 : x < 10000000) : Builtin.Range.rangeFitsLong x = true := by
  unfold Builtin.Range.rangeFitsLong
  simp only [Bool.and_eq_true, decide_eq_true_eq]
  omega
theorem small_of {a b : Int} (n : Nat) (h : b - a = n) (ha : -1000000 < a) (ha' : a < 1000000) (hb : -1000000 < b) (hb' : b < 1000000) : Builtin.Range.small a b 1 = true := by
  unfold Builtin.Range.small
  rw [size_of n h, if_pos (by decide)]
  simp only [Bool.and_eq_true, Bool.or_eq_true]
  exact ⟨⟨⟨⟨fits_long (by omega) (by omega), fits_long (by omega) (by omega)⟩, fits_long (by omega) (by omega)⟩, fits_long (by omega) (by omega)⟩, Or.inr (fits_long (by omega) (by omega))⟩

/-- a stop for the walk: nothing is known of it by key -/
def Hold (P : Prop) : Prop := P
theorem Hold.go {M : Model} {A : Around} {α : Type} {t : Sem α} {Q : α → Shared → Prop} {E : Value → Shared → Prop} {s : Shared} (h : Hold (wpAny M A t Q E s)) : wpAny M A t Q E s := h
theorem Hold.out {P : Prop} (h : P) : Hold P := h

section
open LCg
variable {prog : Program} {w : World} {A : Around} {E : Value → Shared → Prop} {s : Shared} {h₀ : Heap} {L : Addr} {m : Str → Option Value} {env : Env}
def EltEnd (h₀ : Heap) (L : Addr) (m : Str → Option Value) (s : Shared) (all : List (Addr × Obj)) (R : Value → Prop) (y : Value) (s₂ : Shared) : Prop :=
  ∃ h' tk', s₂ = { s with heap := h', toks := tk' } ∧ Fr h₀ L h' m ∧ News h₀ L h' all ∧ R y
theorem EltEnd.intro {R : Value → Prop} {all : List (Addr × Obj)} {y : Value} {h' : Heap} {tk' : Nat} (F : Fr h₀ L h' m) (N : News h₀ L h' all) (hR : R y) : EltEnd h₀ L m s all R y { s with heap := h', toks := tk' } := ⟨h', tk', rfl, F, N, hR⟩
/-- the element of a comprehension, reckoned without a trace on the ledger -/
def EltOk (prog : Program) (w : World) (A : Around) (h₀ : Heap) (L : Addr) (m : Str → Option Value) (env : Env) (elt : Expr) (x : Str) (scope : PySem.Scope) (cl : List (Str × Addr)) (s : Shared) (news : List (Addr × Obj)) (P : Nat → Value → Prop) (R : Nat → Value → Prop) : Prop :=
  ∀ i v I oI C oC D ys m₂ h tk, P i v → NsObj oC m₂ → m₂ x = some v → Fr h₀ L h m → News h₀ L h ((I, oI) :: (C, oC) :: (D, lst ys) :: news) →
    wpAny (model prog w) A (eval elt (compEnvC scope cl C env)) (EltEnd h₀ L m s ((I, oI) :: (C, oC) :: (D, lst ys) :: news) (R i)) (fun _ _ => False) { s with heap := h, toks := tk }
theorem compRest_pure {elt : Expr} {x : Str} {scope : PySem.Scope} {cl : List (Str × Addr)} {S : List (Addr × Obj) → Prop} {P : Nat → Value → Prop} {R : Nat → Value → Prop} {Fin : List Value → List (Addr × Obj) → Prop} {news : List (Addr × Obj)}
    (hS : S news) (elem : EltOk prog w A h₀ L m env elt x scope cl s news P R) :
    ∀ (k i : Nat) (ys : List Value), ys.length = i → (∀ j y, ys[j]? = some y → R j y) → (∀ zs : List Value, zs.length = i + k → (∀ j y, zs[j]? = some y → R j y) → Fin zs news) →
      CompRest prog w A h₀ L m env elt x scope cl s S P Fin k i ys news := by
  intro k
  induction k with
  | zero => intro i ys hl hy fin; exact CompRest.zero (fin ys (by omega) hy)
  | succ k ih =>
    intro i ys hl hy fin
    refine CompRest.succ ?_
    intro v I oI C oC D m₂ h tk E' hP hC hm F N off hne
    refine wpAny_noRaise (wpAny_mono (elem i v I oI C oC D ys m₂ h tk hP hC hm F N) (fun y s₂ q => ?_) fun _ _ e => e)
    obtain ⟨h', tk', rfl, F', N', hR⟩ := q
    refine CompEnd.intro (s₁ := { s with heap := h, toks := tk }) F' N' news (fun p hp => hp) off hS ?_
    refine ih (i + 1) (ys ++ [y]) (by simp [hl]) ?_ ?_
    · intro j z hz
      by_cases hj : j < ys.length
      · rw [List.getElem?_append_left hj] at hz
        exact hy j z hz
      · rw [List.getElem?_append_right (by omega)] at hz
        have hj' : j = i := by
          have := (List.getElem?_eq_some_iff.mp hz).1
          simp at this
          omega
        subst hj'
        rw [hl, Nat.sub_self] at hz
        simp at hz
        exact hz ▸ hR
    · intro zs hz hy'
      exact fin zs (by omega) hy'
end
theorem pick_upto {vs : List Value} {y : Int} (h : 0 ≤ y) : slicePick vs.toArray none (some y) none = (vs.take y.toNat).toArray := by
  have e : sliceBounds none (some y) none vs.toArray.size = (((0 : Nat) : Int), ((min y.toNat vs.toArray.size : Nat) : Int), 1) := by
    simp only [sliceBounds, Option.getD_none, show (1 : Int) > 0 by decide, if_true, if_neg (show ¬ (y < 0) by omega)]
    congr 1
    congr 1
    omega
  rw [kmk_pick_nat _ e, List.drop_zero, Nat.sub_zero, List.size_toArray, kmk_take_min]
theorem pick_mid {vs : List Value} {x y : Int} (hx : 0 ≤ x) (hxy : x ≤ y) (hy : y ≤ vs.length) : slicePick vs.toArray (some x) (some y) none = ((vs.drop x.toNat).take (y.toNat - x.toNat)).toArray := by
  have e : sliceBounds (some x) (some y) none vs.toArray.size = (((x.toNat : Nat) : Int), ((y.toNat : Nat) : Int), 1) := by
    simp only [sliceBounds, Option.getD_none, show (1 : Int) > 0 by decide, if_true, if_neg (show ¬ (x < 0) by omega), if_neg (show ¬ (y < 0) by omega), List.size_toArray]
    congr 1
    · omega
    · congr 1
      omega
  rw [kmk_pick_nat _ e]
theorem ints_exist : ∀ {zs : List Value}, (∀ y ∈ zs, ∃ n t, y = Value.int n t) → ∃ ns, IntsAre zs ns
  | [], _ => ⟨[], .nil⟩
  | z :: r, h => by
    obtain ⟨n, t, rfl⟩ := h z List.mem_cons_self
    obtain ⟨ns, hr⟩ := ints_exist (zs := r) fun y hy => h y (List.mem_cons_of_mem _ hy)
    exact ⟨n :: ns, .cons n t hr⟩
theorem news_two {h₀ h : Heap} {L : Addr} {p q : Addr × Obj} {r : List (Addr × Obj)} (N : News h₀ L h (p :: q :: r)) : News h₀ L h [p, q] := fun x hx => N x (by
  rcases List.mem_cons.mp hx with rfl | hx
  · exact List.mem_cons_self
  · rw [List.mem_singleton.mp hx]; exact List.mem_cons_of_mem _ List.mem_cons_self)
/-- a name as the law builds it: one to fourteen signs, no end of a row and no comma -/
def GoodName (x : Str) : Prop := 1 ≤ x.length ∧ x.length ≤ 14 ∧ ∀ c ∈ x.cps.toList, c ≠ 10 ∧ c ≠ 44 ∧ c < 128
theorem nm_hd {h₀ h : Heap} {L a : Addr} {o : Obj} {r : List (Addr × Obj)} (_ : News h₀ L h ((a, o) :: r)) : ∃ a' : Addr, a' = a := ⟨a, rfl⟩
theorem news_rotL {h₀ h : Heap} {L : Addr} {x y z : Addr × Obj} {r : List (Addr × Obj)} (N : News h₀ L h (x :: y :: z :: r)) : News h₀ L h (y :: z :: x :: r) := fun p hp => N p (by simp only [List.mem_cons] at hp ⊢; grind)
theorem news_rotR {h₀ h : Heap} {L : Addr} {x y z : Addr × Obj} {r : List (Addr × Obj)} (N : News h₀ L h (y :: z :: x :: r)) : News h₀ L h (x :: y :: z :: r) := fun p hp => N p (by simp only [List.mem_cons] at hp ⊢; grind)
theorem off_app {l d : Addr} {o : Obj} {rest own : List (Addr × Obj)} {adr : List Addr} (h1 : @LT.lt Nat _ d l) (h2 : ∀ p ∈ rest, p.1 ≠ d) (h3 : OwnOff own adr) (hd : d ∈ adr) : ∀ p ∈ (l, o) :: (rest ++ own), p.1 ≠ d := by
  intro p hp
  rcases List.mem_cons.mp hp with rfl | hp
  · exact Nat.ne_of_gt h1
  · rcases List.mem_append.mp hp with hp | hp
    · exact h2 p hp
    · exact h3 p hp d hd
theorem app_off {l : Addr} {rest own : List (Addr × Obj)} {adr : List Addr} (h2 : AllLt l rest) (h3 : OwnOff own adr) (hd : l ∈ adr) : ∀ p ∈ rest ++ own, p.1 ≠ l := by
  intro p hp
  rcases List.mem_append.mp hp with hp | hp
  · exact Nat.ne_of_lt (ktn_ltOf h2 p hp)
  · exact h3 p hp l hd
theorem ints_of : ∀ {zs : List Value} {ks : List Int}, zs.length = ks.length → (∀ (i : Nat) y, zs[i]? = some y → ∃ k t, ks[i]? = some k ∧ y = Value.int k t) → IntsAre zs ks
  | [], [], _, _ => .nil
  | [], _ :: _, h, _ => by simp at h
  | _ :: _, [], h, _ => by simp at h
  | z :: r, k :: q, hl, h => by
    obtain ⟨k', t, hk, rfl⟩ := h 0 z rfl
    cases hk
    exact .cons _ t (ints_of (by simpa using hl) fun i y hy => h (i + 1) y hy)
theorem eqQ {x y : Int} {Q : Value → Shared → Prop} {t : Tok} {s : Shared} (e : x = y) (h : Q (.int y t) s) : Q (.int x t) s := e ▸ h
theorem ints_snoc {vs : List Value} {ns : List Int} {n : Int} {t : Tok} (h : IntsAre vs ns) : IntsAre (vs ++ [.int n t]) (ns ++ [n]) := by
  induction h with
  | nil => exact .cons n t .nil
  | cons k u _ ih => exact .cons k u ih
theorem news_swap {h₀ h : Heap} {L : Addr} {x y : Addr × Obj} {r : List (Addr × Obj)} (N : News h₀ L h (x :: y :: r)) : News h₀ L h (y :: x :: r) := fun p hp => N p (by simp only [List.mem_cons] at hp ⊢; grind)
end Mine
namespace Mine
local macro_rules | `(tactic| units_room) => `(tactic| (have hcL9 := cLine_is; (try simp only [units_in1, units_deeper, Around.mark_units, units_caller] at *); (try dsimp only [ktrTop] at *); omega))
local macro_rules | `(tactic| k_all) => `(tactic| assumption)
local macro_rules | `(tactic| walk_at "eval Name") => `(tactic| (k_here; (with_reducible show wpAny _ _ (eval _ (envOf _ _ _ _ _)) _ _ _); k_dflt (refine' ld ?k1 ?k2 ?_; (case k1 => k_asm); (case k2 => assumption); k_whole)))
local macro_rules | `(tactic| walk_at "mine enter") => `(tactic| ((refine wpAny_noRaise ?_); (refine wpAny_call ?_); (refine' code_def ?k1 ?k2 ?k3 ?k4 ?k5 ?kA ?kF ?kK ?k6 ?k7 ?k8 ?k9 ?kB ?_ ?c2 ?c3 ?c4 ?c5; (case kA => exact rfl); (case kF => exact rfl); (case kK => assumption); (case k1 => k_asm); (case k2 => k_asm); (case k3 => k_asm); (case k4 => k_asm); (case k5 => k_asm); (case k6 => k_is); (case k7 => k_is); (case k8 => ktr_room); (case k9 => first | exact BindsTo.of_eq rfl | exact binds_K (by k_in) rfl (by k_is) rfl rfl rfl); (case c5 => decide); (case kB => exact locs rfl); (case c2 => exact rfl); (case c3 => exact rfl); (case c4 => exact rfl); k_whole; intro g' L' h' FG' F' N' B' X' T'; (refine wpAny_noRaise ?_); (try dsimp only); (try k_lift B'); (try k_fold))))
local macro_rules | `(tactic| walk_at "eval Name") => `(tactic| (k_here; (with_reducible show wpAny _ _ (eval _ (envOf _ _ _ _ _)) _ _ _); (with_reducible rename Fr _ _ _ _ => kF); k_dflt (refine' name_B kF ?k1 ?k2 ?k3 ?k4 ?k5 ?_; (case k1 => k_asm); (case k2 => k_asm); (case k3 => k_is); (case k4 => boot_by_name); (case k5 => decide); k_whole)))
local macro_rules | `(tactic| walk_at "eval Name") => `(tactic| (k_here; (with_reducible show wpAny _ _ (eval _ (compEnvC _ _ _ _)) _ _ _); (with_reducible rename Fr _ _ _ _ => kF); k_dflt (refine' LCgL.ld_built kF ?k1 ?k2 ?k3 ?k4 ?k5 ?_; (case k1 => k_asm); (case k2 => k_asm); (case k3 => k_is); (case k4 => boot_by_name); (case k5 => decide); k_whole)))
local macro_rules | `(tactic| walk_at "eval Name") => `(tactic| (k_here; (with_reducible show wpAny _ _ (eval _ (compEnvC _ _ _ _)) _ _ _); k_dflt (refine' LCgL.ld_own ?k1 ?k2 ?k3 ?k4 ?_; (case k1 => k_asm); (case k2 => k_mem); (case k3 => k_asm); (case k4 => k_asm); k_whole)))
local macro_rules | `(tactic| walk_at "exec For Name Name cons nil") => `(tactic| refine Hold.go ?_)
local macro_rules | `(tactic| walk_at "exec For Name Call cons nil") => `(tactic| refine Hold.go ?_)
local macro_rules | `(tactic| walk_at "eval ListComp") => `(tactic| refine Hold.go ?_)
local macro_rules | `(tactic| walk_at "exec While") => `(tactic| refine Hold.go ?_)
local macro_rules | `(tactic| walk_at "pyIter ref") => `(tactic| ((with_reducible show wpAny _ _ (pyIter (Value.ref _)) (fun it s₂ => LoopAtV _ _ _ _ _ _ _ _ _ it s₂) _ _); refine Hold.go ?_))
local macro_rules | `(tactic| walk_at "execs nil") => `(tactic| refine wpAny_execs_nil ?_)
local macro_rules | `(tactic| walk_at "mine keep") => `(tactic| first | with_reducible exact over_keep | with_reducible exact fun _ _ => rfl | ((with_reducible refine if_keep (by simp only [List.mem_cons, eq_self, true_or, or_true]) ?_); walk_at "mine keep") | ((with_reducible refine over_sub ?ov1 ?ov2); (case ov1 => k_allIn); (case ov2 => walk_at "mine keep")))
local macro_rules | `(tactic| walk_at "call ref") => `(tactic| refine Hold.go ?_)
local macro_rules | `(tactic| walk_at "mine more") => `(tactic| ((refine wpAny_noRaise ?_); (refine wpAny_call ?_); (refine' enter_more ?k1 ?k2 ?k3 ?k4 ?k5 ?kA ?kF ?kK ?k6 ?k7 ?k8 ?kX ?kM ?kN ?kR ?kP ?kT ?kB ?_ ?c2 ?c3 ?c4 ?c5; (case kA => exact rfl); (case kF => exact rfl); (case kK => first | assumption | exact rfl); (case k1 => k_asm); (case k2 => k_asm); (case k3 => k_asm); (case k4 => k_asm); (case k5 => k_asm); (case k6 => k_is); (case k7 => k_is); (case k8 => ktr_room); (case kX => kp_lit); (case kM => exact rfl); (case kN => exact rfl); (case kR => exact rfl); (case kP => exact rfl); (case kT => exact fun _ => rfl); (case kB => exact fun _ => locs rfl); (case c5 => decide); (case c2 => exact rfl); (case c3 => exact rfl); (case c4 => exact rfl); k_whole; intro D' o' g' L' h' tk' l1 lo' hs' FG' F' N' B' X' T'; (refine wpAny_noRaise ?_); (try k_lt l1); (try dsimp only); (try k_lift B'); (try k_fold))))
local macro_rules | `(tactic| walk_at "subscriptTail") => `(tactic| (k_here; (with_reducible show wpAny _ _ (subscriptTail _ _ (Value.ref _) (Value.str _ _)) _ _ _); k_dflt (refine' kw_item ?k1 ?k2 ?k3 ?k4 ?_; (case k1 => k_asm); (case k2 => k_mem); (case k3 => k_asm); (case k4 => with_reducible first | exact gk_statement | exact gk_imports | exact gk_indent | exact gk_length | exact gk_comments | exact gk_sep | exact gk_prefix | exact gk_comma | exact gk_remove); k_whole; (try dsimp only))))
local macro_rules | `(tactic| walk_at "getItem ref str") => `(tactic| (k_here; k_dflt (refine' kw_get ?k1 ?k2 ?k3 ?k4 ?_; (case k1 => k_asm); (case k2 => k_mem); (case k3 => k_asm); (case k4 => with_reducible first | exact gk_statement | exact gk_imports | exact gk_indent | exact gk_length | exact gk_comments | exact gk_sep | exact gk_prefix | exact gk_comma | exact gk_remove); k_whole; (try dsimp only))))
local macro_rules | `(tactic| walk_at "truthy ref") => `(tactic| (k_here; k_dflt (first | (refine' truthy_cons ?k1 ?k2 ?k3 ?_; (case k1 => k_asm); (case k2 => k_mem); (case k3 => omega); k_whole) | (refine' truthy_nil ?k1 ?k2 ?_; (case k1 => k_asm); (case k2 => k_mem); k_whole))))
local macro_rules | `(tactic| walk_at "callWith ref") => `(tactic| (k_here; (with_reducible show wpAny _ _ (callWith _ (Value.ref _) _ (backTo _ (starEach [] _)) (backToKw _ (keywordEach (_ :: _) _))) _ _ _); k_dflt ((with_reducible refine' callWith_KW0 ?k1 ?k2 ?k3 ?_ ?k4); (case k1 => k_asm); (case k2 => k_is); (case k3 => exact rfl); (case k4 => exact rfl); k_whole)))
theorem reset1 : True := by (w_top off; trivial)
theorem take_spec {w : World} {loose : List Str} {mean : ExcName → Option Value} {mg mb : Str → Option Value} {A₀ : Around} {base h₀ : Heap} {dp un : Nat} {gd : Option (List Code)} {cn : Str} {cs : Scope} {a : Addr} {ccd : Value} {cl : List (Str × Addr)} {outer : List Env} {L : Addr}
  {m : Str → Option Value} {s : Shared} {d c : Addr} {cells : List Value} {ns : List Int} {seed many : Int} {ts tm : Tok} {nd nc : Nat} {rest : List (Addr × Obj)} {Q E : Value → Shared → Prop}
  (B : Below A₀ base outer h₀) (F : Fr h₀ L s.heap m) (X : (hd.heap_39 w.params).In h₀)
  (N : News h₀ L s.heap ((d, listOf #[.ref c, .int seed ts] nd) :: (c, listOf cells.toArray nc) :: rest))
  (T : Top hd.view_39 loose mean mg mb h₀) (hke : cs.kind = .function)
  (hroom : dp + 10 < recursionLimit) (hun : un + 200 < cLine)
  (hI : IntsAre cells ns) (hlen : cells.length ≤ 63) (hdc : @Ne Nat d c) (hr1 : ∀ p ∈ rest, p.1 ≠ d) (hr2 : ∀ p ∈ rest, p.1 ≠ c) (h0 : 0 ≤ seed) (h1 : seed < 2147483647) (hm0 : 0 < many) (hm1 : many < 100)
  (ret : ∀ r t h' tk' cells' ns' seed' ts' nd' nc', Fr h₀ L h' m → News h₀ L h' ((d, listOf #[.ref c, .int seed' ts'] nd') :: (c, listOf cells'.toArray nc') :: rest) →
     IntsAre cells' ns' → cells'.length ≤ 63 → 0 ≤ seed' → seed' < 2147483647 → 0 ≤ r → r < many → Q (.int r t) { s with heap := h', toks := tk' }) :
  wpAny (model Challenge.rw_fj5009_01.row.prog w) (ktrTop dp un gd cn cs L a ccd cl outer) (call (.ref 62) [.ref d, .int many tm]) Q E s := by
  revert X; k_fill; intro X
  walk_at "mine enter"
  k_steps
  · refine ret _ _ _ _ cells ns _ _ _ _ (by k_asm) (news_tl (by k_asm)) hI hlen ?_ ?_ ?_ ?_
    · exact (fmod_pos (by decide)).1
    · exact (fmod_pos (by decide)).2
    · exact (fmod_pos hm0).1
    · exact (fmod_pos hm0).2
  · cases hI with
    | nil => exfalso; simp_all
    | cons k t r =>
      rw [List.length_cons] at hlen
      refine pop0 (by k_asm) (by k_asm) (by k_upd) (by omega) ?_
      intro h' F' N'
      k_steps
      exact ret _ _ _ _ _ _ _ _ _ _ (by k_asm) (news_tl (by k_asm)) r (by omega) h0 h1 (fmod_pos hm0).1 (fmod_pos hm0).2
end Mine
namespace Mine
theorem fold_rep (c : Nat) : ∀ (k : Nat) (acc : Array Nat), ((List.replicate k (#[c] : Array Nat)).foldl (· ++ ·) acc).toList = acc.toList ++ List.replicate k c
  | 0, acc => by simp
  | k + 1, acc => by
    rw [List.replicate_succ, List.foldl_cons, fold_rep c k, Array.toList_append, List.append_assoc]
    rfl
theorem mul_one_sign (c : Nat) (n : Int) (h : 1 ≤ n) : (Txt.mul ⟨#[c]⟩ n).cps.toList = List.replicate n.toNat c := by
  unfold Txt.mul
  rw [if_neg (by omega)]
  by_cases h1 : n = 1
  · subst h1
    rfl
  · have : ((n == 1 || (Str.mk #[c]).length == 0) = true) = False := by
      simp [h1, Str.length]
    rw [if_neg (by rw [this]; exact id)]
    show ((List.replicate n.toNat (#[c] : Array Nat)).foldl (· ++ ·) #[]).toList = _
    rw [fold_rep]
    rfl
theorem letters_ok : ∀ i : Nat, i < 11 → 97 ≤ ((Txt.charAt (Str.ofString "abcdefghijklmnopqrstuvwxyz") (0 + (i : Int))).getD 0) ∧ ((Txt.charAt (Str.ofString "abcdefghijklmnopqrstuvwxyz") (0 + (i : Int))).getD 0) < 123 := by
  decide +kernel
theorem mul_name {i : Nat} (hi : i < 11) {n : Int} (h1 : 1 ≤ n) (h9 : n ≤ 9) : (Txt.mul (Txt.item (Str.ofString "abcdefghijklmnopqrstuvwxyz") (0 + (i : Int))) n).length = n.toNat ∧ GoodName (Txt.mul (Txt.item (Str.ofString "abcdefghijklmnopqrstuvwxyz") (0 + (i : Int))) n) := by
  have hl := letters_ok i hi
  unfold Txt.item
  generalize (Txt.charAt (Str.ofString "abcdefghijklmnopqrstuvwxyz") (0 + (i : Int))).getD 0 = c at hl
  have e := mul_one_sign c n h1
  have hlen : (Txt.mul ⟨#[c]⟩ n).length = n.toNat := by
    show (Txt.mul ⟨#[c]⟩ n).cps.size = n.toNat
    rw [← Array.length_toList, e, List.length_replicate]
  refine ⟨hlen, by omega, by omega, ?_⟩
  intro x hx
  rw [e] at hx
  have := List.eq_of_mem_replicate hx
  omega
theorem good_app {x : Str} (h : GoodName x) (h9 : x.length ≤ 9) : GoodName (x ++ Str.ofString " as q") := by
  have hl : (Str.ofString " as q").length = 5 := by decide
  refine ⟨?_, ?_, ?_⟩
  · rw [Str.length_append]; omega
  · rw [Str.length_append]; omega
  · intro c hc
    rw [Str.cps_append, Array.toList_append] at hc
    rcases List.mem_append.mp hc with hc | hc
    · exact h.2.2 c hc
    · exact (show ∀ c ∈ (Str.ofString " as q").cps.toList, c ≠ 10 ∧ c ≠ 44 ∧ c < 128 by decide) c hc
end Mine
namespace Mine
local macro_rules | `(tactic| walk_at "mine nothing") => `(tactic| skip)
local macro_rules | `(tactic| units_room) => `(tactic| (have hcL9 := cLine_is; (try simp only [units_in1, units_deeper, Around.mark_units, units_caller] at *); (try dsimp only [ktrTop] at *); omega))
local macro_rules | `(tactic| k_all) => `(tactic| assumption)
local macro_rules | `(tactic| walk_at "eval Name") => `(tactic| (k_here; (with_reducible show wpAny _ _ (eval _ (envOf _ _ _ _ _)) _ _ _); k_dflt (refine' ld ?k1 ?k2 ?_; (case k1 => k_asm); (case k2 => assumption); k_whole)))
local macro_rules | `(tactic| walk_at "mine enter") => `(tactic| ((refine wpAny_noRaise ?_); (refine wpAny_call ?_); (refine' code_def ?k1 ?k2 ?k3 ?k4 ?k5 ?kA ?kF ?kK ?k6 ?k7 ?k8 ?k9 ?kB ?_ ?c2 ?c3 ?c4 ?c5; (case kA => exact rfl); (case kF => exact rfl); (case kK => assumption); (case k1 => k_asm); (case k2 => k_asm); (case k3 => k_asm); (case k4 => k_asm); (case k5 => k_asm); (case k6 => k_is); (case k7 => k_is); (case k8 => ktr_room); (case k9 => first | exact BindsTo.of_eq rfl | exact binds_K (by k_in) rfl (by k_is) rfl rfl rfl); (case c5 => decide); (case kB => exact locs rfl); (case c2 => exact rfl); (case c3 => exact rfl); (case c4 => exact rfl); k_whole; intro g' L' h' FG' F' N' B' X' T'; (refine wpAny_noRaise ?_); (try dsimp only); (try k_lift B'); (try k_fold))))
local macro_rules | `(tactic| walk_at "eval Name") => `(tactic| (k_here; (with_reducible show wpAny _ _ (eval _ (envOf _ _ _ _ _)) _ _ _); (with_reducible rename Fr _ _ _ _ => kF); k_dflt (refine' name_B kF ?k1 ?k2 ?k3 ?k4 ?k5 ?_; (case k1 => k_asm); (case k2 => k_asm); (case k3 => k_is); (case k4 => boot_by_name); (case k5 => decide); k_whole)))
local macro_rules | `(tactic| walk_at "eval Name") => `(tactic| (k_here; (with_reducible show wpAny _ _ (eval _ (compEnvC _ _ _ _)) _ _ _); (with_reducible rename Fr _ _ _ _ => kF); k_dflt (refine' LCgL.ld_built kF ?k1 ?k2 ?k3 ?k4 ?k5 ?_; (case k1 => k_asm); (case k2 => k_asm); (case k3 => k_is); (case k4 => boot_by_name); (case k5 => decide); k_whole)))
local macro_rules | `(tactic| walk_at "eval Name") => `(tactic| (k_here; (with_reducible show wpAny _ _ (eval _ (compEnvC _ _ _ _)) _ _ _); k_dflt (refine' LCgL.ld_own ?k1 ?k2 ?k3 ?k4 ?_; (case k1 => k_asm); (case k2 => k_mem); (case k3 => k_asm); (case k4 => k_asm); k_whole)))
local macro_rules | `(tactic| walk_at "exec For Name Name cons nil") => `(tactic| refine Hold.go ?_)
local macro_rules | `(tactic| walk_at "exec For Name Call cons nil") => `(tactic| refine Hold.go ?_)
local macro_rules | `(tactic| walk_at "eval ListComp") => `(tactic| refine Hold.go ?_)
local macro_rules | `(tactic| walk_at "exec While") => `(tactic| refine Hold.go ?_)
local macro_rules | `(tactic| walk_at "pyIter ref") => `(tactic| ((with_reducible show wpAny _ _ (pyIter (Value.ref _)) (fun it s₂ => LoopAtV _ _ _ _ _ _ _ _ _ it s₂) _ _); refine Hold.go ?_))
local macro_rules | `(tactic| walk_at "execs nil") => `(tactic| refine wpAny_execs_nil ?_)
local macro_rules | `(tactic| walk_at "mine keep") => `(tactic| first | with_reducible exact over_keep | with_reducible exact fun _ _ => rfl | ((with_reducible refine if_keep (by simp only [List.mem_cons, eq_self, true_or, or_true]) ?_); walk_at "mine keep") | ((with_reducible refine over_sub ?ov1 ?ov2); (case ov1 => k_allIn); (case ov2 => walk_at "mine keep")))
local macro_rules | `(tactic| walk_at "call ref") => `(tactic| refine Hold.go ?_)
local macro_rules | `(tactic| walk_at "mine more") => `(tactic| ((refine wpAny_noRaise ?_); (refine wpAny_call ?_); (refine' enter_more ?k1 ?k2 ?k3 ?k4 ?k5 ?kA ?kF ?kK ?k6 ?k7 ?k8 ?kX ?kM ?kN ?kR ?kP ?kT ?kB ?_ ?c2 ?c3 ?c4 ?c5; (case kA => exact rfl); (case kF => exact rfl); (case kK => first | assumption | exact rfl); (case k1 => k_asm); (case k2 => k_asm); (case k3 => k_asm); (case k4 => k_asm); (case k5 => k_asm); (case k6 => k_is); (case k7 => k_is); (case k8 => ktr_room); (case kX => kp_lit); (case kM => exact rfl); (case kN => exact rfl); (case kR => exact rfl); (case kP => exact rfl); (case kT => exact fun _ => rfl); (case kB => exact fun _ => locs rfl); (case c5 => decide); (case c2 => exact rfl); (case c3 => exact rfl); (case c4 => exact rfl); k_whole; intro D' o' g' L' h' tk' l1 lo' hs' FG' F' N' B' X' T'; (refine wpAny_noRaise ?_); (try k_lt l1); (try dsimp only); (try k_lift B'); (try k_fold))))
local macro_rules | `(tactic| walk_at "subscriptTail") => `(tactic| (k_here; (with_reducible show wpAny _ _ (subscriptTail _ _ (Value.ref _) (Value.str _ _)) _ _ _); k_dflt (refine' kw_item ?k1 ?k2 ?k3 ?k4 ?_; (case k1 => k_asm); (case k2 => k_mem); (case k3 => k_asm); (case k4 => with_reducible first | exact gk_statement | exact gk_imports | exact gk_indent | exact gk_length | exact gk_comments | exact gk_sep | exact gk_prefix | exact gk_comma | exact gk_remove); k_whole; (try dsimp only))))
local macro_rules | `(tactic| walk_at "getItem ref str") => `(tactic| (k_here; k_dflt (refine' kw_get ?k1 ?k2 ?k3 ?k4 ?_; (case k1 => k_asm); (case k2 => k_mem); (case k3 => k_asm); (case k4 => with_reducible first | exact gk_statement | exact gk_imports | exact gk_indent | exact gk_length | exact gk_comments | exact gk_sep | exact gk_prefix | exact gk_comma | exact gk_remove); k_whole; (try dsimp only))))
local macro_rules | `(tactic| walk_at "truthy ref") => `(tactic| (k_here; k_dflt (first | (refine' truthy_cons ?k1 ?k2 ?k3 ?_; (case k1 => k_asm); (case k2 => k_mem); (case k3 => omega); k_whole) | (refine' truthy_nil ?k1 ?k2 ?_; (case k1 => k_asm); (case k2 => k_mem); k_whole))))
local macro_rules | `(tactic| walk_at "callWith ref") => `(tactic| (k_here; (with_reducible show wpAny _ _ (callWith _ (Value.ref _) _ (backTo _ (starEach [] _)) (backToKw _ (keywordEach (_ :: _) _))) _ _ _); k_dflt ((with_reducible refine' callWith_KW0 ?k1 ?k2 ?k3 ?_ ?k4); (case k1 => k_asm); (case k2 => k_is); (case k3 => exact rfl); (case k4 => exact rfl); k_whole)))
theorem reset2 : True := by (w_top off; trivial)
theorem names_spec {w : World} {loose : List Str} {mean : ExcName → Option Value} {mg mb : Str → Option Value} {A₀ : Around} {base h₀ : Heap} {dp un : Nat} {gd : Option (List Code)} {cn : Str} {cs : Scope} {a : Addr} {ccd : Value} {cl : List (Str × Addr)} {outer : List Env} {L : Addr}
  {m : Str → Option Value} {s : Shared} {d c : Addr} {cells : List Value} {ns : List Int} {seed : Int} {many : Nat} {ts tm : Tok} {nd nc : Nat} {rest : List (Addr × Obj)} {Q E : Value → Shared → Prop}
  (B : Below A₀ base outer h₀) (F : Fr h₀ L s.heap m) (X : (hd.heap_39 w.params).In h₀)
  (N : News h₀ L s.heap ((d, listOf #[.ref c, .int seed ts] nd) :: (c, listOf cells.toArray nc) :: rest))
  (T : Top hd.view_39 loose mean mg mb h₀) (hke : cs.kind = .function)
  (hroom : dp + 20 < recursionLimit) (hun : un + 300 < cLine)
  (hI : IntsAre cells ns) (hlen : cells.length ≤ 63) (hdc : @Ne Nat d c) (hr1 : ∀ p ∈ rest, p.1 ≠ d) (hr2 : ∀ p ∈ rest, p.1 ≠ c) (h0 : 0 ≤ seed) (h1 : seed < 2147483647) (hm1 : many ≤ 11)
  (ret : ∀ l h' tk' nvs names nl cells' ns' seed' ts' nd' nc', Fr h₀ L h' m → News h₀ L h' ((l, listOf nvs.toArray nl) :: (d, listOf #[.ref c, .int seed' ts'] nd') :: (c, listOf cells'.toArray nc') :: rest) →
     StrsAre nvs names → names.length = many → (∀ x ∈ names, GoodName x) → @LT.lt Nat _ d l → @LT.lt Nat _ c l → AllLt l rest →
     IntsAre cells' ns' → cells'.length ≤ 63 → 0 ≤ seed' → seed' < 2147483647 → Q (.ref l) { s with heap := h', toks := tk' }) :
  wpAny (model Challenge.rw_fj5009_01.row.prog w) (ktrTop dp un gd cn cs L a ccd cl outer) (call (.ref 69) [.ref d, .int many tm]) Q E s := by
  revert X; k_fill; intro X
  walk_at "mine enter"
  k_steps
  refine Hold.out (For_invVF (by k_asm) (by exact rfl) (by exact rfl) ?_ (hE := PassesOwn.never))
  k_steps
  obtain ⟨l9, e9⟩ := nm_hd (by assumption)
  subst e9
  rename _ ∧ _ ∧ AllLt _ _ => hl9
  refine Hold.out (iter_rangeK (n := many) [Str.ofString "k", Str.ofString "size", Str.ofString "name"]
    (fun i _ nx => ∃ nvs names nl cells' ns' seed' ts' nd' nc', nx = (l9, listOf nvs.toArray nl) :: (d, listOf #[.ref c, .int seed' ts'] nd') :: (c, listOf cells'.toArray nc') :: rest ∧ StrsAre nvs names ∧ names.length = i ∧ (∀ x ∈ names, GoodName x) ∧
      IntsAre cells' ns' ∧ cells'.length ≤ 63 ∧ 0 ≤ seed' ∧ seed' < 2147483647)
    rfl (by assumption) (small_of many (by omega) (by omega) (by omega) (by omega) (by omega)) (size_of many (by omega)) (by k_asm) (by k_asm)
    ⟨[], [], 0, cells, ns, seed, ts, nd, nc, rfl, .nil, rfl, by simp, hI, hlen, h0, h1⟩ ?_ ?_)
  · rintro i t m₁ nx h tk own hi _ hoff ⟨nvs, names, nl, cells', ns', seed', ts', nd', nc', rfl, hS, hnl, hg, hI', hlen', h0', h1'⟩ F9 N9
    dsimp only
    simp only [List.map_cons, List.map_nil, List.cons_append, List.nil_append] at hoff N9
    k_steps
    refine Hold.out (take_spec (by k_asm) (by k_asm) (by k_asm) (news_rotL N9) (by k_asm) rfl (by ktr_room) (by ktr_units) hI' hlen' hdc (off_app hl9.1 hr1 hoff (by k_memK)) (off_app hl9.2.1 hr2 hoff (by k_memK)) h0' h1' (by decide) (by decide) ?_)
    intro r tr h2 tk2 cells2 ns2 seed2 ts2 nd2 nc2 F2 N2 hI2 hlen2 h02 h12 hr0 hr9
    replace N2 := news_rotR N2
    clear N9 F9
    have hro := app_off hl9.2.2 hoff (by k_memK)
    obtain ⟨hml, hmg⟩ := mul_name (i := i) (by omega) (n := 1 + r) (by omega) (by omega)
    k_steps
    · rename News _ _ _ _ => N8
      rw [List.push_toArray] at N8
      exact TEnd.intro (nx := (l9, _) :: (d, _) :: (c, _) :: rest) (by k_asm) N8 rfl (by walk_at "mine keep") ⟨_, _, _, _, _, _, _, _, _, rfl, hS.append' (.cons _ _ .nil), by rw [List.length_append, hnl]; rfl,
        (fun x hx => (List.mem_append.mp hx).elim (hg x) fun h => by rw [List.mem_singleton.mp h]; exact good_app hmg (by omega)), hI2, hlen2, h02, h12⟩
    · rename News _ _ _ _ => N8
      rw [List.push_toArray] at N8
      exact TEnd.intro (nx := (l9, _) :: (d, _) :: (c, _) :: rest) (by k_asm) N8 rfl (by walk_at "mine keep") ⟨_, _, _, _, _, _, _, _, _, rfl, hS.append' (.cons _ _ .nil), by rw [List.length_append, hnl]; rfl,
        (fun x hx => (List.mem_append.mp hx).elim (hg x) fun h => by rw [List.mem_singleton.mp h]; exact hmg), hI2, hlen2, h02, h12⟩
  · rintro m₁ nx h tk ha ⟨nvs, names, nl, cells', ns', seed', ts', nd', nc', rfl, hS, hnl, hg, hI', hlen', h0', h1'⟩ F9 N9
    k_steps
    exact ret _ _ _ _ _ _ _ _ _ _ _ _ (by k_asm) (by k_asm) hS hnl hg hl9.1 hl9.2.1 hl9.2.2 hI' hlen' h0' h1'
end Mine
namespace Mine
/-- the width of a row that holds the names first .. last, what stands at its end counted in -/
def wideN (ind : Nat) (ls : List Nat) (first last : Nat) (comma grouped : Bool) : Nat :=
  ind + ((ls.drop first).take (last - first)).sum + 2 * (last - first - 1) + (if last < ls.length then 1 else (if comma then 1 else 0) + (if grouped then 0 else 1))
theorem sum_lens : ∀ (ns : List Str), (ns.map fun x => (x.length : Int)).sum = ((ns.map Str.length).sum : Nat)
  | [] => rfl
  | x :: r => by
    simp only [List.map_cons, List.sum_cons, sum_lens r]
    omega
theorem wide_a {ind : Nat} {names : List Str} {first last : Nat} {comma grouped : Bool} (h : first < last) (hc : (last : Int) < (names.length : Int)) :
    (ind : Int) + (((names.drop first).take (last - first)).map fun x => (x.length : Int)).sum + 2 * ((last : Int) - first - 1) + 1 = (wideN ind (names.map Str.length) first last comma grouped : Nat) := by
  unfold wideN
  rw [sum_lens, List.map_take, List.map_drop, List.length_map, if_pos (by omega)]
  omega
theorem wide_b {ind : Nat} {names : List Str} {first last : Nat} {comma grouped : Bool} {c1 c2 : Int} (h : first < last) (hc : ¬ (last : Int) < (names.length : Int)) (e1 : c1 = if comma then 1 else 0) (e2 : c2 = if grouped then 0 else 1) :
    (ind : Int) + (((names.drop first).take (last - first)).map fun x => (x.length : Int)).sum + 2 * ((last : Int) - first - 1) + c1 + c2 = (wideN ind (names.map Str.length) first last comma grouped : Nat) := by
  unfold wideN
  rw [sum_lens, List.map_take, List.map_drop, List.length_map, if_neg (show ¬ last < names.length by omega)]
  subst e1
  subst e2
  cases comma <;> cases grouped <;> simp only [if_true, if_false, Bool.false_eq_true] <;> omega
/-- may the row first .. last stand? -/
def okN (ind width : Nat) (ls : List Nat) (comma grouped : Bool) (first last : Nat) : Bool := last - first == 1 || decide (wideN ind ls first last comma grouped ≤ width)
/-- the ways to reach last, from a table of the least numbers -/
def waysN (ok : Nat → Nat → Bool) (tab : List Int) (last : Nat) (upto : Nat) : List Int := ((List.range upto).filter fun f => ok f last).map fun f => tab.getD f 0 + 1
/-- the table of the least numbers of rows -/
def leastN (ok : Nat → Nat → Bool) : Nat → List Int
  | 0 => [0]
  | k + 1 => leastN ok k ++ [((waysN ok (leastN ok k) (k + 1) (k + 1)).min?).getD 0]
theorem leastN_length (ok : Nat → Nat → Bool) : ∀ k, (leastN ok k).length = k + 1
  | 0 => rfl
  | k + 1 => by rw [leastN, List.length_append, leastN_length ok k]; rfl
theorem waysN_succ (ok : Nat → Nat → Bool) (tab : List Int) (last i : Nat) : waysN ok tab last (i + 1) = waysN ok tab last i ++ (if ok i last then [tab.getD i 0 + 1] else []) := by
  unfold waysN
  rw [List.range_succ, List.filter_append, List.map_append]
  congr 1
  by_cases h : ok i last = true <;> simp [h]
theorem waysN_length (ok : Nat → Nat → Bool) (tab : List Int) (last i : Nat) : (waysN ok tab last i).length ≤ i := by
  unfold waysN
  rw [List.length_map]
  exact Nat.le_trans (List.length_filter_le _ _) (by rw [List.length_range]; exact Nat.le_refl _)
theorem waysN_pos (ok : Nat → Nat → Bool) (tab : List Int) (i : Nat) (h : ok i (i + 1) = true) : 0 < (waysN ok tab (i + 1) (i + 1)).length := by
  rw [waysN_succ, if_pos h, List.length_append]
  show 0 < _ + 1
  omega
theorem min_is {l : List Int} {M : Int} (hm : M ∈ l) (ha : ∀ a, a ∈ l → M ≤ a) : l.min?.getD 0 = M := by
  rw [List.min?_eq_some_iff.mpr ⟨hm, ha⟩]
  rfl
end Mine
namespace Mine
local macro_rules | `(tactic| walk_at "mine nothing") => `(tactic| skip)
local macro_rules | `(tactic| walk_at "mine nothing") => `(tactic| skip)
local macro_rules | `(tactic| units_room) => `(tactic| (have hcL9 := cLine_is; (try simp only [units_in1, units_deeper, Around.mark_units, units_caller] at *); (try dsimp only [ktrTop] at *); omega))
local macro_rules | `(tactic| k_all) => `(tactic| assumption)
local macro_rules | `(tactic| walk_at "eval Name") => `(tactic| (k_here; (with_reducible show wpAny _ _ (eval _ (envOf _ _ _ _ _)) _ _ _); k_dflt (refine' ld ?k1 ?k2 ?_; (case k1 => k_asm); (case k2 => assumption); k_whole)))
local macro_rules | `(tactic| walk_at "mine enter") => `(tactic| ((refine wpAny_noRaise ?_); (refine wpAny_call ?_); (refine' code_def ?k1 ?k2 ?k3 ?k4 ?k5 ?kA ?kF ?kK ?k6 ?k7 ?k8 ?k9 ?kB ?_ ?c2 ?c3 ?c4 ?c5; (case kA => exact rfl); (case kF => exact rfl); (case kK => assumption); (case k1 => k_asm); (case k2 => k_asm); (case k3 => k_asm); (case k4 => k_asm); (case k5 => k_asm); (case k6 => k_is); (case k7 => k_is); (case k8 => ktr_room); (case k9 => first | exact BindsTo.of_eq rfl | exact binds_K (by k_in) rfl (by k_is) rfl rfl rfl); (case c5 => decide); (case kB => exact locs rfl); (case c2 => exact rfl); (case c3 => exact rfl); (case c4 => exact rfl); k_whole; intro g' L' h' FG' F' N' B' X' T'; (refine wpAny_noRaise ?_); (try dsimp only); (try k_lift B'); (try k_fold))))
local macro_rules | `(tactic| walk_at "eval Name") => `(tactic| (k_here; (with_reducible show wpAny _ _ (eval _ (envOf _ _ _ _ _)) _ _ _); (with_reducible rename Fr _ _ _ _ => kF); k_dflt (refine' name_B kF ?k1 ?k2 ?k3 ?k4 ?k5 ?_; (case k1 => k_asm); (case k2 => k_asm); (case k3 => k_is); (case k4 => boot_by_name); (case k5 => decide); k_whole)))
local macro_rules | `(tactic| walk_at "eval Name") => `(tactic| (k_here; (with_reducible show wpAny _ _ (eval _ (compEnvC _ _ _ _)) _ _ _); (with_reducible rename Fr _ _ _ _ => kF); k_dflt (refine' LCgL.ld_built kF ?k1 ?k2 ?k3 ?k4 ?k5 ?_; (case k1 => k_asm); (case k2 => k_asm); (case k3 => k_is); (case k4 => boot_by_name); (case k5 => decide); k_whole)))
local macro_rules | `(tactic| walk_at "eval Name") => `(tactic| (k_here; (with_reducible show wpAny _ _ (eval _ (compEnvC _ _ _ _)) _ _ _); k_dflt (refine' LCgL.ld_own ?k1 ?k2 ?k3 ?k4 ?_; (case k1 => k_asm); (case k2 => k_mem); (case k3 => k_asm); (case k4 => k_asm); k_whole)))
local macro_rules | `(tactic| walk_at "exec For Name Name cons nil") => `(tactic| refine Hold.go ?_)
local macro_rules | `(tactic| walk_at "exec For Name Call cons nil") => `(tactic| refine Hold.go ?_)
local macro_rules | `(tactic| walk_at "eval ListComp") => `(tactic| refine Hold.go ?_)
local macro_rules | `(tactic| walk_at "exec While") => `(tactic| refine Hold.go ?_)
local macro_rules | `(tactic| walk_at "pyIter ref") => `(tactic| ((with_reducible show wpAny _ _ (pyIter (Value.ref _)) (fun it s₂ => LoopAtV _ _ _ _ _ _ _ _ _ it s₂) _ _); refine Hold.go ?_))
local macro_rules | `(tactic| walk_at "execs nil") => `(tactic| refine wpAny_execs_nil ?_)
local macro_rules | `(tactic| walk_at "mine keep") => `(tactic| first | with_reducible exact over_keep | with_reducible exact fun _ _ => rfl | ((with_reducible refine if_keep (by simp only [List.mem_cons, eq_self, true_or, or_true]) ?_); walk_at "mine keep") | ((with_reducible refine over_sub ?ov1 ?ov2); (case ov1 => k_allIn); (case ov2 => walk_at "mine keep")))
local macro_rules | `(tactic| walk_at "call ref") => `(tactic| refine Hold.go ?_)
local macro_rules | `(tactic| walk_at "mine more") => `(tactic| ((refine wpAny_noRaise ?_); (refine wpAny_call ?_); (refine' enter_more ?k1 ?k2 ?k3 ?k4 ?k5 ?kA ?kF ?kK ?k6 ?k7 ?k8 ?kX ?kM ?kN ?kR ?kP ?kT ?kB ?_ ?c2 ?c3 ?c4 ?c5; (case kA => exact rfl); (case kF => exact rfl); (case kK => first | assumption | exact rfl); (case k1 => k_asm); (case k2 => k_asm); (case k3 => k_asm); (case k4 => k_asm); (case k5 => k_asm); (case k6 => k_is); (case k7 => k_is); (case k8 => ktr_room); (case kX => kp_lit); (case kM => exact rfl); (case kN => exact rfl); (case kR => exact rfl); (case kP => exact rfl); (case kT => exact fun _ => rfl); (case kB => exact fun _ => locs rfl); (case c5 => decide); (case c2 => exact rfl); (case c3 => exact rfl); (case c4 => exact rfl); k_whole; intro D' o' g' L' h' tk' l1 lo' hs' FG' F' N' B' X' T'; (refine wpAny_noRaise ?_); (try k_lt l1); (try dsimp only); (try k_lift B'); (try k_fold))))
local macro_rules | `(tactic| walk_at "subscriptTail") => `(tactic| (k_here; (with_reducible show wpAny _ _ (subscriptTail _ _ (Value.ref _) (Value.str _ _)) _ _ _); k_dflt (refine' kw_item ?k1 ?k2 ?k3 ?k4 ?_; (case k1 => k_asm); (case k2 => k_mem); (case k3 => k_asm); (case k4 => with_reducible first | exact gk_statement | exact gk_imports | exact gk_indent | exact gk_length | exact gk_comments | exact gk_sep | exact gk_prefix | exact gk_comma | exact gk_remove); k_whole; (try dsimp only))))
local macro_rules | `(tactic| walk_at "getItem ref str") => `(tactic| (k_here; k_dflt (refine' kw_get ?k1 ?k2 ?k3 ?k4 ?_; (case k1 => k_asm); (case k2 => k_mem); (case k3 => k_asm); (case k4 => with_reducible first | exact gk_statement | exact gk_imports | exact gk_indent | exact gk_length | exact gk_comments | exact gk_sep | exact gk_prefix | exact gk_comma | exact gk_remove); k_whole; (try dsimp only))))
local macro_rules | `(tactic| walk_at "truthy ref") => `(tactic| (k_here; k_dflt (first | (refine' truthy_cons ?k1 ?k2 ?k3 ?_; (case k1 => k_asm); (case k2 => k_mem); (case k3 => omega); k_whole) | (refine' truthy_nil ?k1 ?k2 ?_; (case k1 => k_asm); (case k2 => k_mem); k_whole))))
local macro_rules | `(tactic| walk_at "callWith ref") => `(tactic| (k_here; (with_reducible show wpAny _ _ (callWith _ (Value.ref _) _ (backTo _ (starEach [] _)) (backToKw _ (keywordEach (_ :: _) _))) _ _ _); k_dflt ((with_reducible refine' callWith_KW0 ?k1 ?k2 ?k3 ?_ ?k4); (case k1 => k_asm); (case k2 => k_is); (case k3 => exact rfl); (case k4 => exact rfl); k_whole)))
theorem reset3 : True := by (w_top off; trivial)
theorem wide_spec {w : World} {loose : List Str} {mean : ExcName → Option Value} {mg mb : Str → Option Value} {A₀ : Around} {base h₀ : Heap} {dp un : Nat} {gd : Option (List Code)} {cn : Str} {cs : Scope} {a : Addr} {ccd : Value} {cl : List (Str × Addr)} {outer : List Env} {L : Addr}
  {m : Str → Option Value} {s : Shared} {l : Addr} {nl : Nat} {nvs : List Value} {names : List Str} {indent : Str} {ti tf tl : Tok} {first last : Nat} {comma grouped : Bool} {rest : List (Addr × Obj)} {Q E : Value → Shared → Prop}
  (B : Below A₀ base outer h₀) (F : Fr h₀ L s.heap m) (X : (hd.heap_39 w.params).In h₀)
  (N : News h₀ L s.heap ((l, listOf nvs.toArray nl) :: rest))
  (T : Top hd.view_39 loose mean mg mb h₀) (hke : cs.kind = .function)
  (hroom : dp + 10 < recursionLimit) (hun : un + 200 < cLine)
  (hS : StrsAre nvs names) (hlen : names.length ≤ 11) (hg : ∀ x ∈ names, x.length ≤ 14) (hind : indent.length ≤ 5)
  (hfl : first < last) (hln : last ≤ names.length)
  (ret : ∀ t h' tk', Fr h₀ L h' m → News h₀ L h' ((l, listOf nvs.toArray nl) :: rest) → Q (.int (wideN indent.length (names.map Str.length) first last comma grouped : Nat) t) { s with heap := h', toks := tk' }) :
  wpAny (model Challenge.rw_fj5009_01.row.prog w) (ktrTop dp un gd cn cs L a ccd cl outer) (call (.ref 74) [.str indent ti, .ref l, .int first tf, .int last tl, .bool comma, .bool grouped]) Q E s := by
  revert X; k_fill; intro X
  walk_at "mine enter"
  have hnv : nvs.length ≤ 11 := by rw [hS.length]; exact hlen
  k_steps
  refine Hold.out (LCg.ListComp_U (by k_asm) rfl (by decide) rfl (by decide) rfl ?_)
  k_steps
  have hsub : StrsAre ((nvs.drop first).take (last - first)) ((names.drop first).take (last - first)) := (hS.drop' _).take' _
  have hpick : slicePick nvs.toArray (some (first : Int)) (some (last : Int)) none = ((nvs.drop first).take (last - first)).toArray := by
    have := pick_mid (vs := nvs) (x := (first : Int)) (y := (last : Int)) (by omega) (by omega) (by rw [hS.length]; omega)
    simpa using this
  refine LCg.CompSrc.ledger rfl (by k_asm) (by k_asm) (by k_mem) ?_ fun g => compRest_pure (R := fun i y => ∃ k t, (((names.drop first).take (last - first)).map fun x => (x.length : Int))[i]? = some k ∧ y = .int k t) ?_ ?_ _ 0 [] rfl (fun j y h => by simp at h) ?_
  · rw [hpick, List.size_toArray]; exact Nat.le_trans (by rw [List.length_take, List.length_drop]; omega) (show 11 ≤ sizeLine by decide)
  · exact Or.inr ⟨_, List.Mem.head _, rfl, _, rfl⟩
  · intro i v I oI C oC D ys m₂ h tk hP hC hm F9 N9
    rw [hpick] at hP
    obtain ⟨x, t, rfl, hx⟩ := hsub.item i v (by simpa using hP)
    have hxl : x.length ≤ 14 := hg x (List.mem_of_mem_drop (List.mem_of_mem_take (List.mem_of_getElem? hx)))
    k_steps
    refine EltEnd.intro (by k_asm) (by k_asm) ?_
    exact ⟨_, _, by rw [List.getElem?_map, hx]; rfl, rfl⟩
  · intro zs hz hy D h tk F9 N9 off
    rw [hpick, List.size_toArray, Nat.zero_add] at hz
    have hiz := ints_of (ks := ((names.drop first).take (last - first)).map fun x => (x.length : Int)) (by rw [List.length_map, hz, hsub.length]) hy
    k_steps
    · exact eqQ (wide_a hfl (by assumption)) (ret _ _ _ (by k_asm) (news_tl (news_tl (by k_asm))))
    all_goals exact eqQ (wide_b hfl (by assumption) (by simp only [*]; rfl) (by simp only [*]; rfl)) (ret _ _ _ (by k_asm) (news_tl (news_tl (by k_asm))))
end Mine
namespace Mine
local macro_rules | `(tactic| walk_at "mine nothing") => `(tactic| skip)
local macro_rules | `(tactic| walk_at "mine nothing") => `(tactic| skip)
local macro_rules | `(tactic| walk_at "mine nothing") => `(tactic| skip)
local macro_rules | `(tactic| units_room) => `(tactic| (have hcL9 := cLine_is; (try simp only [units_in1, units_deeper, Around.mark_units, units_caller] at *); (try dsimp only [ktrTop] at *); omega))
local macro_rules | `(tactic| k_all) => `(tactic| assumption)
local macro_rules | `(tactic| walk_at "eval Name") => `(tactic| (k_here; (with_reducible show wpAny _ _ (eval _ (envOf _ _ _ _ _)) _ _ _); k_dflt (refine' ld ?k1 ?k2 ?_; (case k1 => k_asm); (case k2 => assumption); k_whole)))
local macro_rules | `(tactic| walk_at "mine enter") => `(tactic| ((refine wpAny_noRaise ?_); (refine wpAny_call ?_); (refine' code_def ?k1 ?k2 ?k3 ?k4 ?k5 ?kA ?kF ?kK ?k6 ?k7 ?k8 ?k9 ?kB ?_ ?c2 ?c3 ?c4 ?c5; (case kA => exact rfl); (case kF => exact rfl); (case kK => assumption); (case k1 => k_asm); (case k2 => k_asm); (case k3 => k_asm); (case k4 => k_asm); (case k5 => k_asm); (case k6 => k_is); (case k7 => k_is); (case k8 => ktr_room); (case k9 => first | exact BindsTo.of_eq rfl | exact binds_K (by k_in) rfl (by k_is) rfl rfl rfl); (case c5 => decide); (case kB => exact locs rfl); (case c2 => exact rfl); (case c3 => exact rfl); (case c4 => exact rfl); k_whole; intro g' L' h' FG' F' N' B' X' T'; (refine wpAny_noRaise ?_); (try dsimp only); (try k_lift B'); (try k_fold))))
local macro_rules | `(tactic| walk_at "eval Name") => `(tactic| (k_here; (with_reducible show wpAny _ _ (eval _ (envOf _ _ _ _ _)) _ _ _); (with_reducible rename Fr _ _ _ _ => kF); k_dflt (refine' name_B kF ?k1 ?k2 ?k3 ?k4 ?k5 ?_; (case k1 => k_asm); (case k2 => k_asm); (case k3 => k_is); (case k4 => boot_by_name); (case k5 => decide); k_whole)))
local macro_rules | `(tactic| walk_at "eval Name") => `(tactic| (k_here; (with_reducible show wpAny _ _ (eval _ (compEnvC _ _ _ _)) _ _ _); (with_reducible rename Fr _ _ _ _ => kF); k_dflt (refine' LCgL.ld_built kF ?k1 ?k2 ?k3 ?k4 ?k5 ?_; (case k1 => k_asm); (case k2 => k_asm); (case k3 => k_is); (case k4 => boot_by_name); (case k5 => decide); k_whole)))
local macro_rules | `(tactic| walk_at "eval Name") => `(tactic| (k_here; (with_reducible show wpAny _ _ (eval _ (compEnvC _ _ _ _)) _ _ _); k_dflt (refine' LCgL.ld_own ?k1 ?k2 ?k3 ?k4 ?_; (case k1 => k_asm); (case k2 => k_mem); (case k3 => k_asm); (case k4 => k_asm); k_whole)))
local macro_rules | `(tactic| walk_at "exec For Name Name cons nil") => `(tactic| refine Hold.go ?_)
local macro_rules | `(tactic| walk_at "exec For Name Call cons nil") => `(tactic| refine Hold.go ?_)
local macro_rules | `(tactic| walk_at "eval ListComp") => `(tactic| refine Hold.go ?_)
local macro_rules | `(tactic| walk_at "exec While") => `(tactic| refine Hold.go ?_)
local macro_rules | `(tactic| walk_at "pyIter ref") => `(tactic| ((with_reducible show wpAny _ _ (pyIter (Value.ref _)) (fun it s₂ => LoopAtV _ _ _ _ _ _ _ _ _ it s₂) _ _); refine Hold.go ?_))
local macro_rules | `(tactic| walk_at "execs nil") => `(tactic| refine wpAny_execs_nil ?_)
local macro_rules | `(tactic| walk_at "mine keep") => `(tactic| first | with_reducible exact over_keep | with_reducible exact fun _ _ => rfl | ((with_reducible refine if_keep (by simp only [List.mem_cons, eq_self, true_or, or_true]) ?_); walk_at "mine keep") | ((with_reducible refine over_sub ?ov1 ?ov2); (case ov1 => k_allIn); (case ov2 => walk_at "mine keep")))
local macro_rules | `(tactic| walk_at "call ref") => `(tactic| refine Hold.go ?_)
local macro_rules | `(tactic| walk_at "mine more") => `(tactic| ((refine wpAny_noRaise ?_); (refine wpAny_call ?_); (refine' enter_more ?k1 ?k2 ?k3 ?k4 ?k5 ?kA ?kF ?kK ?k6 ?k7 ?k8 ?kX ?kM ?kN ?kR ?kP ?kT ?kB ?_ ?c2 ?c3 ?c4 ?c5; (case kA => exact rfl); (case kF => exact rfl); (case kK => first | assumption | exact rfl); (case k1 => k_asm); (case k2 => k_asm); (case k3 => k_asm); (case k4 => k_asm); (case k5 => k_asm); (case k6 => k_is); (case k7 => k_is); (case k8 => ktr_room); (case kX => kp_lit); (case kM => exact rfl); (case kN => exact rfl); (case kR => exact rfl); (case kP => exact rfl); (case kT => exact fun _ => rfl); (case kB => exact fun _ => locs rfl); (case c5 => decide); (case c2 => exact rfl); (case c3 => exact rfl); (case c4 => exact rfl); k_whole; intro D' o' g' L' h' tk' l1 lo' hs' FG' F' N' B' X' T'; (refine wpAny_noRaise ?_); (try k_lt l1); (try dsimp only); (try k_lift B'); (try k_fold))))
local macro_rules | `(tactic| walk_at "subscriptTail") => `(tactic| (k_here; (with_reducible show wpAny _ _ (subscriptTail _ _ (Value.ref _) (Value.str _ _)) _ _ _); k_dflt (refine' kw_item ?k1 ?k2 ?k3 ?k4 ?_; (case k1 => k_asm); (case k2 => k_mem); (case k3 => k_asm); (case k4 => with_reducible first | exact gk_statement | exact gk_imports | exact gk_indent | exact gk_length | exact gk_comments | exact gk_sep | exact gk_prefix | exact gk_comma | exact gk_remove); k_whole; (try dsimp only))))
local macro_rules | `(tactic| walk_at "getItem ref str") => `(tactic| (k_here; k_dflt (refine' kw_get ?k1 ?k2 ?k3 ?k4 ?_; (case k1 => k_asm); (case k2 => k_mem); (case k3 => k_asm); (case k4 => with_reducible first | exact gk_statement | exact gk_imports | exact gk_indent | exact gk_length | exact gk_comments | exact gk_sep | exact gk_prefix | exact gk_comma | exact gk_remove); k_whole; (try dsimp only))))
local macro_rules | `(tactic| walk_at "truthy ref") => `(tactic| (k_here; k_dflt (first | (refine' truthy_cons ?k1 ?k2 ?k3 ?_; (case k1 => k_asm); (case k2 => k_mem); (case k3 => omega); k_whole) | (refine' truthy_nil ?k1 ?k2 ?_; (case k1 => k_asm); (case k2 => k_mem); k_whole))))
local macro_rules | `(tactic| walk_at "callWith ref") => `(tactic| (k_here; (with_reducible show wpAny _ _ (callWith _ (Value.ref _) _ (backTo _ (starEach [] _)) (backToKw _ (keywordEach (_ :: _) _))) _ _ _); k_dflt ((with_reducible refine' callWith_KW0 ?k1 ?k2 ?k3 ?_ ?k4); (case k1 => k_asm); (case k2 => k_is); (case k3 => exact rfl); (case k4 => exact rfl); k_whole)))
theorem reset4 : True := by (w_top off; trivial)
theorem fewest_spec {w : World} {loose : List Str} {mean : ExcName → Option Value} {mg mb : Str → Option Value} {A₀ : Around} {base h₀ : Heap} {dp un : Nat} {gd : Option (List Code)} {cn : Str} {cs : Scope} {a : Addr} {ccd : Value} {cl : List (Str × Addr)} {outer : List Env} {L : Addr}
  {m : Str → Option Value} {s : Shared} {l : Addr} {nl : Nat} {nvs : List Value} {names : List Str} {indent : Str} {ti tw : Tok} {width : Nat} {comma grouped : Bool} {rest : List (Addr × Obj)} {Q E : Value → Shared → Prop}
  (B : Below A₀ base outer h₀) (F : Fr h₀ L s.heap m) (X : (hd.heap_39 w.params).In h₀)
  (N : News h₀ L s.heap ((l, listOf nvs.toArray nl) :: rest))
  (T : Top hd.view_39 loose mean mg mb h₀) (hke : cs.kind = .function)
  (hroom : dp + 20 < recursionLimit) (hun : un + 300 < cLine)
  (hS : StrsAre nvs names) (hlen : names.length ≤ 11) (hpos : 0 < names.length) (hg : ∀ x ∈ names, x.length ≤ 14) (hind : indent.length ≤ 5) (hw : width ≤ 100)
  (ret : ∀ t h' tk', Fr h₀ L h' m → News h₀ L h' ((l, listOf nvs.toArray nl) :: rest) → Q (.int ((leastN (okN indent.length width (names.map Str.length) comma grouped) names.length).getD names.length 0) t) { s with heap := h', toks := tk' }) :
  wpAny (model Challenge.rw_fj5009_01.row.prog w) (ktrTop dp un gd cn cs L a ccd cl outer) (call (.ref 81) [.str indent ti, .ref l, .int width tw, .bool comma, .bool grouped]) Q E s := by
  revert X; k_fill; intro X
  walk_at "mine enter"
  k_steps
  refine Hold.out (For_invVF (by k_asm) (by exact rfl) (by exact rfl) ?_ (hE := PassesOwn.never))
  k_steps
  obtain ⟨l9, e9⟩ := nm_hd (by assumption)
  subst e9
  rename _ ∧ AllLt _ _ => hl9
  generalize hok : okN indent.length width (names.map Str.length) comma grouped = ok at ret
  refine Hold.out (iter_rangeK (n := names.length) [Str.ofString "last", Str.ofString "ways", Str.ofString "first"]
    (fun i _ nx => ∃ lv ln, nx = (l9, listOf lv.toArray ln) :: (l, listOf nvs.toArray nl) :: rest ∧ IntsAre lv (leastN ok i))
    rfl (by assumption) (small_of names.length (by omega) (by omega) (by omega) (by omega) (by omega)) (size_of names.length (by omega)) (by k_asm) (by k_asm)
    ⟨_, _, rfl, .cons _ _ .nil⟩ ?_ ?_)
  · rintro i t m₁ nx h tk own hi _ hoff ⟨lv, ln, rfl, hlv⟩ F9 N9
    dsimp only
    simp only [List.map_cons, List.cons_append] at hoff N9
    rw [show (1 + (i : Int)) = ((i + 1 : Nat) : Int) by omega] at F9
    have hro := app_off hl9.2 hoff (by k_memK)
    have hll := leastN_length ok i
    have hlvl := hlv.length
    k_steps
    refine Hold.out (For_invVF (by k_asm) (by exact rfl) (by exact rfl) ?_ (hE := PassesOwn.never))
    k_steps
    obtain ⟨l8, e8⟩ := nm_hd (by assumption)
    subst e8
    rename _ ∧ _ ∧ AllLt _ _ => hl8
    refine Hold.out (iter_rangeK (n := i + 1) [Str.ofString "first"]
      (fun j _ nx => ∃ wv wn, nx = (l8, listOf wv.toArray wn) :: (l9, listOf lv.toArray ln) :: (l, listOf nvs.toArray nl) :: (rest ++ own) ∧ IntsAre wv (waysN ok (leastN ok i) (i + 1) j))
      rfl (by assumption) (small_of (i + 1) (by omega) (by omega) (by omega) (by omega) (by omega)) (size_of (i + 1) (by omega)) (by k_asm) (by k_asm) ⟨_, _, rfl, .nil⟩ ?_ ?_)
    · rintro j t2 m₂ nx2 h2 tk2 own2 hj _ hoff2 ⟨wv, wn, rfl, hwv⟩ F8 N8
      dsimp only
      simp only [List.map_cons, List.cons_append] at hoff2 N8
      rw [Int.zero_add] at F8
      have hro2 := app_off hl8.2.2 hoff2 (by k_memK)
      have hwl := hwv.length
      have hwl2 := waysN_length ok (leastN ok i) (i + 1) j
      k_steps
      · have hk : ok j (i + 1) = true := by
          rw [← hok]; unfold okN
          rw [Bool.or_eq_true]; left; rw [beq_iff_eq]; omega
        rename News _ _ _ _ => N7
        rw [List.push_toArray] at N7
        exact TEnd.intro (nx := (l8, _) :: (l9, _) :: (l, _) :: (rest ++ own)) (by k_asm) N7 rfl (by walk_at "mine keep") ⟨_, _, rfl, by rw [waysN_succ, if_pos hk]; exact ints_snoc hwv⟩
      · have hne : ¬ (i + 1 - j = 1) := by omega
        refine Hold.out (wide_spec (first := j) (last := i + 1) (by k_asm) (by k_asm) (by k_asm) (news_rotL (news_rotL (by k_asm))) (by k_asm) rfl (by ktr_room) (by ktr_units) (by assumption) hlen hg hind (by omega) (by omega) ?_)
        intro t3 h3 tk3 F3 N3
        replace N3 := news_rotL N3
        clear N8 F8
        k_steps
        · have hk : ok j (i + 1) = true := by
            rw [← hok]; unfold okN
            rw [Bool.or_eq_true]; right; rw [decide_eq_true_eq]; omega
          rename News _ _ _ _ => N7
          rw [List.push_toArray] at N7
          exact TEnd.intro (nx := (l8, _) :: (l9, _) :: (l, _) :: (rest ++ own)) (by k_asm) N7 rfl (by walk_at "mine keep") ⟨_, _, rfl, by rw [waysN_succ, if_pos hk]; exact ints_snoc hwv⟩
        · have hk : ok j (i + 1) = false := by
            rw [← hok]; unfold okN
            rw [Bool.or_eq_false_iff, beq_eq_false_iff_ne, decide_eq_false_iff_not]; omega
          exact TEnd.intro (nx := (l8, _) :: (l9, _) :: (l, _) :: (rest ++ own)) (by k_asm) N3 rfl (by walk_at "mine keep") ⟨_, _, rfl, by rw [waysN_succ, hk, if_neg (by decide), List.append_nil]; exact hwv⟩
    · rintro m₂ nx2 h2 tk2 ha2 ⟨wv, wn, rfl, hwv⟩ F8 N8
      have hwl := hwv.length
      have hwl2 := waysN_length ok (leastN ok i) (i + 1) (i + 1)
      have hk : ok i (i + 1) = true := by
        rw [← hok]; unfold okN
        rw [Bool.or_eq_true]; left; rw [beq_iff_eq]; omega
      have hwv0 : True → IntsAre wv (waysN ok (leastN ok i) (i + 1) (i + 1)) := fun _ => hwv
      have hwp := waysN_pos ok (leastN ok i) i hk
      k_steps
      rename _ ∈ waysN _ _ _ _ => hM
      rename ∀ a, a ∈ waysN _ _ _ _ → _ => ha4
      rename News _ _ _ _ => N7
      rw [List.push_toArray] at N7
      exact TEnd.intro (nx := (l9, _) :: (l, _) :: rest) (by k_asm) (news_tl N7) rfl (by walk_at "mine keep") ⟨_, _, rfl, by rw [leastN, min_is hM ha4]; exact ints_snoc (by assumption)⟩
  · rintro m₁ nx h tk ha ⟨lv, ln, rfl, hlv⟩ F9 N9
    have hll := leastN_length ok names.length
    have hlvl := hlv.length
    k_steps
    refine eqQ (congrArg (fun k => (leastN ok names.length).getD k 0) ?_) (ret _ _ _ (by k_asm) (news_tl (by k_asm)))
    omega
end Mine
namespace Mine
local macro_rules | `(tactic| walk_at "mine nothing") => `(tactic| skip)
local macro_rules | `(tactic| walk_at "mine nothing") => `(tactic| skip)
local macro_rules | `(tactic| walk_at "mine nothing") => `(tactic| skip)
local macro_rules | `(tactic| walk_at "mine nothing") => `(tactic| skip)
local macro_rules | `(tactic| units_room) => `(tactic| (have hcL9 := cLine_is; (try simp only [units_in1, units_deeper, Around.mark_units, units_caller] at *); (try dsimp only [ktrTop] at *); omega))
local macro_rules | `(tactic| k_all) => `(tactic| assumption)
local macro_rules | `(tactic| walk_at "eval Name") => `(tactic| (k_here; (with_reducible show wpAny _ _ (eval _ (envOf _ _ _ _ _)) _ _ _); k_dflt (refine' ld ?k1 ?k2 ?_; (case k1 => k_asm); (case k2 => assumption); k_whole)))
local macro_rules | `(tactic| walk_at "mine enter") => `(tactic| ((refine wpAny_noRaise ?_); (refine wpAny_call ?_); (refine' code_def ?k1 ?k2 ?k3 ?k4 ?k5 ?kA ?kF ?kK ?k6 ?k7 ?k8 ?k9 ?kB ?_ ?c2 ?c3 ?c4 ?c5; (case kA => exact rfl); (case kF => exact rfl); (case kK => assumption); (case k1 => k_asm); (case k2 => k_asm); (case k3 => k_asm); (case k4 => k_asm); (case k5 => k_asm); (case k6 => k_is); (case k7 => k_is); (case k8 => ktr_room); (case k9 => first | exact BindsTo.of_eq rfl | exact binds_K (by k_in) rfl (by k_is) rfl rfl rfl); (case c5 => decide); (case kB => exact locs rfl); (case c2 => exact rfl); (case c3 => exact rfl); (case c4 => exact rfl); k_whole; intro g' L' h' FG' F' N' B' X' T'; (refine wpAny_noRaise ?_); (try dsimp only); (try k_lift B'); (try k_fold))))
local macro_rules | `(tactic| walk_at "eval Name") => `(tactic| (k_here; (with_reducible show wpAny _ _ (eval _ (envOf _ _ _ _ _)) _ _ _); (with_reducible rename Fr _ _ _ _ => kF); k_dflt (refine' name_B kF ?k1 ?k2 ?k3 ?k4 ?k5 ?_; (case k1 => k_asm); (case k2 => k_asm); (case k3 => k_is); (case k4 => boot_by_name); (case k5 => decide); k_whole)))
local macro_rules | `(tactic| walk_at "eval Name") => `(tactic| (k_here; (with_reducible show wpAny _ _ (eval _ (compEnvC _ _ _ _)) _ _ _); (with_reducible rename Fr _ _ _ _ => kF); k_dflt (refine' LCgL.ld_built kF ?k1 ?k2 ?k3 ?k4 ?k5 ?_; (case k1 => k_asm); (case k2 => k_asm); (case k3 => k_is); (case k4 => boot_by_name); (case k5 => decide); k_whole)))
local macro_rules | `(tactic| walk_at "eval Name") => `(tactic| (k_here; (with_reducible show wpAny _ _ (eval _ (compEnvC _ _ _ _)) _ _ _); k_dflt (refine' LCgL.ld_own ?k1 ?k2 ?k3 ?k4 ?_; (case k1 => k_asm); (case k2 => k_mem); (case k3 => k_asm); (case k4 => k_asm); k_whole)))
local macro_rules | `(tactic| walk_at "exec For Name Name cons nil") => `(tactic| refine Hold.go ?_)
local macro_rules | `(tactic| walk_at "exec For Name Call cons nil") => `(tactic| refine Hold.go ?_)
local macro_rules | `(tactic| walk_at "eval ListComp") => `(tactic| refine Hold.go ?_)
local macro_rules | `(tactic| walk_at "exec While") => `(tactic| refine Hold.go ?_)
local macro_rules | `(tactic| walk_at "pyIter ref") => `(tactic| ((with_reducible show wpAny _ _ (pyIter (Value.ref _)) (fun it s₂ => LoopAtV _ _ _ _ _ _ _ _ _ it s₂) _ _); refine Hold.go ?_))
local macro_rules | `(tactic| walk_at "execs nil") => `(tactic| refine wpAny_execs_nil ?_)
local macro_rules | `(tactic| walk_at "mine keep") => `(tactic| first | with_reducible exact over_keep | with_reducible exact fun _ _ => rfl | ((with_reducible refine if_keep (by simp only [List.mem_cons, eq_self, true_or, or_true]) ?_); walk_at "mine keep") | ((with_reducible refine over_sub ?ov1 ?ov2); (case ov1 => k_allIn); (case ov2 => walk_at "mine keep")))
local macro_rules | `(tactic| walk_at "call ref") => `(tactic| refine Hold.go ?_)
local macro_rules | `(tactic| walk_at "mine more") => `(tactic| ((refine wpAny_noRaise ?_); (refine wpAny_call ?_); (refine' enter_more ?k1 ?k2 ?k3 ?k4 ?k5 ?kA ?kF ?kK ?k6 ?k7 ?k8 ?kX ?kM ?kN ?kR ?kP ?kT ?kB ?_ ?c2 ?c3 ?c4 ?c5; (case kA => exact rfl); (case kF => exact rfl); (case kK => first | assumption | exact rfl); (case k1 => k_asm); (case k2 => k_asm); (case k3 => k_asm); (case k4 => k_asm); (case k5 => k_asm); (case k6 => k_is); (case k7 => k_is); (case k8 => ktr_room); (case kX => kp_lit); (case kM => exact rfl); (case kN => exact rfl); (case kR => exact rfl); (case kP => exact rfl); (case kT => exact fun _ => rfl); (case kB => exact fun _ => locs rfl); (case c5 => decide); (case c2 => exact rfl); (case c3 => exact rfl); (case c4 => exact rfl); k_whole; intro D' o' g' L' h' tk' l1 lo' hs' FG' F' N' B' X' T'; (refine wpAny_noRaise ?_); (try k_lt l1); (try dsimp only); (try k_lift B'); (try k_fold))))
local macro_rules | `(tactic| walk_at "subscriptTail") => `(tactic| (k_here; (with_reducible show wpAny _ _ (subscriptTail _ _ (Value.ref _) (Value.str _ _)) _ _ _); k_dflt (refine' kw_item ?k1 ?k2 ?k3 ?k4 ?_; (case k1 => k_asm); (case k2 => k_mem); (case k3 => k_asm); (case k4 => with_reducible first | exact gk_statement | exact gk_imports | exact gk_indent | exact gk_length | exact gk_comments | exact gk_sep | exact gk_prefix | exact gk_comma | exact gk_remove); k_whole; (try dsimp only))))
local macro_rules | `(tactic| walk_at "getItem ref str") => `(tactic| (k_here; k_dflt (refine' kw_get ?k1 ?k2 ?k3 ?k4 ?_; (case k1 => k_asm); (case k2 => k_mem); (case k3 => k_asm); (case k4 => with_reducible first | exact gk_statement | exact gk_imports | exact gk_indent | exact gk_length | exact gk_comments | exact gk_sep | exact gk_prefix | exact gk_comma | exact gk_remove); k_whole; (try dsimp only))))
local macro_rules | `(tactic| walk_at "truthy ref") => `(tactic| (k_here; k_dflt (first | (refine' truthy_cons ?k1 ?k2 ?k3 ?_; (case k1 => k_asm); (case k2 => k_mem); (case k3 => omega); k_whole) | (refine' truthy_nil ?k1 ?k2 ?_; (case k1 => k_asm); (case k2 => k_mem); k_whole))))
local macro_rules | `(tactic| walk_at "callWith ref") => `(tactic| (k_here; (with_reducible show wpAny _ _ (callWith _ (Value.ref _) _ (backTo _ (starEach [] _)) (backToKw _ (keywordEach (_ :: _) _))) _ _ _); k_dflt ((with_reducible refine' callWith_KW0 ?k1 ?k2 ?k3 ?_ ?k4); (case k1 => k_asm); (case k2 => k_is); (case k3 => exact rfl); (case k4 => exact rfl); k_whole)))
theorem reset5 : True := by (w_top off; trivial)
theorem draw_spec {w : World} {loose : List Str} {mean : ExcName → Option Value} {mg mb : Str → Option Value} {A₀ : Around} {base h₀ : Heap} {dp un : Nat} {gd : Option (List Code)} {cn : Str} {cs : Scope} {a : Addr} {ccd : Value} {cl : List (Str × Addr)} {outer : List Env} {L : Addr}
  {m : Str → Option Value} {s : Shared} {l : Addr} {vs : List Value} {ns : List Int} {Q E : Value → Shared → Prop}
  (B : Below A₀ base outer h₀) (F : Fr h₀ L s.heap m) (X : (hd.heap_39 w.params).In h₀)
  (N : News h₀ L s.heap [])
  (T : Top hd.view_39 loose mean mg mb h₀) (hke : cs.kind = .function)
  (hroom : dp + 20 < recursionLimit) (hun : un + 400 < cLine)
  (hL : base.IsList l vs.toArray) (hI : IntsAre vs ns) (hlen : ns.length ≤ 63)
  (ret : ∀ d c h' tk' cells' ns' seed' ts' nd' nc', Fr h₀ L h' m → News h₀ L h' [(d, listOf #[.ref c, .int seed' ts'] nd'), (c, listOf cells'.toArray nc')] →
     IntsAre cells' ns' → cells'.length ≤ 63 → 0 ≤ seed' → seed' < 2147483647 → @LT.lt Nat _ c d → Q (.ref d) { s with heap := h', toks := tk' }) :
  wpAny (model Challenge.rw_fj5009_01.row.prog w) (ktrTop dp un gd cn cs L a ccd cl outer) (call (.ref 55) [.ref l]) Q E s := by
  revert X; k_fill; intro X
  walk_at "mine enter"
  k_steps
  refine Hold.out (For_invVF (by k_asm) (by exact rfl) (by exact rfl) ?_ (hE := PassesOwn.never))
  k_steps
  refine Hold.out (iter_listK [Str.ofString "cell", Str.ofString "seed"] (fun _ m nx => nx = [] ∧ ∃ sd t, m (Str.ofString "seed") = some (.int sd t) ∧ 0 ≤ sd ∧ sd < 2147483647) rfl (by assumption) (by k_asm) (by k_asm) ⟨rfl, _, _, rfl, by decide, by decide⟩ ?_ ?_)
  · rintro i v m₁ nx h tk own hv _ hoff ⟨rfl, sd, ts, hsd, h0, h1⟩ F9 N9
    obtain ⟨n, t, rfl⟩ : ∃ n t, v = .int n t := by
      have : i < ns.length := by rw [← hI.length]; exact (List.getElem?_eq_some_iff.mp hv).1
      obtain ⟨t, ht⟩ := hI.get i _ (List.getElem?_eq_getElem this)
      rw [hv] at ht
      exact ⟨_, t, Option.some.inj ht⟩
    clear hv
    dsimp only
    k_steps
    exact TEnd.intro (nx := []) (by k_asm) (by k_asm) rfl (by walk_at "mine keep") ⟨rfl, _, _, rfl, (fmod_pos (by decide)).1, (fmod_pos (by decide)).2⟩
  · rintro m₁ nx h tk ha ⟨rfl, sd, ts, hsd, h0, h1⟩ F9 N9
    k_steps
    refine Hold.out (LCg.ListComp_U (by k_asm) rfl (by decide) rfl (by decide) rfl ?_)
    k_steps
    refine LCg.CompSrc.base rfl (by k_asm) (by k_asm) (by assumption) ?_ fun g => compRest_pure (R := fun _ y => ∃ n t, y = .int n t) ?_ ?_ _ 0 [] rfl (fun j y h => by simp at h) ?_
    · rw [List.size_toArray, hI.length]; exact Nat.le_trans hlen (by decide)
    · exact .inl (by assumption)
    · intro i v I oI C oC D ys m₂ h tk hP hC hm F9 N9
      obtain ⟨n, t, rfl⟩ : ∃ n t, v = .int n t := by
        have hv : vs[i]? = some v := by simpa using hP
        have : i < ns.length := by rw [← hI.length]; exact (List.getElem?_eq_some_iff.mp hv).1
        obtain ⟨t, ht⟩ := hI.get i _ (List.getElem?_eq_getElem this)
        rw [hv] at ht
        exact ⟨_, t, Option.some.inj ht⟩
      k_steps
      exact EltEnd.intro (by k_asm) (by k_asm) ⟨_, _, rfl⟩
    · intro zs hz hy D h tk F9 N9 off
      rw [List.size_toArray, Nat.zero_add] at hz
      have hzl : zs.length ≤ 63 := by rw [hz, hI.length]; exact hlen
      k_steps
      rename News h₀ L _ _ => N8
      rename _ ∧ _ => hlt
      dsimp only at N8
      rw [show slicePick zs.toArray none (some 40) none = _ from pick_upto (by decide)] at N8
      obtain ⟨ks, hks⟩ := ints_exist (zs := zs) fun y hy' => by
        obtain ⟨j, hj⟩ := List.getElem?_of_mem hy'
        exact hy j y hj
      exact ret _ _ _ _ _ _ _ _ _ _ (by k_asm) (news_two N8) (hks.take _) (by rw [List.length_take]; omega) h0 h1 hlt.1
end Mine
namespace Mine
open PySem.Builtin PySem.Builtin.Str PySem.StrLaws PySem.Spec in
theorem occR_stay (s sub : Str) (lim : Nat) : ∀ (l : List Nat) (st : Array Nat × Nat), lim ≤ st.1.size → (forIn l st (occRBody s sub lim)).run.fst = st.1
  | [], st, _ => rfl
  | a :: l, st, h => by
    rw [List.forIn_cons]
    unfold occRBody
    rw [if_neg (fun hc => absurd hc.1.1 (by omega))]
    exact occR_stay s sub lim l _ h
open PySem.Builtin PySem.Builtin.Str PySem.StrLaws PySem.Spec in
theorem occR_seek (s sub : Str) (q : Nat) (hs : sub.length = 1) (hq : q < s.length) (hat : subAt s sub q = true) (hno : ∀ i, q < i → i < s.length → subAt s sub i = false) :
    ∀ (n k : Nat), k + n = s.length + 1 → k ≤ s.length - q → (forIn (List.range' k n) ((#[] : Array Nat), s.length) (occRBody s sub 1)).run.fst = #[q] := by
  intro n
  induction n with
  | zero => intro k h1 h2; omega
  | succ n ih =>
    intro k h1 h2
    rw [List.range'_succ, List.forIn_cons]
    by_cases hk : k = s.length - q
    · have e : s.length - k = q := by omega
      unfold occRBody
      rw [if_pos ⟨⟨by simp, by rw [hs]; omega⟩, by rw [e]; exact hat⟩]
      show (forIn (List.range' (k + 1) n) _ (occRBody s sub 1)).run.fst = _
      rw [occR_stay _ _ _ _ _ (by simp)]
      simp [e]
    · have hn : ¬ (((#[] : Array Nat).size < 1 ∧ s.length - k + sub.length ≤ s.length) ∧ subAt s sub (s.length - k) = true) := by
        rintro ⟨⟨_, h4⟩, h3⟩
        rw [hs] at h4
        rw [hno (s.length - k) (by omega) (by omega)] at h3
        cases h3
      unfold occRBody
      rw [if_neg hn]
      exact ih (k + 1) (by omega) (by omega)
open PySem.Builtin PySem.Builtin.Str PySem.StrLaws PySem.Spec in
theorem occR_last (s sub : Str) (q : Nat) (hs : sub.length = 1) (hq : q < s.length) (hat : subAt s sub q = true) (hno : ∀ i, q < i → i < s.length → subAt s sub i = false) : occurrencesFromRight s sub 1 = [q] := by
  rw [occR_eq, occR_seek s sub q hs hq hat hno (s.length + 1) 0 (by omega) (by omega)]
  rfl
theorem len_cps (x : Str) : x.length = x.cps.toList.length := by
  rw [Array.length_toList]; rfl
open PySem.Builtin PySem.Builtin.Str PySem.StrLaws PySem.Spec in
theorem subAt_nl (x : Str) (i : Nat) : subAt x (Str.ofString "\n") i = decide (x.cps.toList[i]? = some 10) := by
  unfold subAt
  have e : (Str.ofString "\n").cps = #[10] := by decide
  have e2 : (Str.ofString "\n").length = 1 := by decide
  rw [e, e2, Bool.eq_iff_iff, beq_iff_eq, decide_eq_true_eq, ← Array.toList_inj, Array.toList_extract, List.extract_eq_take_drop]
  rw [show i + 1 - i = 1 by omega]
  cases hd : x.cps.toList.drop i with
  | nil =>
    have := List.drop_eq_nil_iff.mp hd
    rw [List.getElem?_eq_none this]
    simp
  | cons a r =>
    have : x.cps.toList[i]? = some a := by
      have h0 : (x.cps.toList.drop i)[0]? = some a := by rw [hd]; rfl
      rwa [List.getElem?_drop, Nat.add_zero] at h0
    rw [this]
    simp
open PySem.Builtin PySem.Builtin.Str PySem.StrLaws PySem.Spec in
theorem occR_nl (x : Str) (p q : List Nat) (hx : x.cps.toList = p ++ 10 :: q) (h10 : 10 ∉ q) : occurrencesFromRight x (Str.ofString "\n") 1 = [p.length] := by
  have hl : x.length = p.length + (q.length + 1) := by rw [len_cps, hx]; simp
  refine occR_last x _ p.length (by decide) (by omega) ?_ ?_
  · rw [subAt_nl, hx]; simp
  · intro i h1 h2
    rw [subAt_nl, hx, decide_eq_false_iff_not, List.getElem?_append_right (by omega)]
    obtain ⟨j, hj⟩ : ∃ j, i - p.length = j + 1 := ⟨i - p.length - 1, by omega⟩
    rw [hj, List.getElem?_cons_succ]
    intro h
    exact h10 (List.mem_of_getElem? h)
open PySem.Builtin PySem.Builtin.Str PySem.StrLaws PySem.Spec in
theorem strKind_pos (x : Str) : 1 ≤ Builtin.Str.strKind x := by
  unfold Builtin.Str.strKind
  split
  · exact Nat.le_refl _
  · split <;> omega
open PySem.Builtin PySem.Builtin.Str PySem.StrLaws PySem.Spec in
theorem rsplitK {prog : Program} {w : World} {A : Around} {E : Value → Shared → Prop} {s : Shared} {x : Str} {t u v : Tok} {h₀ : Heap} {L : Addr} {m : Str → Option Value} {news : List (Addr × Obj)} {Q : Value → Shared → Prop} {p q : List Nat}
    (hF : Fr h₀ L s.heap m) (hN : News h₀ L s.heap news) (hx : x.cps.toList = p ++ 10 :: q) (h10 : 10 ∉ q) (hsz : x.length ≤ 1000)
    (h : ∀ a b t1 t2 l h' tk, b.length = q.length → Fr h₀ L h' m → News h₀ L h' ((l, { cls := .type "list", data := .seq #[.str a t1, .str b t2] }) :: news) → (∀ p ∈ news, p.1 < l) → Q (.ref l) { s with heap := h', toks := tk }) :
    wpAny (model prog w) A (call (.builtin "str.rsplit") [.str x t, .str (Str.ofString "\n") u] [(Str.ofString "maxsplit", .int 1 v)]) Q E s := by
  have hl : x.length = p.length + (q.length + 1) := by rw [len_cps, hx]; simp
  have ho := occR_nl x p q hx h10
  have e1 : (Str.ofString "\n").length = 1 := by decide
  have e2 : Builtin.Str.strKind (Str.ofString "\n") = 1 := by decide +kernel
  have e3 := strKind_pos x
  have h1 : (decide (x.length < (Str.ofString "\n").length) || decide (Builtin.Str.strKind x < Builtin.Str.strKind (Str.ofString "\n"))) = false := by
    rw [e1, e2, Bool.or_eq_false_iff, decide_eq_false_iff_not, decide_eq_false_iff_not]; omega
  have hsame : «str.rsplit» ⟨[.str x t, .str (Str.ofString "\n") u], [(Str.ofString "maxsplit", .int 1 v)]⟩ = «str.rsplit» ⟨[.str x t, .str (Str.ofString "\n") u, .int 1 v], []⟩ := rfl
  have ho' : occurrencesFromRight x (Str.ofString "\n") (limitOf x 1) = [p.length] := ho
  have hp : partsBetween x [p.length] 1 = [strSub x 0 p.length, strSub x (p.length + 1) x.length] := rfl
  have g := meets_str_rsplit_sep_max x (Str.ofString "\n") 1 t u v (by decide) h1 (by decide) (by rw [ho']; rfl) (by rw [PySem.sizeLine_eq]; omega) (by rw [ho', e1, hp, PySem.sizeLine_eq]; simp)
  rw [ho', e1, hp] at g
  have args : argsOk "str.rsplit" ⟨[.str x t, .str (Str.ofString "\n") u], [(Str.ofString "maxsplit", .int 1 v)]⟩ := by
    unfold argsOk; rw [signature?_of (id := "str.rsplit") (n := ['t', 'i', 'l', 'p', 's', 'r']) (o := ['r', 't', 's']) (by kernel_rfl) F.owner_str]; kernel_rfl
  have slot := F.slot_str_rsplit
  refine wpAny_call (codeAny_call_builtin slot.plain F.entry_str_rsplit (slot.check _ _ _ _ _ _ _ _ (typeIs_str _ _ _) args ?_))
  rw [hsame]
  refine g prog w A (wants Q E) s ?_
  show wants Q E _ { s with toks := _, heap := s.heap.push { cls := .type "list", data := .seq (strsFrom s.toks _).toArray } }
  refine h _ _ _ _ _ _ _ ?_ (Fr.pushS hF _) (News.push hF hN _) (fun p hp => Heap.lt_size (hN p hp).1)
  rw [len_cps]
  unfold strSub
  rw [Array.toList_extract, List.extract_eq_take_drop, hx, hl]
  simp; try omega
end Mine
namespace Mine
section
variable {prog : Program} {w : World} {A A₀ : Around} {E : Value → Shared → Prop} {s : Shared} {K : Frag} {L : Addr} {h₀ base : Heap} {m mg mb : Str → Option Value} {news : List (Addr × Obj)} {p : Program} {loose : List Str} {mean : ExcName → Option Value}
/-- a def whose last parameter gathers the keywords: its dict, new on the ledger -/
theorem enter_more {env : Env} {outer : List Env} {R : Result → Shared → Prop} {name qual : Str} {params : Arguments} {body : List Stmt} {scope : Scope} {dV kV doc pm cdv ct oc : Value} {an od : Option Addr} {osl : Array (Option Value)} {f : Addr} {args : Args} {nm : Str} {ex front : List (Str × Value)} {g₁ : Addr → Sem (List (Str × Value))}
    (B : Below A₀ base outer h₀) (F : Fr h₀ L s.heap m) (X₀ : K.In h₀) (N : News h₀ L s.heap news) (T : Top p loose mean mg mb h₀) (hA : A.frames = some (env :: outer)) (hf : env.frame = some L) (hke : env.scope.kind = .function)
    (ho : K.lookup f = some ⟨oc, od, .func (fnOf name qual params body scope dV kV doc pm an cdv ct), osl⟩) (hcd : codeIn K cdv qual = true) (hroom : A.depth < recursionLimit)
    (_hx : args.kw.filter (fun x => !ownKw params x.1) = ex) (_hnm : params.kwarg.map (·.arg) = some nm) (hkd : kwDistinct ex = true)
    (_hfr : peek K ⟨prog, w.params⟩ (bindArgs (fnCut (fnOf name qual params body scope dV kV doc pm an cdv ct)) (argsCut params args)) = some front)
    (hp : peekA K ⟨prog, w.params⟩ (bindArgs (fnOf name qual params body scope dV kV doc pm an cdv ct) args) = some (dictOf [] 0, g₁))
    (hk₁ : ∀ D, g₁ D = (forIn ex PUnit.unit (fun x _ => (nsSet D x.1 x.2 >>= fun _ => pure (ForInStep.yield PUnit.unit))) >>= fun _ => pure (front ++ [(nm, Value.ref D)])))
    (hloc : ∀ D, ∀ y ∈ front ++ [(nm, Value.ref D)], scope.names.lookup y.1 = some .local)
    (h : ∀ D o g L' h₁ tk, (∀ p ∈ news, p.1 < D) → (D == sysModules) = false → o.IsDictOf (strKind prog w) ex → Fr h₀ L g m → Fr g L' h₁ (fun y => (front ++ [(nm, Value.ref D)]).reverse.lookup y) → News g L' h₁ ((D, o) :: news) → Below A base (env :: outer) g → K.In g → Top p loose mean mg mb g →
      wpAny (model prog w) (A.deeper (envOf qual scope L' f cdv)) (execs body (envOf qual scope L' f cdv))
        (fun fl s' => LeaveK h₀ L m g R (match fl with | .ret v => v | _ => .none) s')
        (fun e s' => wpAny (model prog w) (A.deeper (envOf qual scope L' f cdv)) (leaving (envOf qual scope L' f cdv) e) (fun _ s'' => R (.error e) s'') (fun e' s'' => R (.error e') s'') s')
        { s with heap := h₁, toks := tk })
    (hco : scope.isCoroutine = false) (hgen : scope.isGenerator = false) (hk : scope.kind = .function)
    (hcell : ∀ x ∈ scope.names, x.2 ≠ .cell) : codeAny (model prog w) A (.call (.ref f) args) R s := by
  have hn := kwDistinct_nodup hkd
  refine codeAny_call_function hroom ((X₀.keeps F.keep) _ _ ho) rfl hco hgen rfl (codeRec_of (X₀.keeps F.keep) hcd) ?_
  refine wp_of_peekA F N (X₀.keeps F.keep) rfl _ g₁ hp fun h1 F1 N1 l1 => ?_
  rw [hk₁]
  refine wpAny_bind (kp_fill ex _ [] 0 F1 N1 (fun q hq => Nat.ne_of_lt (l1 q hq)) (fun _ he => nomatch he) (fun _ he => nomatch he) hn fun h2 F2 N2 => wpAny_pure ?_)
  exact kp_frame (cl := []) (s := { s with heap := h2, toks := s.toks + ex.length }) B F2 N2 T.nolimit hA hf hke (hloc _)
    (fun g L' h3 FG FL NG BG st => h _ _ g L' h3 _ l1 (F.notModules (modules_low T.nolimit)) (kp_isDict _ _ hn) FG FL NG BG (X₀.keeps st) (T.keeps st)) hcell hk

theorem kw_dict {d : Addr} {o : Obj} {kvs : List (Str × Value)} (N : News h₀ L s.heap news) (hm : (d, o) ∈ news) (hd : o.IsDictOf (strKind prog w) kvs) : s.heap.DictOf (strKind prog w) d kvs := Heap.dictOf_iff.mpr ⟨o, (N _ hm).1, hd⟩
theorem kw_item {d : Addr} {o : Obj} {kvs : List (Str × Value)} {x : Str} {t : Tok} {v : Value} {value slice : PySem.Expr} {Q : Value → Shared → Prop} (N : News h₀ L s.heap news) (hm : (d, o) ∈ news) (hd : o.IsDictOf (strKind prog w) kvs)
    (hv : valueAt kvs x = some v) (h : Q v { s with toks := s.toks + 1 })
    (hs : subscripted slice false (.ref d) (.str x t) = operate [.ref d, .str x t] (getItem (.ref d) (.str x t)) := by with_unfolding_all rfl) :
    wpAny (model prog w) A (subscriptTail value slice (.ref d) (.str x t)) Q E s :=
  tail_any (kw_dict N hm hd).typeIs slot_dict_getitem.lookup (wpAny_getItem_of (strKind_is prog w x t) (kw_dict N hm hd).mapOf hv h) hs
theorem kw_get {d : Addr} {o : Obj} {kvs : List (Str × Value)} {x : Str} {t : Tok} {v : Value} {Q : Value → Shared → Prop} (N : News h₀ L s.heap news) (hm : (d, o) ∈ news) (hd : o.IsDictOf (strKind prog w) kvs)
    (hv : valueAt kvs x = some v) (h : Q v { s with toks := s.toks + 1 }) :
    wpAny (model prog w) A (getItem (.ref d) (.str x t)) Q E s := wpAny_getItem_of (strKind_is prog w x t) (kw_dict N hm hd).mapOf hv h
theorem kw_set {d : Addr} {o : Obj} {kvs : List (Str × Value)} {x : Str} {t : Tok} {v : Value} {g : Obj → List (Addr × Obj)} {Q : Unit → Shared → Prop} (F : Fr h₀ L s.heap m) (N : News h₀ L s.heap news) (U : UpdF d o news g) (hd : o.IsDictOf (strKind prog w) kvs) (hz : kvs.length ≤ 20)
    (h : ∀ h' o', Fr h₀ L h' m → News h₀ L h' (g o') → o'.IsDictOf (strKind prog w) (stored kvs x v) → Q () { s with heap := h', toks := s.toks + 1 }) :
    wpAny (model prog w) A (setItem (.ref d) (.str x t) v) Q E s := by
  obtain ⟨pre, post, rfl, hg, a, b⟩ := U.split
  have hm := N (d, o) (List.mem_append_right _ (.head _))
  refine wpAny_setItem_pairs (hsz := Nat.le_trans hz (by decide)) (strKind_is prog w x t) (Heap.dictOf_iff.mpr ⟨o, hm.1, hd⟩) fun h' hmm hs => ?_
  obtain ⟨o', ho', hd'⟩ := Heap.dictOf_iff.mp hmm
  exact h h' o' (F.change hs hm.2.1 hm.2.2) (hg o' ▸ news_set N a b hs ho') hd'

theorem merge_unique {d a : Addr} {kvs more : List (Str × Value)} {Q : Unit → Shared → Prop} (hda : d ≠ a) (haS : (a == sysModules) = false)
    (hd : s.heap.DictOf (strKind prog w) d kvs) (ha : s.heap.DictOf (strKind prog w) a more) (hn : ((kvs ++ more).map (·.1)).Nodup) (hz : kvs.length + more.length ≤ 40)
    (hQ : ∀ h', h'.DictOf (strKind prog w) d (kvs ++ more) → Heap.SameBut d s.heap h' → Q () { s with heap := h' }) :
    wpAny (model prog w) A (mergeMapping d (.ref a) true) Q E s := by
  have hTa := ha.typeIs
  obtain ⟨oa, esa, epa, hoa, hca, hda', hka, hpa, hna⟩ := id ha
  obtain ⟨od, esd, epd, hod, hcd, hdd, hkd, hpd, hnd⟩ := id hd
  unfold mergeMapping
  refine wpAny_bind (wpAny_isInstance (b := true) hTa (by rw [isSubtype_type]; kernel_rfl) ?_)
  rw [if_pos rfl]
  refine wpAny_bind (wpAny_specialOf hTa F.slot_dict_iter.lookup (wpAny_bind (wpAny_pure ?_)))
  rw [show ((some (Value.builtin "dict.__iter__") : Option Value) == some (Value.builtin "dict.__iter__")) = true by decide]
  dsimp only
  rw [if_neg (by rw [haS]; exact Bool.false_ne_true)]
  refine wpAny_bind (wpAny_dictEntries hod hdd ?_)
  have hlen : esa.size = more.length := by rw [← hpa.length]; simp
  have loop : wpAny (model prog w) A (do
      let l ← dictEntries a
      let epoch ← dictEpoch a
      forIn (List.range l.size) PUnit.unit fun i (_ : PUnit) => (do
          let l' ← dictEntries a
          match l'[i]? with
            | some e => do
              holding [e.key, e.val] (do
                let r ← dictFind d e.key e.hash
                if r.isSome = true then do
                    rule "dict.merge.duplicate-key"
                    let x ← newExc (Value.type "KeyError") [e.key]
                    let _ ← (raiseNew x : Sem Unit)
                    dictPut d e.hash e.key e.val
                  else dictPut d e.hash e.key e.val)
              let ep' ← dictEpoch a
              if (ep' != epoch) = true then do
                  (unsupported "dict.changed-during-merge" : Sem PUnit)
                  pure (ForInStep.yield PUnit.unit)
                else pure (ForInStep.yield PUnit.unit)
            | _ => do
              (unsupported "dict.changed-during-merge" : Sem PUnit)
              pure (ForInStep.yield PUnit.unit) : Sem (ForInStep PUnit))
      pure ()) Q E s := by
    refine wpAny_bind (wpAny_dictEntries hoa hda' (wpAny_bind (wpAny_dictEpoch hoa hda' ?_)))
    refine wpAny_bind ?_
    rw [List.range_eq_range']
    refine wpAny_forIn_list _
      (fun rest _ s' => ∃ h' i, s' = { s with heap := h' } ∧ rest = List.range' i (esa.size - i) ∧ i ≤ esa.size ∧ h'.DictOf (strKind prog w) d (kvs ++ more.take i) ∧ h'.get? a = some oa ∧ Heap.SameBut d s.heap h')
      _ ?_ ?_ _ _ ⟨s.heap, 0, rfl, by simp, Nat.zero_le _, by simpa using hd, hoa, Heap.SameBut.refl _ _⟩
    · rintro x rest b s' ⟨h', i, rfl, hr, hi, hd', hoa', hs'⟩
      have hlt : i < esa.size := by
        rcases Nat.lt_or_ge i esa.size with h | h
        · exact h
        · rw [Nat.sub_eq_zero_of_le h] at hr; simp at hr
      obtain ⟨rfl, hrest⟩ : x = i ∧ rest = List.range' (i + 1) (esa.size - (i + 1)) := by
        have e : esa.size - i = (esa.size - (i + 1)) + 1 := by omega
        rw [e, List.range'_succ] at hr
        injection hr with h1 h2
        exact ⟨h1, h2⟩
      refine wpAny_bind (wpAny_dictEntries hoa' hda' ?_)
      rw [Array.getElem?_eq_getElem hlt]
      obtain ⟨kv, hkv⟩ : ∃ kv, more[x]? = some kv := ⟨more[x]'(by rw [← hlen]; exact hlt), List.getElem?_eq_getElem _⟩
      obtain ⟨k, v⟩ := kv
      obtain ⟨hkey, hval⟩ := hpa.get? (e := esa[x]) (by simp [hlt]) hkv
      obtain ⟨k', hkey', hhash⟩ := hka esa[x] (Array.getElem_mem hlt)
      obtain rfl : k' = k := (strKind prog w).inj _ _ _ hkey' hkey
      obtain ⟨o2, es2, ep2, ho2, hc2, hd2, hk2, hp2, hn2⟩ := id hd'
      have hfresh : k' ∉ (kvs ++ more.take x).map (·.1) := by
        intro hm
        have ht : more = more.take x ++ (k', v) :: more.drop (x + 1) := by
          have := List.take_append_drop x more
          rw [List.drop_eq_getElem_cons (by rw [← hlen]; exact hlt)] at this
          rw [List.getElem?_eq_getElem (by rw [← hlen]; exact hlt)] at hkv
          rw [Option.some.inj hkv] at this
          exact this.symm
        rw [ht, ← List.append_assoc, List.map_append, List.nodup_append] at hn
        exact hn.2.2 k' hm k' (by simp) rfl
      have hnone : (es2.findIdx? fun e => (strKind prog w).is k' e.key) = none := by
        have e1 : (es2.findIdx? fun e => (strKind prog w).is k' e.key) = (kvs ++ more.take x).findIdx? fun kv => decide (kv.1 = k') := by
          rw [← hp2.findIdx k']; obtain ⟨l⟩ := es2; simp
        rw [e1, List.findIdx?_eq_none_iff]
        intro y hy
        exact decide_eq_false fun e => hfresh (e ▸ List.mem_map_of_mem hy)
      have hes2 : es2.size ≤ sizeLine := by
        have e2 : es2.size = kvs.length + (more.take x).length := by
          have := hp2.length
          rw [Array.length_toList, List.length_append] at this
          exact this
        have := List.length_take_le x more
        rw [PySem.sizeLine_eq]
        have := List.length_take_le' x more
        omega
      dsimp only
      refine wpAny_bind (wpAny_holding ?_)
      rw [hhash, hval]
      refine wpAny_bind (wpAny_dictFind_of hkey ho2 hd2 hk2 ?_)
      rw [hnone, if_neg (by decide)]
      unfold dictPut
      refine wpAny_bind (wpAny_dictFind_of hkey ho2 hd2 hk2 ?_)
      rw [hnone]
      refine wpAny_updateDictKeys (hz := hes2) ho2 hd2 ?_
      have hae : (Heap.update h' d (Obj.mapDictKeys fun x_1 => x_1.push ⟨(strKind prog w).hash k', esa[x].key, v⟩)).get? a = some oa := (Heap.get?_update_ne _ _ _ _ (Ne.symm hda)).trans hoa'
      refine wpAny_bind (wpAny_dictEpoch hae hda' ?_)
      rw [if_neg (by simp)]
      refine wpAny_pure ⟨_, x + 1, rfl, hrest, hlt, ?_, hae, hs'.trans (Heap.SameBut.update ..)⟩
      have htk : more.take (x + 1) = more.take x ++ [(k', v)] := by
        rw [List.take_add_one, hkv]; rfl
      rw [htk, ← List.append_assoc]
      refine ⟨_, _, ep2 + 1, Heap.get?_update_self _ ho2 (Obj.isFreed_of_dict (Obj.data_mapDictKeys hd2 _)), hc2.mapDictKeys _, Obj.data_mapDictKeys hd2 _, hk2.push hkey _, ?_, ?_⟩
      · have := hp2.append hkey ((strKind prog w).hash k') v
        obtain ⟨l⟩ := es2
        simpa using this
      · rw [List.map_append, List.nodup_append]
        refine ⟨hn2, by simp, ?_⟩
        intro u hu z hz
        simp only [List.map_cons, List.map_nil, List.mem_singleton] at hz
        subst hz
        exact fun e => hfresh (e ▸ hu)
    · rintro b s' ⟨h', i, rfl, hr, hi, hd', hoa', hs'⟩
      have hi' : i = esa.size := by
        false_or_by_contra
        rename_i hne
        have e : esa.size - i = (esa.size - (i + 1)) + 1 := by omega
        rw [e, List.range'_succ] at hr
        cases hr
      subst hi'
      rw [hlen, List.take_length] at hd'
      exact wpAny_pure (hQ h' hd' hs')
  by_cases he : esd.isEmpty = true
  · rw [if_pos he]
    refine wpAny_bind (wpAny_dictEntries hoa hda' ?_)
    refine wpAny_bind ?_
    refine forIn_array_ _ (fun rest _ s' => s' = s ∧ ∀ e ∈ rest, e ∈ esa) _ ?_ ?_ _ _ ⟨rfl, fun e he => Array.mem_toList_iff.mp he⟩
    · rintro e rest b s' ⟨rfl, hr⟩
      obtain ⟨k, hk, _⟩ := hka e (hr e List.mem_cons_self)
      have hr' : ∀ x ∈ rest, x ∈ esa := fun x hx => hr x (List.mem_cons_of_mem _ hx)
      cases hke : e.key with
      | ref z => rw [hke] at hk; exact absurd hk (by simp [PySem.strKind, Value.isStrOf])
      | _ => exact wpAny_pure ⟨rfl, hr'⟩
    · rintro b s' ⟨rfl, _⟩
      exact loop
  · rw [if_neg he]
    exact loop
end
end Mine
namespace Mine
section
variable {prog : Program} {w : World} {A A₀ : Around} {E : Value → Shared → Prop} {s : Shared} {K : Frag} {L : Addr} {h₀ base : Heap} {m mg mb : Str → Option Value} {news : List (Addr × Obj)} {p : Program} {loose : List Str} {mean : ExcName → Option Value}
theorem forIn2 {M : Model} {α β : Type} {f : α → β → Sem (ForInStep β)} {x y : α} {b : β} {Q : β → Shared → Prop}
    (h : wpAny M A (f x b) (fun r s' => match r with
      | .yield b' => wpAny M A (f y b') (fun r2 s2 => match r2 with | .yield b2 => Q b2 s2 | .done b2 => Q b2 s2) E s'
      | .done b' => Q b' s') E s) : wpAny M A (forIn [x, y] b f) Q E s := by
  rw [List.forIn_cons]
  refine wpAny_bind (wpAny_mono h (fun r s' q => ?_) fun _ _ e => e)
  cases r with
  | done b' => exact wpAny_pure q
  | yield b' =>
    dsimp only
    rw [List.forIn_cons]
    refine wpAny_bind (wpAny_mono q (fun r2 s2 q2 => ?_) fun _ _ e => e)
    cases r2 with
    | done b2 => exact wpAny_pure q2
    | yield b2 =>
      dsimp only
      rw [List.forIn_nil]
      exact wpAny_pure q2
theorem forIn1 {M : Model} {α β : Type} {f : α → β → Sem (ForInStep β)} {x : α} {b : β} {Q : β → Shared → Prop}
    (h : wpAny M A (f x b) (fun r s' => match r with | .yield b' => Q b' s' | .done b' => Q b' s') E s) : wpAny M A (forIn [x] b f) Q E s := by
  rw [List.forIn_cons]
  refine wpAny_bind (wpAny_mono h (fun r s' q => ?_) fun _ _ e => e)
  cases r with
  | done b' => exact wpAny_pure q
  | yield b' =>
    dsimp only
    rw [List.forIn_nil]
    exact wpAny_pure q
theorem merged_kw {f v1 : Value} {t1 t2 : Sem Value} {nm : Str} {D : Addr} {o : Obj} {kvs : List (Str × Value)} {Q : Addr → Shared → Prop}
    (F : Fr h₀ L s.heap m) (N : News h₀ L s.heap news) (hm : (D, o) ∈ news) (hd : o.IsDictOf (strKind prog w) kvs) (hn : (((nm, v1) :: kvs).map (·.1)).Nodup) (hz : kvs.length ≤ 20) (hDS : (D == sysModules) = false) (hlim : h₀.NoLimit)
    (ht1 : ∀ (s' : Shared) (Q' : Value → Shared → Prop), Q' v1 s' → wpAny (model prog w) A t1 Q' E s')
    (ht2 : ∀ (s' : Shared) (Q' : Value → Shared → Prop), Fr h₀ L s'.heap m → Q' (.ref D) s' → wpAny (model prog w) A t2 Q' E s')
    (h : ∀ d h' tk, Fr h₀ L h' m → News h₀ L h' news → h'.DictOf (strKind prog w) d ((nm, v1) :: kvs) → Q d { s with heap := h', toks := tk }) :
    wpAny (model prog w) A (mergedKeywords f [(some nm, t1), (none, t2)]) Q E s := by
  delta mergedKeywords
  refine wpAny_bind (wpAny_alloc ?_)
  have F1 := F.push ({ cls := .type "dict", data := .dict #[] } : Obj)
  have N1 := News.push F N ({ cls := .type "dict", data := .dict #[] } : Obj)
  have hdn0 : ∀ q ∈ news, q.1 ≠ s.heap.objs.size := fun q hq => Nat.ne_of_lt (Heap.lt_size (N q hq).1)
  have hdD : s.heap.objs.size ≠ D := Nat.ne_of_gt (Heap.lt_size (N _ hm).1)
  generalize s.heap.push ({ cls := .type "dict", data := .dict #[] } : Obj) = H1 at F1 N1 ⊢
  generalize s.heap.objs.size = d at N1 hdD hdn0 ⊢
  refine wpAny_bind (wpAny_holding ?_)
  k_node
  refine wpAny_bind (forIn2 ?_)
  k_node
  k_node
  refine nd_pure ?_
  k_node
  k_node
  refine wpAny_bind ?_
  k_node
  k_node
  refine wpAny_bind ?_
  refine wpAny_evalAll_cons (ht1 _ _ (wpAny_evalAll_nil ?_))
  refine wpAny_bind (wpAny_alloc ?_)
  have F2 := F1.push ({ cls := .type "dict", data := .dict #[] } : Obj)
  have N2 := News.push F1 N1 ({ cls := .type "dict", data := .dict #[] } : Obj)
  have hbS := F1.notModules (modules_low hlim)
  have hbd : H1.objs.size ≠ d := Nat.ne_of_gt (Heap.lt_size (N1 _ (.head _)).1)
  have hbn : ∀ q ∈ news, q.1 ≠ H1.objs.size := fun q hq => Nat.ne_of_lt (Heap.lt_size (N1 _ (.tail _ hq)).1)
  have hdn : ∀ q ∈ news, q.1 ≠ d := hdn0
  dsimp only
  generalize H1.push ({ cls := .type "dict", data := .dict #[] } : Obj) = H2 at F2 N2 ⊢
  generalize H1.objs.size = b at N2 hbd hbn hbS ⊢
  have hb2 : ∀ q ∈ ((d, dictOf [] 0) :: news), q.1 ≠ b := fun q hq => by
    rcases List.mem_cons.mp hq with rfl | hq
    · exact Ne.symm hbd
    · exact hbn q hq
  refine wpAny_bind (forIn1 ?_)
  refine wpAny_bind (kp_nsSet (es := []) (n := 0) F2 N2 hb2 (fun _ he => nomatch he) (fun _ he => nomatch he) fun H3 F3 N3 => wpAny_pure ?_)
  refine wpAny_onRaise (wpAny_holding (wpAny_tryCatch (wpAny_onRaise ?_)))
  have D3 := N3 _ (.tail _ (.head _))
  have S3 := N3 _ (.head _)
  refine merge_unique (kvs := []) (more := [(nm, v1)]) (Ne.symm hbd) ?_ (Heap.dictOf_iff.mpr ⟨_, D3.1, kp_isDict (ex := []) 0 0 List.nodup_nil⟩)
    (Heap.dictOf_iff.mpr ⟨_, S3.1, kp_isDict (ex := [(nm, v1)]) s.toks 1 (by simp)⟩) (by simp) (by simp) ?_
  · exact hbS
  intro H4 hd4 hs4
  have F4 := F3.change hs4 D3.2.1 D3.2.2
  have N4 : News h₀ L H4 news := fun q hq => ⟨(hs4.2 q.1 (hdn q hq)).trans (N3 q (.tail _ (.tail _ hq))).1, (N3 q (.tail _ (.tail _ hq))).2⟩
  refine wpAny_bind (ht2 _ _ F4 ?_)
  refine wpAny_bind (wpAny_onRaise (wpAny_holding (wpAny_tryCatch (wpAny_onRaise ?_))))
  refine merge_unique (kvs := [(nm, v1)]) (more := kvs) hdD hDS hd4 (Heap.dictOf_iff.mpr ⟨_, (N4 _ hm).1, hd⟩) (by simpa using hn) (by simp; omega) ?_
  intro H5 hd5 hs5
  refine wpAny_pure ?_
  refine wpAny_pure ?_
  refine wpAny_pure ?_
  exact h d H5 _ (F4.change hs5 D3.2.1 D3.2.2) (fun q hq => ⟨(hs5.2 q.1 (hdn q hq)).trans (N4 q hq).1, (N4 q hq).2⟩) hd5
theorem is_str {k : Str} {v : Value} (h : (strKind prog w).is k v = true) : ∃ t, v = .str k t := by
  cases v <;> simp [PySem.strKind, Value.isStrOf] at h
  subst h
  exact ⟨_, rfl⟩
theorem keywords_in {f : Value} {d : Addr} {kvs : List (Str × Value)} {Q : List (Str × Value) → Shared → Prop} (hd : s.heap.DictOf (strKind prog w) d kvs) (h : Q kvs s) :
    wpAny (model prog w) A (keywordsIn f d) Q E s := by
  obtain ⟨od, esd, epd, hod, hcd, hdd, hkd, hpd, hnd⟩ := id hd
  delta keywordsIn
  k_node
  refine wpAny_bind (wpAny_dictEntries hod hdd ?_)
  refine wpAny_bind ?_
  refine forIn_array_ _ (fun rest b s' => s' = s ∧ ∃ kr, Pairs (strKind prog w) rest kr ∧ b ++ kr = kvs) _ ?_ ?_ _ _ ⟨rfl, kvs, hpd, rfl⟩
  · rintro e rest b s' ⟨rfl, kr, hp, hb⟩
    cases hp with
    | cons hk hv hr =>
      obtain ⟨t, ht⟩ := is_str hk
      rename_i kv kvr
      rw [ht, hv]
      exact wpAny_pure ⟨rfl, kvr, hr, by rw [← hb]; simp⟩
  · rintro b s' ⟨rfl, kr, hp, hb⟩
    cases hp
    rw [List.append_nil] at hb
    subst hb
    exact wpAny_pure h
theorem call_kws {env : Env} {pos p1 p2 p3 p4 : Pos} {fa : Addr} {nm xn : Str} {b : Bool} {k : Nat} {D : Addr} {o : Obj} {kvs : List (Str × Value)} {Q : Value → Shared → Prop}
    (F : Fr h₀ L s.heap m) (N : News h₀ L s.heap news) (X : K.In h₀) (hkeep : keepIn K (.ref fa) = true) (hm : (D, o) ∈ news) (hd : o.IsDictOf (strKind prog w) kvs) (hn : (((nm, Value.bool b) :: kvs).map (·.1)).Nodup) (hz : kvs.length ≤ 20) (hDS : (D == sysModules) = false) (hlim : h₀.NoLimit)
    (hx : ∀ (s' : Shared) (Q' : Value → Shared → Prop), Fr h₀ L s'.heap m → Q' (.ref D) s' → wpAny (model prog w) A (eval (.Name xn p2) env) Q' E s')
    (h : ∀ h' tk, Fr h₀ L h' m → News h₀ L h' news → wpAny (model prog w) A (call (.ref fa) [] ((nm, .bool b) :: kvs)) Q E { s with heap := h', toks := tk }) :
    wpAny (model prog w) A (callWith pos (.ref fa) [] (backTo pos (starEach [] env)) (backToKw pos (keywordEach [⟨some nm, .Constant (.bool b) k p1, p3⟩, ⟨none, .Name xn p2, p4⟩] env))) Q E s := by
  delta callWith
  with_reducible refine wpAny_bind (wpAny_holding ?_)
  delta evalArgs
  refine wpAny_bind (wpAny_bind (wpAny_pure (wpAny_pure ?_)))
  with_reducible refine wpAny_bind (wpAny_pure ?_)
  refine wpAny_holding ?_
  k_node
  k_node
  refine wpAny_bind (merged_kw F N hm hd hn hz hDS hlim (fun s' Q' q => wpAny_bind (wpAny_Constant_bool (wpAny_bind (wpAny_standAt (wpAny_pure q))))) (fun s' Q' F' q => wpAny_bind (hx s' _ F' (wpAny_bind (wpAny_standAt (wpAny_pure q))))) ?_)
  intro d h' tk F' N' hd'
  refine wpAny_bind (wpAny_pure (wpAny_bind (wpAny_holding (keywords_in hd' (wpAny_pure ?_)))))
  refine wpAny_bind (wpAny_standAt ?_)
  obtain ⟨kp, hkp, Lk⟩ := keeps_K (M := model prog w) hkeep h' (X.keeps F'.keep)
  refine wpAny_bind (Lk.here ?_)
  have hc := h h' tk F' N'
  have tail : ∀ {t : Sem Value}, wpAny (model prog w) A t Q E { s with heap := h', toks := tk } → wpAny (model prog w) A (t >>= fun r => holding [r] point >>= fun _ => pure r) Q E { s with heap := h', toks := tk } :=
    fun ht => wpAny_bind (wpAny_mono ht (fun r s2 hr => wpAny_bind (wpAny_holding (wpAny_point (wpAny_pure hr)))) fun _ _ x => x)
  rcases hkp with rfl | rfl | rfl
  · refine tail ?_
    unfold callMarked
    exact Calls.wpAny_keep hc
  · exact tail (wpAny_operating hc)
  · exact tail (wpAny_operating hc)
end
def gkvs (vst vli vws vind vwid vlc vsep vpre vcom vrem : Value) : List (Str × Value) :=
  [(Str.ofString "statement", vst), (Str.ofString "imports", vli), (Str.ofString "white_space", vws), (Str.ofString "indent", vind), (Str.ofString "line_length", vwid),
   (Str.ofString "comments", vlc), (Str.ofString "line_separator", vsep), (Str.ofString "comment_prefix", vpre), (Str.ofString "include_trailing_comma", vcom), (Str.ofString "remove_comments", vrem)]
section
variable {vst vli vws vind vwid vlc vsep vpre vcom vrem v : Value}
theorem gk_statement : valueAt (gkvs vst vli vws vind vwid vlc vsep vpre vcom vrem) (Str.ofString "statement") = some vst := rfl
theorem gk_imports : valueAt (gkvs vst vli vws vind vwid vlc vsep vpre vcom vrem) (Str.ofString "imports") = some vli := rfl
theorem gk_indent : valueAt (gkvs vst vli vws vind vwid vlc vsep vpre vcom vrem) (Str.ofString "indent") = some vind := rfl
theorem gk_length : valueAt (gkvs vst vli vws vind vwid vlc vsep vpre vcom vrem) (Str.ofString "line_length") = some vwid := rfl
theorem gk_comments : valueAt (gkvs vst vli vws vind vwid vlc vsep vpre vcom vrem) (Str.ofString "comments") = some vlc := rfl
theorem gk_sep : valueAt (gkvs vst vli vws vind vwid vlc vsep vpre vcom vrem) (Str.ofString "line_separator") = some vsep := rfl
theorem gk_prefix : valueAt (gkvs vst vli vws vind vwid vlc vsep vpre vcom vrem) (Str.ofString "comment_prefix") = some vpre := rfl
theorem gk_comma : valueAt (gkvs vst vli vws vind vwid vlc vsep vpre vcom vrem) (Str.ofString "include_trailing_comma") = some vcom := rfl
theorem gk_remove : valueAt (gkvs vst vli vws vind vwid vlc vsep vpre vcom vrem) (Str.ofString "remove_comments") = some vrem := rfl
theorem gk_stored : stored (gkvs vst vli vws vind vwid vlc vsep vpre vcom vrem) (Str.ofString "statement") v = gkvs v vli vws vind vwid vlc vsep vpre vcom vrem := rfl
theorem gk_len : (gkvs vst vli vws vind vwid vlc vsep vpre vcom vrem).length ≤ 20 := Nat.le_of_ble_eq_true rfl
end
section
variable {prog : Program} {w : World} {A : Around} {E : Value → Shared → Prop} {s : Shared} {L l : Addr} {h₀ : Heap} {news : List (Addr × Obj)} {n : Nat} {v : Value} {vs : List Value} {Q : Bool → Shared → Prop}
theorem truthy_cons (N : News h₀ L s.heap news) (hm : (l, listOf (v :: vs).toArray n) ∈ news) (hz : vs.length ≤ 1000) (h : Q true { s with toks := s.toks + 1 + 1 }) : wpAny (model prog w) A (truthy (.ref l)) Q E s :=
  wpAny_truthy_list (News.isList N hm) (by rw [List.size_toArray, List.length_cons]; omega) h
theorem truthy_nil (N : News h₀ L s.heap news) (hm : (l, listOf ([] : List Value).toArray n) ∈ news) (h : Q false { s with toks := s.toks + 1 + 1 }) : wpAny (model prog w) A (truthy (.ref l)) Q E s :=
  wpAny_truthy_list (News.isList N hm) (by decide) h
end
end Mine
namespace Mine
local macro_rules | `(tactic| walk_at "mine nothing") => `(tactic| skip)
local macro_rules | `(tactic| walk_at "mine nothing") => `(tactic| skip)
local macro_rules | `(tactic| walk_at "mine nothing") => `(tactic| skip)
local macro_rules | `(tactic| walk_at "mine nothing") => `(tactic| skip)
local macro_rules | `(tactic| walk_at "mine nothing") => `(tactic| skip)
local macro_rules | `(tactic| units_room) => `(tactic| (have hcL9 := cLine_is; (try simp only [units_in1, units_deeper, Around.mark_units, units_caller] at *); (try dsimp only [ktrTop] at *); omega))
local macro_rules | `(tactic| k_all) => `(tactic| assumption)
local macro_rules | `(tactic| walk_at "eval Name") => `(tactic| (k_here; (with_reducible show wpAny _ _ (eval _ (envOf _ _ _ _ _)) _ _ _); k_dflt (refine' ld ?k1 ?k2 ?_; (case k1 => k_asm); (case k2 => assumption); k_whole)))
local macro_rules | `(tactic| walk_at "mine enter") => `(tactic| ((refine wpAny_noRaise ?_); (refine wpAny_call ?_); (refine' code_def ?k1 ?k2 ?k3 ?k4 ?k5 ?kA ?kF ?kK ?k6 ?k7 ?k8 ?k9 ?kB ?_ ?c2 ?c3 ?c4 ?c5; (case kA => exact rfl); (case kF => exact rfl); (case kK => assumption); (case k1 => k_asm); (case k2 => k_asm); (case k3 => k_asm); (case k4 => k_asm); (case k5 => k_asm); (case k6 => k_is); (case k7 => k_is); (case k8 => ktr_room); (case k9 => first | exact BindsTo.of_eq rfl | exact binds_K (by k_in) rfl (by k_is) rfl rfl rfl); (case c5 => decide); (case kB => exact locs rfl); (case c2 => exact rfl); (case c3 => exact rfl); (case c4 => exact rfl); k_whole; intro g' L' h' FG' F' N' B' X' T'; (refine wpAny_noRaise ?_); (try dsimp only); (try k_lift B'); (try k_fold))))
local macro_rules | `(tactic| walk_at "eval Name") => `(tactic| (k_here; (with_reducible show wpAny _ _ (eval _ (envOf _ _ _ _ _)) _ _ _); (with_reducible rename Fr _ _ _ _ => kF); k_dflt (refine' name_B kF ?k1 ?k2 ?k3 ?k4 ?k5 ?_; (case k1 => k_asm); (case k2 => k_asm); (case k3 => k_is); (case k4 => boot_by_name); (case k5 => decide); k_whole)))
local macro_rules | `(tactic| walk_at "eval Name") => `(tactic| (k_here; (with_reducible show wpAny _ _ (eval _ (compEnvC _ _ _ _)) _ _ _); (with_reducible rename Fr _ _ _ _ => kF); k_dflt (refine' LCgL.ld_built kF ?k1 ?k2 ?k3 ?k4 ?k5 ?_; (case k1 => k_asm); (case k2 => k_asm); (case k3 => k_is); (case k4 => boot_by_name); (case k5 => decide); k_whole)))
local macro_rules | `(tactic| walk_at "eval Name") => `(tactic| (k_here; (with_reducible show wpAny _ _ (eval _ (compEnvC _ _ _ _)) _ _ _); k_dflt (refine' LCgL.ld_own ?k1 ?k2 ?k3 ?k4 ?_; (case k1 => k_asm); (case k2 => k_mem); (case k3 => k_asm); (case k4 => k_asm); k_whole)))
local macro_rules | `(tactic| walk_at "exec For Name Name cons nil") => `(tactic| refine Hold.go ?_)
local macro_rules | `(tactic| walk_at "exec For Name Call cons nil") => `(tactic| refine Hold.go ?_)
local macro_rules | `(tactic| walk_at "eval ListComp") => `(tactic| refine Hold.go ?_)
local macro_rules | `(tactic| walk_at "exec While") => `(tactic| refine Hold.go ?_)
local macro_rules | `(tactic| walk_at "pyIter ref") => `(tactic| ((with_reducible show wpAny _ _ (pyIter (Value.ref _)) (fun it s₂ => LoopAtV _ _ _ _ _ _ _ _ _ it s₂) _ _); refine Hold.go ?_))
local macro_rules | `(tactic| walk_at "execs nil") => `(tactic| refine wpAny_execs_nil ?_)
local macro_rules | `(tactic| walk_at "mine keep") => `(tactic| first | with_reducible exact over_keep | with_reducible exact fun _ _ => rfl | ((with_reducible refine if_keep (by simp only [List.mem_cons, eq_self, true_or, or_true]) ?_); walk_at "mine keep") | ((with_reducible refine over_sub ?ov1 ?ov2); (case ov1 => k_allIn); (case ov2 => walk_at "mine keep")))
local macro_rules | `(tactic| walk_at "call ref") => `(tactic| refine Hold.go ?_)
local macro_rules | `(tactic| walk_at "mine more") => `(tactic| ((refine wpAny_noRaise ?_); (refine wpAny_call ?_); (refine' enter_more ?k1 ?k2 ?k3 ?k4 ?k5 ?kA ?kF ?kK ?k6 ?k7 ?k8 ?kX ?kM ?kN ?kR ?kP ?kT ?kB ?_ ?c2 ?c3 ?c4 ?c5; (case kA => exact rfl); (case kF => exact rfl); (case kK => first | assumption | exact rfl); (case k1 => k_asm); (case k2 => k_asm); (case k3 => k_asm); (case k4 => k_asm); (case k5 => k_asm); (case k6 => k_is); (case k7 => k_is); (case k8 => ktr_room); (case kX => kp_lit); (case kM => exact rfl); (case kN => exact rfl); (case kR => exact rfl); (case kP => exact rfl); (case kT => exact fun _ => rfl); (case kB => exact fun _ => locs rfl); (case c5 => decide); (case c2 => exact rfl); (case c3 => exact rfl); (case c4 => exact rfl); k_whole; intro D' o' g' L' h' tk' l1 lo' hs' FG' F' N' B' X' T'; (refine wpAny_noRaise ?_); (try k_lt l1); (try dsimp only); (try k_lift B'); (try k_fold))))
local macro_rules | `(tactic| walk_at "subscriptTail") => `(tactic| (k_here; (with_reducible show wpAny _ _ (subscriptTail _ _ (Value.ref _) (Value.str _ _)) _ _ _); k_dflt (refine' kw_item ?k1 ?k2 ?k3 ?k4 ?_; (case k1 => k_asm); (case k2 => k_mem); (case k3 => k_asm); (case k4 => with_reducible first | exact gk_statement | exact gk_imports | exact gk_indent | exact gk_length | exact gk_comments | exact gk_sep | exact gk_prefix | exact gk_comma | exact gk_remove); k_whole; (try dsimp only))))
local macro_rules | `(tactic| walk_at "getItem ref str") => `(tactic| (k_here; k_dflt (refine' kw_get ?k1 ?k2 ?k3 ?k4 ?_; (case k1 => k_asm); (case k2 => k_mem); (case k3 => k_asm); (case k4 => with_reducible first | exact gk_statement | exact gk_imports | exact gk_indent | exact gk_length | exact gk_comments | exact gk_sep | exact gk_prefix | exact gk_comma | exact gk_remove); k_whole; (try dsimp only))))
local macro_rules | `(tactic| walk_at "truthy ref") => `(tactic| (k_here; k_dflt (first | (refine' truthy_cons ?k1 ?k2 ?k3 ?_; (case k1 => k_asm); (case k2 => k_mem); (case k3 => omega); k_whole) | (refine' truthy_nil ?k1 ?k2 ?_; (case k1 => k_asm); (case k2 => k_mem); k_whole))))
local macro_rules | `(tactic| walk_at "callWith ref") => `(tactic| (k_here; (with_reducible show wpAny _ _ (callWith _ (Value.ref _) _ (backTo _ (starEach [] _)) (backToKw _ (keywordEach (_ :: _) _))) _ _ _); k_dflt ((with_reducible refine' callWith_KW0 ?k1 ?k2 ?k3 ?_ ?k4); (case k1 => k_asm); (case k2 => k_is); (case k3 => exact rfl); (case k4 => exact rfl); k_whole)))
theorem reset6 : True := by (w_top off; trivial)
theorem parse_spec {w : World} {loose : List Str} {mean : ExcName → Option Value} {mg mb : Str → Option Value} {A₀ : Around} {base h₀ : Heap} {dp un : Nat} {gd : Option (List Code)} {cn : Str} {cs : Scope} {a : Addr} {ccd : Value} {cl : List (Str × Addr)} {outer : List Env} {L : Addr}
  {m : Str → Option Value} {s : Shared} {t1 : Tok} {rest : List (Addr × Obj)} {Q E : Value → Shared → Prop}
  (B : Below A₀ base outer h₀) (F : Fr h₀ L s.heap m) (X : (hd.heap_39 w.params).In h₀)
  (N : News h₀ L s.heap rest)
  (T : Top hd.view_39 loose mean mg mb h₀) (hke : cs.kind = .function) (hroom : dp + 5 < recursionLimit) (hun : un + 100 < cLine)
  (ret : ∀ tp t h' tk', Fr h₀ L h' m → News h₀ L h' ((tp, { cls := .type "tuple", data := .seq #[.str (Str.ofString "(") t, .none] }) :: rest) → AllLt tp rest → Q (.ref tp) { s with heap := h', toks := tk' }) :
  wpAny (model Challenge.rw_fj5009_01.row.prog w) (ktrTop dp un gd cn cs L a ccd cl outer) (call (.ref 21) [.str (Str.ofString "(") t1]) Q E s := by
  revert X; k_fill; intro X
  walk_at "mine enter"
  k_steps
  exact ret _ _ _ _ (by k_asm) (by k_asm) (allLt_of (by assumption))
theorem add3_spec {w : World} {loose : List Str} {mean : ExcName → Option Value} {mg mb : Str → Option Value} {A₀ : Around} {base h₀ : Heap} {dp un : Nat} {gd : Option (List Code)} {cn : Str} {cs : Scope} {a : Addr} {ccd : Value} {cl : List (Str × Addr)} {outer : List Env} {L : Addr}
  {m : Str → Option Value} {s : Shared} {lc : Addr} {nlc : Nat} {ta tb tc t1 t2 : Tok} {rest : List (Addr × Obj)} {Q E : Value → Shared → Prop}
  (B : Below A₀ base outer h₀) (F : Fr h₀ L s.heap m) (X : (hd.heap_39 w.params).In h₀)
  (N : News h₀ L s.heap ((lc, listOf #[.str (Str.ofString "noqa") ta, .str (Str.ofString "why") tb, .str (Str.ofString "noqa") tc] nlc) :: rest))
  (T : Top hd.view_39 loose mean mg mb h₀) (hke : cs.kind = .function)
  (hrc : ∀ p ∈ rest, p.1 ≠ lc) (hroom : dp + 10 < recursionLimit) (hun : un + 200 < cLine)
  (ret : ∀ t h' tk', Fr h₀ L h' m → News h₀ L h' rest → Q (.str (Str.ofString "(  # noqa; why") t) { s with heap := h', toks := tk' }) :
  wpAny (model Challenge.rw_fj5009_01.row.prog w) (ktrTop dp un gd cn cs L a ccd cl outer) (call (.ref 29) [.ref lc, .str (Str.ofString "(") t1] [(Str.ofString "removed", .bool false), (Str.ofString "comment_prefix", .str (Str.ofString "  #") t2)]) Q E s := by
  revert X; k_fill; intro X
  walk_at "mine enter"
  k_steps
  refine Hold.out (For_invVF (by k_asm) (by exact rfl) (by exact rfl) ?_ (hE := PassesOwn.never))
  k_steps
  obtain ⟨l9, e9⟩ := nm_hd (by assumption)
  subst e9
  rename _ ∧ AllLt _ _ => hl9
  have hlc : ∀ p ∈ rest, p.1 ≠ lc := hrc
  refine Hold.out (iter_madeK (nn := nlc) (vs := [.str (Str.ofString "noqa") ta, .str (Str.ofString "why") tb, .str (Str.ofString "noqa") tc]) [Str.ofString "comment"]
    (fun i _ nx => ∃ n, nx = (l9, listOf (match i with | 0 => [] | 1 => [Value.str (Str.ofString "noqa") ta] | _ => [Value.str (Str.ofString "noqa") ta, Value.str (Str.ofString "why") tb]).toArray n) :: rest)
    (by rfl) (by k_asm) (news_swap (by k_asm)) ?_ ⟨_, rfl⟩ ?_ ?_)
  · intro p hp
    rcases List.mem_cons.mp hp with rfl | hp
    · exact Nat.ne_of_gt hl9.1
    · exact hlc p hp
  · rintro i v m₁ nx h tk own hv _ hoff ⟨n, rfl⟩ F9 N9
    have hro : ∀ p ∈ rest ++ own, p.1 ≠ l9 := app_off hl9.2 hoff (by k_memK)
    match i, hv with
    | 0, hv =>
      cases hv
      dsimp only
      simp only [List.cons_append] at N9
      k_steps
      rename News _ _ _ _ => N8
      exact TEnd.intro (nx := (l9, _) :: rest) (by k_asm) N8 rfl (by walk_at "mine keep") ⟨_, rfl⟩
    | 1, hv =>
      cases hv
      dsimp only
      simp only [List.cons_append] at N9
      k_steps
      rename News _ _ _ _ => N8
      exact TEnd.intro (nx := (l9, _) :: rest) (by k_asm) N8 rfl (by walk_at "mine keep") ⟨_, rfl⟩
    | 2, hv =>
      cases hv
      dsimp only
      simp only [List.cons_append] at N9
      k_steps
      rename News _ _ _ _ => N8
      exact TEnd.intro (nx := (l9, _) :: rest) (by k_asm) N8 rfl (by walk_at "mine keep") ⟨_, rfl⟩
    | i + 3, hv => cases hv
  · rintro m₁ nx h tk ha ⟨n, rfl⟩ F9 N9
    replace N9 : News _ _ h ((l9, listOf #[.str (Str.ofString "noqa") ta, .str (Str.ofString "why") tb] n) :: rest) := N9
    k_steps
    refine Hold.out (parse_spec (by k_asm) (by k_asm) (by k_asm) (by k_asm) (by k_asm) rfl (by ktr_room) (by ktr_units) ?_)
    intro tp t3 h3 tk3 F3 N3 o3
    k_steps
    exact ret _ _ _ (by k_asm) (news_tl (news_tl (by k_asm)))
theorem add1_spec {w : World} {loose : List Str} {mean : ExcName → Option Value} {mg mb : Str → Option Value} {A₀ : Around} {base h₀ : Heap} {dp un : Nat} {gd : Option (List Code)} {cn : Str} {cs : Scope} {a : Addr} {ccd : Value} {cl : List (Str × Addr)} {outer : List Env} {L : Addr}
  {m : Str → Option Value} {s : Shared} {lc : Addr} {nlc : Nat} {ta t1 t2 : Tok} {rest : List (Addr × Obj)} {Q E : Value → Shared → Prop}
  (B : Below A₀ base outer h₀) (F : Fr h₀ L s.heap m) (X : (hd.heap_39 w.params).In h₀)
  (N : News h₀ L s.heap ((lc, listOf #[.str (Str.ofString "noqa") ta] nlc) :: rest))
  (T : Top hd.view_39 loose mean mg mb h₀) (hke : cs.kind = .function)
  (hrc : ∀ p ∈ rest, p.1 ≠ lc) (hroom : dp + 10 < recursionLimit) (hun : un + 200 < cLine)
  (ret : ∀ t h' tk', Fr h₀ L h' m → News h₀ L h' rest → Q (.str (Str.ofString "(  # noqa") t) { s with heap := h', toks := tk' }) :
  wpAny (model Challenge.rw_fj5009_01.row.prog w) (ktrTop dp un gd cn cs L a ccd cl outer) (call (.ref 29) [.ref lc, .str (Str.ofString "(") t1] [(Str.ofString "removed", .bool false), (Str.ofString "comment_prefix", .str (Str.ofString "  #") t2)]) Q E s := by
  revert X; k_fill; intro X
  walk_at "mine enter"
  k_steps
  refine Hold.out (For_invVF (by k_asm) (by exact rfl) (by exact rfl) ?_ (hE := PassesOwn.never))
  k_steps
  obtain ⟨l9, e9⟩ := nm_hd (by assumption)
  subst e9
  rename _ ∧ AllLt _ _ => hl9
  have hlc : ∀ p ∈ rest, p.1 ≠ lc := hrc
  refine Hold.out (iter_madeK (nn := nlc) (vs := [.str (Str.ofString "noqa") ta]) [Str.ofString "comment"]
    (fun i _ nx => ∃ n, nx = (l9, listOf (match i with | 0 => [] | _ => [Value.str (Str.ofString "noqa") ta]).toArray n) :: rest)
    (by rfl) (by k_asm) (news_swap (by k_asm)) ?_ ⟨_, rfl⟩ ?_ ?_)
  · intro p hp
    rcases List.mem_cons.mp hp with rfl | hp
    · exact Nat.ne_of_gt hl9.1
    · exact hlc p hp
  · rintro i v m₁ nx h tk own hv _ hoff ⟨n, rfl⟩ F9 N9
    have hro : ∀ p ∈ rest ++ own, p.1 ≠ l9 := app_off hl9.2 hoff (by k_memK)
    match i, hv with
    | 0, hv =>
      cases hv
      dsimp only
      simp only [List.cons_append] at N9
      k_steps
      rename News _ _ _ _ => N8
      exact TEnd.intro (nx := (l9, _) :: rest) (by k_asm) N8 rfl (by walk_at "mine keep") ⟨_, rfl⟩
    | i + 1, hv => cases hv
  · rintro m₁ nx h tk ha ⟨n, rfl⟩ F9 N9
    replace N9 : News _ _ h ((l9, listOf #[.str (Str.ofString "noqa") ta] n) :: rest) := N9
    k_steps
    refine Hold.out (parse_spec (by k_asm) (by k_asm) (by k_asm) (by k_asm) (by k_asm) rfl (by ktr_room) (by ktr_units) ?_)
    intro tp t3 h3 tk3 F3 N3 o3
    k_steps
    exact ret _ _ _ (by k_asm) (news_tl (news_tl (by k_asm)))
theorem add0_spec {w : World} {loose : List Str} {mean : ExcName → Option Value} {mg mb : Str → Option Value} {A₀ : Around} {base h₀ : Heap} {dp un : Nat} {gd : Option (List Code)} {cn : Str} {cs : Scope} {a : Addr} {ccd : Value} {cl : List (Str × Addr)} {outer : List Env} {L : Addr}
  {m : Str → Option Value} {s : Shared} {lc : Addr} {nlc : Nat} {t1 t2 : Tok} {rest : List (Addr × Obj)} {Q E : Value → Shared → Prop}
  (B : Below A₀ base outer h₀) (F : Fr h₀ L s.heap m) (X : (hd.heap_39 w.params).In h₀)
  (N : News h₀ L s.heap ((lc, listOf #[] nlc) :: rest))
  (T : Top hd.view_39 loose mean mg mb h₀) (hke : cs.kind = .function)
  (hroom : dp + 10 < recursionLimit) (hun : un + 200 < cLine)
  (ret : ∀ t h' tk', Fr h₀ L h' m → News h₀ L h' rest → Q (.str (Str.ofString "(") t) { s with heap := h', toks := tk' }) :
  wpAny (model Challenge.rw_fj5009_01.row.prog w) (ktrTop dp un gd cn cs L a ccd cl outer) (call (.ref 29) [.ref lc, .str (Str.ofString "(") t1] [(Str.ofString "removed", .bool false), (Str.ofString "comment_prefix", .str (Str.ofString "  #") t2)]) Q E s := by
  revert X; k_fill; intro X
  walk_at "mine enter"
  k_steps
  exact ret _ _ _ (by k_asm) (news_tl (by k_asm))
/-- the comments and the text that add_to_line makes of them behind the bracket -/
def CmOk (cvs : List Value) (cm : Str) : Prop :=
  (cvs = [] ∧ cm = Str.ofString "(") ∨ (∃ ta, cvs = [.str (Str.ofString "noqa") ta] ∧ cm = Str.ofString "(  # noqa") ∨
    (∃ ta tb tc, cvs = [.str (Str.ofString "noqa") ta, .str (Str.ofString "why") tb, .str (Str.ofString "noqa") tc] ∧ cm = Str.ofString "(  # noqa; why")
theorem CmOk.len {cvs : List Value} {cm : Str} (h : CmOk cvs cm) : cvs.length ≤ 3 ∧ cm.length ≤ 20 ∧ ∀ c ∈ cm.cps.toList, c ≠ 10 := by
  rcases h with ⟨rfl, rfl⟩ | ⟨ta, rfl, rfl⟩ | ⟨ta, tb, tc, rfl, rfl⟩ <;> exact ⟨by simp, by decide, by decide⟩
theorem add_spec {w : World} {loose : List Str} {mean : ExcName → Option Value} {mg mb : Str → Option Value} {A₀ : Around} {base h₀ : Heap} {dp un : Nat} {gd : Option (List Code)} {cn : Str} {cs : Scope} {a : Addr} {ccd : Value} {cl : List (Str × Addr)} {outer : List Env} {L : Addr}
  {m : Str → Option Value} {s : Shared} {lc : Addr} {nlc : Nat} {cvs : List Value} {cm : Str} {t1 t2 : Tok} {rest : List (Addr × Obj)} {Q E : Value → Shared → Prop}
  (B : Below A₀ base outer h₀) (F : Fr h₀ L s.heap m) (X : (hd.heap_39 w.params).In h₀)
  (N : News h₀ L s.heap ((lc, listOf cvs.toArray nlc) :: rest))
  (T : Top hd.view_39 loose mean mg mb h₀) (hke : cs.kind = .function)
  (hcm : CmOk cvs cm)
  (hrc : ∀ p ∈ rest, p.1 ≠ lc) (hroom : dp + 10 < recursionLimit) (hun : un + 200 < cLine)
  (ret : ∀ t h' tk', Fr h₀ L h' m → News h₀ L h' rest → Q (.str cm t) { s with heap := h', toks := tk' }) :
  wpAny (model Challenge.rw_fj5009_01.row.prog w) (ktrTop dp un gd cn cs L a ccd cl outer) (call (.ref 29) [.ref lc, .str (Str.ofString "(") t1] [(Str.ofString "removed", .bool false), (Str.ofString "comment_prefix", .str (Str.ofString "  #") t2)]) Q E s := by
  rcases hcm with ⟨rfl, rfl⟩ | ⟨ta, rfl, rfl⟩ | ⟨ta, tb, tc, rfl, rfl⟩
  · exact add0_spec B F X N T hke hroom hun ret
  · exact add1_spec B F X N T hke hrc hroom hun ret
  · exact add3_spec B F X N T hke hrc hroom hun ret
end Mine
namespace Mine
local macro_rules | `(tactic| walk_at "mine nothing") => `(tactic| skip)
local macro_rules | `(tactic| walk_at "mine nothing") => `(tactic| skip)
local macro_rules | `(tactic| walk_at "mine nothing") => `(tactic| skip)
local macro_rules | `(tactic| walk_at "mine nothing") => `(tactic| skip)
local macro_rules | `(tactic| walk_at "mine nothing") => `(tactic| skip)
local macro_rules | `(tactic| walk_at "mine nothing") => `(tactic| skip)
local macro_rules | `(tactic| units_room) => `(tactic| (have hcL9 := cLine_is; (try simp only [units_in1, units_deeper, Around.mark_units, units_caller] at *); (try dsimp only [ktrTop] at *); omega))
local macro_rules | `(tactic| k_all) => `(tactic| assumption)
local macro_rules | `(tactic| walk_at "eval Name") => `(tactic| (k_here; (with_reducible show wpAny _ _ (eval _ (envOf _ _ _ _ _)) _ _ _); k_dflt (refine' ld ?k1 ?k2 ?_; (case k1 => k_asm); (case k2 => assumption); k_whole)))
local macro_rules | `(tactic| walk_at "mine enter") => `(tactic| ((refine wpAny_noRaise ?_); (refine wpAny_call ?_); (refine' code_def ?k1 ?k2 ?k3 ?k4 ?k5 ?kA ?kF ?kK ?k6 ?k7 ?k8 ?k9 ?kB ?_ ?c2 ?c3 ?c4 ?c5; (case kA => exact rfl); (case kF => exact rfl); (case kK => assumption); (case k1 => k_asm); (case k2 => k_asm); (case k3 => k_asm); (case k4 => k_asm); (case k5 => k_asm); (case k6 => k_is); (case k7 => k_is); (case k8 => ktr_room); (case k9 => first | exact BindsTo.of_eq rfl | exact binds_K (by k_in) rfl (by k_is) rfl rfl rfl); (case c5 => decide); (case kB => exact locs rfl); (case c2 => exact rfl); (case c3 => exact rfl); (case c4 => exact rfl); k_whole; intro g' L' h' FG' F' N' B' X' T'; (refine wpAny_noRaise ?_); (try dsimp only); (try k_lift B'); (try k_fold))))
local macro_rules | `(tactic| walk_at "eval Name") => `(tactic| (k_here; (with_reducible show wpAny _ _ (eval _ (envOf _ _ _ _ _)) _ _ _); (with_reducible rename Fr _ _ _ _ => kF); k_dflt (refine' name_B kF ?k1 ?k2 ?k3 ?k4 ?k5 ?_; (case k1 => k_asm); (case k2 => k_asm); (case k3 => k_is); (case k4 => boot_by_name); (case k5 => decide); k_whole)))
local macro_rules | `(tactic| walk_at "eval Name") => `(tactic| (k_here; (with_reducible show wpAny _ _ (eval _ (compEnvC _ _ _ _)) _ _ _); (with_reducible rename Fr _ _ _ _ => kF); k_dflt (refine' LCgL.ld_built kF ?k1 ?k2 ?k3 ?k4 ?k5 ?_; (case k1 => k_asm); (case k2 => k_asm); (case k3 => k_is); (case k4 => boot_by_name); (case k5 => decide); k_whole)))
local macro_rules | `(tactic| walk_at "eval Name") => `(tactic| (k_here; (with_reducible show wpAny _ _ (eval _ (compEnvC _ _ _ _)) _ _ _); k_dflt (refine' LCgL.ld_own ?k1 ?k2 ?k3 ?k4 ?_; (case k1 => k_asm); (case k2 => k_mem); (case k3 => k_asm); (case k4 => k_asm); k_whole)))
local macro_rules | `(tactic| walk_at "exec For Name Name cons nil") => `(tactic| refine Hold.go ?_)
local macro_rules | `(tactic| walk_at "exec For Name Call cons nil") => `(tactic| refine Hold.go ?_)
local macro_rules | `(tactic| walk_at "eval ListComp") => `(tactic| refine Hold.go ?_)
local macro_rules | `(tactic| walk_at "exec While") => `(tactic| refine Hold.go ?_)
local macro_rules | `(tactic| walk_at "pyIter ref") => `(tactic| ((with_reducible show wpAny _ _ (pyIter (Value.ref _)) (fun it s₂ => LoopAtV _ _ _ _ _ _ _ _ _ it s₂) _ _); refine Hold.go ?_))
local macro_rules | `(tactic| walk_at "execs nil") => `(tactic| refine wpAny_execs_nil ?_)
local macro_rules | `(tactic| walk_at "mine keep") => `(tactic| first | with_reducible exact over_keep | with_reducible exact fun _ _ => rfl | ((with_reducible refine if_keep (by simp only [List.mem_cons, eq_self, true_or, or_true]) ?_); walk_at "mine keep") | ((with_reducible refine over_sub ?ov1 ?ov2); (case ov1 => k_allIn); (case ov2 => walk_at "mine keep")))
local macro_rules | `(tactic| walk_at "call ref") => `(tactic| refine Hold.go ?_)
local macro_rules | `(tactic| walk_at "mine more") => `(tactic| ((refine wpAny_noRaise ?_); (refine wpAny_call ?_); (refine' enter_more ?k1 ?k2 ?k3 ?k4 ?k5 ?kA ?kF ?kK ?k6 ?k7 ?k8 ?kX ?kM ?kN ?kR ?kP ?kT ?kB ?_ ?c2 ?c3 ?c4 ?c5; (case kA => exact rfl); (case kF => exact rfl); (case kK => first | assumption | exact rfl); (case k1 => k_asm); (case k2 => k_asm); (case k3 => k_asm); (case k4 => k_asm); (case k5 => k_asm); (case k6 => k_is); (case k7 => k_is); (case k8 => ktr_room); (case kX => kp_lit); (case kM => exact rfl); (case kN => exact rfl); (case kR => exact rfl); (case kP => exact rfl); (case kT => exact fun _ => rfl); (case kB => exact fun _ => locs rfl); (case c5 => decide); (case c2 => exact rfl); (case c3 => exact rfl); (case c4 => exact rfl); k_whole; intro D' o' g' L' h' tk' l1 lo' hs' FG' F' N' B' X' T'; (refine wpAny_noRaise ?_); (try k_lt l1); (try dsimp only); (try k_lift B'); (try k_fold))))
local macro_rules | `(tactic| walk_at "subscriptTail") => `(tactic| (k_here; (with_reducible show wpAny _ _ (subscriptTail _ _ (Value.ref _) (Value.str _ _)) _ _ _); k_dflt (refine' kw_item ?k1 ?k2 ?k3 ?k4 ?_; (case k1 => k_asm); (case k2 => k_mem); (case k3 => k_asm); (case k4 => with_reducible first | exact gk_statement | exact gk_imports | exact gk_indent | exact gk_length | exact gk_comments | exact gk_sep | exact gk_prefix | exact gk_comma | exact gk_remove); k_whole; (try dsimp only))))
local macro_rules | `(tactic| walk_at "getItem ref str") => `(tactic| (k_here; k_dflt (refine' kw_get ?k1 ?k2 ?k3 ?k4 ?_; (case k1 => k_asm); (case k2 => k_mem); (case k3 => k_asm); (case k4 => with_reducible first | exact gk_statement | exact gk_imports | exact gk_indent | exact gk_length | exact gk_comments | exact gk_sep | exact gk_prefix | exact gk_comma | exact gk_remove); k_whole; (try dsimp only))))
local macro_rules | `(tactic| walk_at "truthy ref") => `(tactic| (k_here; k_dflt (first | (refine' truthy_cons ?k1 ?k2 ?k3 ?_; (case k1 => k_asm); (case k2 => k_mem); (case k3 => omega); k_whole) | (refine' truthy_nil ?k1 ?k2 ?_; (case k1 => k_asm); (case k2 => k_mem); k_whole))))
local macro_rules | `(tactic| walk_at "callWith ref") => `(tactic| (k_here; (with_reducible show wpAny _ _ (callWith _ (Value.ref _) _ (backTo _ (starEach [] _)) (backToKw _ (keywordEach (_ :: _) _))) _ _ _); k_dflt ((with_reducible refine' callWith_KW0 ?k1 ?k2 ?k3 ?_ ?k4); (case k1 => k_asm); (case k2 => k_is); (case k3 => exact rfl); (case k4 => exact rfl); k_whole)))
theorem reset7 : True := by (w_top off; trivial)
/-- the text so far (S) and its last row (cur), grown by the names -/
def vg (ind : Str) (width : Nat) (comma ntc : Bool) : Str → Str → List Str → Str
  | S, _, [] => S
  | S, cur, x :: r =>
    if (width : Int) < ((cur.length + 2 + x.length + (if !r.isEmpty || comma then 1 else 0) + (if r.isEmpty && ntc then 1 else 0) : Nat) : Int) then
      vg ind width comma ntc (Str.empty ++ S ++ Str.ofString "," ++ Str.ofString "\n" ++ ind ++ x) (ind ++ x) r
    else vg ind width comma ntc (Str.empty ++ S ++ Str.ofString ", " ++ x) (cur ++ Str.ofString ", " ++ x) r
theorem vg_wide {ind : Str} {width : Nat} {comma ntc : Bool} {S cur x : Str} {r : List Str} (h : (width : Int) < ((cur.length + 2 + x.length + (if !r.isEmpty || comma then 1 else 0) + (if r.isEmpty && ntc then 1 else 0) : Nat) : Int)) :
    vg ind width comma ntc S cur (x :: r) = vg ind width comma ntc (Str.empty ++ S ++ Str.ofString "," ++ Str.ofString "\n" ++ ind ++ x) (ind ++ x) r := by
  rw [vg, if_pos h]
theorem vg_same {ind : Str} {width : Nat} {comma ntc : Bool} {S cur x : Str} {r : List Str} (h : ¬ (width : Int) < ((cur.length + 2 + x.length + (if !r.isEmpty || comma then 1 else 0) + (if r.isEmpty && ntc then 1 else 0) : Nat) : Int)) :
    vg ind width comma ntc S cur (x :: r) = vg ind width comma ntc (Str.empty ++ S ++ Str.ofString ", " ++ x) (cur ++ Str.ofString ", " ++ x) r := by
  rw [vg, if_neg h]
local macro_rules | `(tactic| walk_at "vg side") => `(tactic| (simp only [List.isEmpty_nil, List.isEmpty_cons, Bool.not_true, Bool.not_false, Bool.true_or, Bool.or_true, Bool.or_false, Bool.false_or, Bool.true_and, Bool.and_true, Bool.false_and, Bool.and_false, if_true, if_false, Bool.false_eq_true, reduceIte]; omega))
def vgEnd (comma : Bool) (S : Str) : Str := if comma = true then S ++ Str.ofString "," else S
theorem eqS {x y : Str} {Q : Value → Shared → Prop} {t : Tok} {s : Shared} (e : x = y) (h : Q (.str y t) s) : Q (.str x t) s := e ▸ h
theorem gk_set {prog : Program} {w : World} {A : Around} {E : Value → Shared → Prop} {s : Shared} {h₀ : Heap} {L : Addr} {m : Str → Option Value} {news : List (Addr × Obj)} {vst vli vws vind vwid vlc vsep vpre vcom vrem v : Value}
    {d : Addr} {o : Obj} {t : Tok} {g : Obj → List (Addr × Obj)} {Q : Unit → Shared → Prop} (F : Fr h₀ L s.heap m) (N : News h₀ L s.heap news) (U : UpdF d o news g) (hd : o.IsDictOf (PySem.strKind prog w) (gkvs vst vli vws vind vwid vlc vsep vpre vcom vrem))
    (h : ∀ h' o', Fr h₀ L h' m → News h₀ L h' (g o') → o'.IsDictOf (PySem.strKind prog w) (gkvs v vli vws vind vwid vlc vsep vpre vcom vrem) → Q () { s with heap := h', toks := s.toks + 1 }) :
    wpAny (model prog w) A (setItem (.ref d) (.str (Str.ofString "statement") t) v) Q E s :=
  kw_set F N U hd gk_len fun h' o' F' N' hd' => h h' o' F' N' (gk_stored ▸ hd')
local macro_rules | `(tactic| walk_at "setItem ref str") => `(tactic| refine Hold.go ?_)
local macro_rules | `(tactic| walk_at "call builtin:list.pop") => `(tactic| refine Hold.go ?_)
local macro_rules | `(tactic| walk_at "call builtin:str.rsplit") => `(tactic| refine Hold.go ?_)
section
variable {prog : Program} {w : World} {A : Around} {E : Value → Shared → Prop} {Q : Flow → Shared → Prop} {s : Shared} {env : Env} {h₀ : Heap} {L : Addr}
def WEnd (h₀ : Heap) (L : Addr) (stored : List Str) (m₀ : Str → Option Value) (J : Nat → List (Addr × Obj) → Prop) (n : Nat) (s₁ s₂ : Shared) : Prop :=
  ∃ h' tk m' nx n', s₂ = { s₁ with heap := h', toks := tk } ∧ Fr h₀ L h' m' ∧ News h₀ L h' nx ∧ n' < n ∧ (∀ z, z ∉ stored → m' z = m₀ z) ∧ J n' nx
def WPost (h₀ : Heap) (L : Addr) (stored : List Str) (m₀ : Str → Option Value) (J : Nat → List (Addr × Obj) → Prop) (n : Nat) (s₁ : Shared) (Q : Flow → Shared → Prop) (f : Flow) (s₂ : Shared) : Prop :=
  match f with
  | .ret v => Q (.ret v) s₂
  | .brk => Q .next s₂
  | _ => WEnd h₀ L stored m₀ J n s₁ s₂
theorem WEnd.intro {stored : List Str} {m₀ m' : Str → Option Value} {J : Nat → List (Addr × Obj) → Prop} {n n' : Nat} {nx : List (Addr × Obj)} {s₁ : Shared} {h' : Heap} {tk : Nat}
    (F : Fr h₀ L h' m') (N : News h₀ L h' nx) (hn : n' < n) (hm : ∀ z, z ∉ stored → m' z = m₀ z) (hj : J n' nx) : WEnd h₀ L stored m₀ J n s₁ { s₁ with heap := h', toks := tk } :=
  ⟨h', tk, m', nx, n', rfl, F, N, hn, hm, hj⟩
theorem whileK {test : PySem.Expr} {body : List Stmt} {pos : Pos} {m₀ : Str → Option Value} {news : List (Addr × Obj)} {n₀ : Nat} (stored : List Str) (J : Nat → List (Addr × Obj) → Prop)
    (F : Fr h₀ L s.heap m₀) (N : News h₀ L s.heap news) (hj : J n₀ news)
    (turn : ∀ n m₁ nx h tk, J n nx → Fr h₀ L h (over stored m₁ m₀) → News h₀ L h nx →
      wpAny (model prog w) A (isTrue test env (eval test env)) (fun b s₂ =>
        if b = true then wpAny (model prog w) A (execs body env) (WPost h₀ L stored m₀ J n s Q) E s₂ else Q .next s₂) E { s with heap := h, toks := tk })
    (hE : PassesOwn (model prog w) A env E := by passes_own) :
    wpAny (model prog w) A (exec (.While test body [] pos) env) Q E s := by
  refine While_inv2 (fun n m nx => (∀ z, z ∉ stored → m z = m₀ z) ∧ J n nx) F N ⟨fun _ _ => rfl, hj⟩ ?_ hE
  rintro n m₁ nx h tk F₁ N₁ ⟨hm, hJ⟩
  rw [← over_eq hm] at F₁
  refine wpAny_mono (turn n m₁ nx h tk hJ F₁ N₁) (fun b s₂ p => ?_) fun _ _ x => x
  cases b with
  | false => simpa using p
  | true =>
    simp only [if_true] at p ⊢
    refine wpAny_mono p (fun f s₃ q => ?_) fun _ _ x => x
    cases f with
    | ret v => exact q
    | brk => exact q
    | next =>
      obtain ⟨h', tk', m', nx', n', rfl, F', N', hn, hm', hj'⟩ := q
      exact ⟨h', tk', m', nx', n', rfl, F', N', hn, hm', hj'⟩
    | cont =>
      obtain ⟨h', tk', m', nx', n', rfl, F', N', hn, hm', hj'⟩ := q
      exact ⟨h', tk', m', nx', n', rfl, F', N', hn, hm', hj'⟩
end
theorem cps_app (a b : Str) : (a ++ b).cps.toList = a.cps.toList ++ b.cps.toList := by
  show (a.cps ++ b.cps).toList = _
  rw [Array.toList_append]
theorem len_app (a b : Str) : (a ++ b).length = a.length + b.length := by
  rw [len_cps, len_cps a, len_cps b, cps_app, List.length_append]
theorem cps_nl : (Str.ofString "\n").cps.toList = [10] := by decide
theorem cps_cm : (Str.ofString ",").cps.toList = [44] := by decide
theorem cps_cs : (Str.ofString ", ").cps.toList = [44, 32] := by decide
theorem cps_e : Str.empty.cps.toList = [] := by decide
theorem len_cs : (Str.ofString ", ").length = 2 := by decide
theorem len_nl : (Str.ofString "\n").length = 1 := by decide
theorem len_cm : (Str.ofString ",").length = 1 := by decide
theorem len_e : Str.empty.length = 0 := by decide
theorem callWith_kwM {M : Model} {A : Around} {E : Value → Shared → Prop} {s : Shared} {env : Env} {pos : Pos} {id : String} {first : List Value} {e : PySem.Expr} {rest : List PySem.Expr} {kws : List Keyword} {Q : Value → Shared → Prop}
    (h : wpAny M A (spliced (backTo pos (starEach (e :: rest) env))) (fun vs s₁ => wpAny M A (evalAll ((backToKw pos (keywordEach kws env)).map (·.2)))
      (fun kvs s₂ => wpAny M A (call (.builtin id) (first ++ vs) (((backToKw pos (keywordEach kws env)).filterMap (·.1)).zip kvs)) Q E s₂) E s₁) E s)
    (he : backTo pos (starEach (e :: rest) env) = (false, eval e env) :: backTo pos (starEach rest env) := by rfl)
    (hplain : (backTo pos (starEach (e :: rest) env)).any (·.1) = false := by rfl)
    (hall : (backToKw pos (keywordEach kws env)).all (·.1.isSome) = true := by rfl)
    (hkw : (backToKw pos (keywordEach kws env)).any (·.1.isNone) = false := by rfl) :
    wpAny M A (callWith pos (.builtin id) first (backTo pos (starEach (e :: rest) env)) (backToKw pos (keywordEach kws env))) Q E s := by
  refine callWith_builtin_kwB hplain hkw ?_
  rw [he] at h ⊢
  exact evalArgs_kwB hall h
/-- how the walk's loop stands: the rest of the names, the text so far, its last row -/
def VgAt (w : World) (ind : Str) (width : Nat) (comma ntc : Bool) (D li : Addr) (lo : List (Addr × Obj)) (G : Value → List (Str × Value)) (fin : Str) (n : Nat) (nx : List (Addr × Obj)) : Prop :=
  ∃ S ts cur r rv o k p, nx = (D, o) :: (li, listOf rv.toArray k) :: lo ∧ n = r.length ∧ StrsAre rv r ∧ (∀ x ∈ r, GoodName x) ∧ o.IsDictOf (PySem.strKind Challenge.rw_fj5009_01.row.prog w) (G (.str S ts)) ∧
    S.cps.toList = p ++ 10 :: cur.cps.toList ∧ 10 ∉ cur.cps.toList ∧ S.length + 25 * r.length ≤ 600 ∧ vg ind width comma ntc S cur r = fin
theorem vgc_spec {w : World} {loose : List Str} {mean : ExcName → Option Value} {mg mb : Str → Option Value} {A₀ : Around} {base h₀ : Heap} {dp un : Nat} {gd : Option (List Code)} {cn : Str} {cs : Scope} {a : Addr} {ccd : Value} {cl : List (Str × Addr)} {outer : List Env} {L : Addr}
  {m : Str → Option Value} {s : Shared} {li lc : Addr} {nli nlc : Nat} {nvs cvs : List Value} {names : List Str} {x0 indent st cm : Str} {vws : Value} {tx0 ti tw t1 t2 t3 : Tok} {width : Nat} {comma ntc : Bool} {rest : List (Addr × Obj)} {Q E : Value → Shared → Prop}
  (B : Below A₀ base outer h₀) (F : Fr h₀ L s.heap m) (X : (hd.heap_39 w.params).In h₀)
  (N : News h₀ L s.heap ((li, listOf (.str x0 tx0 :: nvs).toArray nli) :: (lc, listOf cvs.toArray nlc) :: rest))
  (T : Top hd.view_39 loose mean mg mb h₀) (hke : cs.kind = .function)
  (hroom : dp + 20 < recursionLimit) (hun : un + 300 < cLine)
  (hS : StrsAre nvs names) (hlen : names.length ≤ 10) (hg0 : GoodName x0) (hg : ∀ x ∈ names, GoodName x) (hind : indent.length ≤ 5) (hw : width ≤ 100)
  (hc : CmOk cvs cm) (hst : st.length ≤ 20) (hi10 : 10 ∉ indent.cps.toList) (hrc : ∀ p ∈ rest, p.1 ≠ lc ∧ p.1 ≠ li) (hne : li ≠ lc)
  (ret : ∀ t h' tk', Fr h₀ L h' m → News h₀ L h' rest → Q (.str (vgEnd comma (vg indent width comma ntc (st ++ (cm ++ Str.ofString "\n" ++ indent ++ x0)) (indent ++ x0) names)) t) { s with heap := h', toks := tk' }) :
  wpAny (model Challenge.rw_fj5009_01.row.prog w) (ktrTop dp un gd cn cs L a ccd cl outer) (call (.ref 36) [] ((Str.ofString "need_trailing_char", .bool ntc) ::
    gkvs (.str st t1) (.ref li) vws (.str indent ti) (.int width tw) (.ref lc) (.str (Str.ofString "\n") t2) (.str (Str.ofString "  #") t3) (.bool comma) (.bool false))) Q E s := by
  revert X; k_fill; intro X
  delta gkvs
  walk_at "mine more"
  rename Obj.IsDictOf _ _ _ => hs9
  rename li < _ ∧ _ => l1
  replace hs9 : Obj.IsDictOf _ _ (gkvs (.str st t1) (.ref li) vws (.str indent ti) (.int width tw) (.ref lc) (.str (Str.ofString "\n") t2) (.str (Str.ofString "  #") t3) (.bool comma) (.bool false)) := hs9
  have hnv : nvs.length ≤ 10 := by rw [hS.length]; exact hlen
  have hrl : ∀ p ∈ rest, p.1 ≠ li := fun p hp => (hrc p hp).2
  have hc1 := hc.len.1
  have hc2 := hc.len.2.1
  k_steps
  refine Hold.out (add_spec (by k_asm) (by k_asm) (by k_asm) (news_rotR (by k_asm)) (by k_asm) rfl hc ?_ (by ktr_room) (by ktr_units) ?_)
  · intro p hp
    rcases List.mem_cons.mp hp with rfl | hp
    · exact Nat.ne_of_gt l1.2.1
    · rcases List.mem_cons.mp hp with rfl | hp
      · exact hne
      · exact (hrc p hp).1
  intro t9 h9 tk9 F9 N9
  try dsimp only
  k_steps
  refine Hold.out (pop0 (by k_asm) (by k_asm) (by k_upd) (by omega) ?_)
  intro h8 F8 N8
  try dsimp only
  have hx0 := hg0.2.1
  k_steps
  refine Hold.out (gk_set (by k_asm) (by k_asm) (by k_updF) (by assumption) ?_)
  intro h7 o7 F7 N7 D7
  try dsimp only
  obtain ⟨D, e9⟩ := nm_hd (by assumption)
  subst e9
  k_steps
  have hl0 := hS.length
  try dsimp only
  refine Hold.out (whileK (n₀ := names.length) [Str.ofString "next_import", Str.ofString "next_statement", Str.ofString "current_line_length"]
    (VgAt w indent width comma ntc D li rest (fun v => gkvs v (.ref li) vws (.str indent ti) (.int width tw) (.ref lc) (.str (Str.ofString "\n") t2) (.str (Str.ofString "  #") t3) (.bool comma) (.bool false))
      (vg indent width comma ntc (st ++ (cm ++ Str.ofString "\n" ++ indent ++ x0)) (indent ++ x0) names))
    (by k_asm) (by k_asm) ⟨_, _, indent ++ x0, names, nvs, _, _, st.cps.toList ++ cm.cps.toList, rfl, rfl, hS, hg, D7, ?_, ?_, ?_, rfl⟩ ?_)
  · simp only [cps_app, cps_nl, List.append_assoc, List.cons_append, List.nil_append]
  · rw [cps_app, List.mem_append]
    rintro (h | h)
    · exact hi10 h
    · exact (hg0.2.2 _ h).1 rfl
  · simp only [len_app, len_nl]
    omega
  · rintro n m₁ nx h tk ⟨S, ts, cur, r, rv, o, k, p, rfl, rfl, hSr, hgr, D8, hcps, h10, hsum, hvg⟩ F9 N9
    clear F7 N7 D7
    have hSl : S.length ≤ 600 := by omega
    cases hSr with
    | nil =>
      k_steps
      · refine Hold.out (gk_set (by k_asm) (by k_asm) (by k_updF) (by assumption) ?_)
        intro h4 o4 F4 N4 D4
        k_steps
        rename comma = true => hct
        refine eqS ?_ (ret _ _ _ (by k_asm) (news_tl (news_tl (by k_asm))))
        rw [← hvg, vgEnd, hct, if_pos rfl, vg]
      · rename comma = false => hct
        refine eqS ?_ (ret _ _ _ (by k_asm) (news_tl (news_tl (by k_asm))))
        rw [← hvg, vgEnd, hct, if_neg (by decide), vg]
    | cons x t hr =>
      rename_i vs' r'
      have hx := hgr x List.mem_cons_self
      have hx14 := hx.2.1
      have hq10 : 10 ∉ (cur ++ Str.ofString ", " ++ x).cps.toList := by
        simp only [cps_app, cps_cs, List.mem_append]
        rintro ((h | h) | h)
        · exact h10 h
        · revert h; decide
        · exact (hx.2.2 _ h).1 rfl
      have hi11 : 10 ∉ (indent ++ x).cps.toList := by
        rw [cps_app, List.mem_append]
        rintro (h | h)
        · exact hi10 h
        · exact (hx.2.2 _ h).1 rfl
      have hrl := hr.length
      have hvl : vs'.length ≤ 30 := by rw [List.length_cons] at hsum; omega
      k_steps
      refine Hold.out (pop0 (by k_asm) (by k_asm) (by k_upd) (by omega) ?_)
      intro h6 F6 N6
      try dsimp only
      k_steps
      refine callWith_kwM ?_
      k_steps
      refine Hold.out (rsplitK (p := p) (q := (cur ++ Str.ofString ", " ++ x).cps.toList) (by k_asm) (by k_asm) ?_ ?_ ?_ ?_)
      · simp only [cps_app, hcps, cps_e, List.append_assoc, List.cons_append, List.nil_append]
      · exact hq10
      · simp only [len_app, len_e, len_cs]
        omega
      intro ra rb t5 t6 l5 h5 tk5 hlb F5 N5 o5
      k_lt o5
      have hcl : cur.length ≤ 600 := by
        have e := congrArg List.length hcps
        rw [List.length_append, List.length_cons, ← len_cps, ← len_cps] at e
        omega
      rw [← len_cps, len_app, len_app, len_cs] at hlb
      try dsimp only
      cases hr with
      | nil =>
        k_steps
        all_goals ((try dsimp only); refine Hold.out (gk_set (by k_asm) (by k_asm) (by k_updF) (by assumption) ?_); intro h4 o4 F4 N4 D4; dsimp only; k_steps)
        all_goals (try (rename comma = _ => hct; subst hct))
        all_goals (try (rename ntc = _ => hnt; subst hnt))
        all_goals first
          | rename ¬ ((width : Int) < _) => hw9
            refine WEnd.intro (nx := (D, o4) :: (li, _) :: rest) F4 (news_tl N4) (Nat.lt_succ_self _) ?hm ⟨_, _, cur ++ Str.ofString ", " ++ x, _, _, _, _, p, rfl, rfl, .nil, fun y hy => hgr y (.tail _ hy), D4, ?h1, hq10, ?h2, ?h3⟩
            case hm => walk_at "mine keep"
            case h1 => simp only [cps_app, hcps, cps_cs, cps_e, List.append_assoc, List.cons_append, List.nil_append]
            case h2 => simp only [len_app, len_e, len_cs, List.length_cons, List.length_nil] at hsum ⊢; omega
            case h3 => refine (vg_same ?_).symm.trans hvg; walk_at "vg side"
          | rename ((width : Int) < _) => hw9
            refine WEnd.intro (nx := (D, o4) :: (li, _) :: rest) F4 (news_tl N4) (Nat.lt_succ_self _) ?hm ⟨_, _, indent ++ x, _, _, _, _, S.cps.toList ++ [44], rfl, rfl, .nil, fun y hy => hgr y (.tail _ hy), D4, ?h1, hi11, ?h2, ?h3⟩
            case hm => walk_at "mine keep"
            case h1 => simp only [cps_app, cps_nl, cps_cm, cps_e, List.append_assoc, List.cons_append, List.nil_append]
            case h2 => simp only [len_app, len_e, len_cm, len_nl, List.length_cons, List.length_nil] at hsum ⊢; omega
            case h3 => refine (vg_wide ?_).symm.trans hvg; walk_at "vg side"
      | cons y ty hr' =>
        have hvl6 := hvl
        rw [List.length_cons] at hvl6
        k_steps
        all_goals ((try dsimp only); refine Hold.out (gk_set (by k_asm) (by k_asm) (by k_updF) (by assumption) ?_); intro h4 o4 F4 N4 D4; dsimp only; k_steps)
        all_goals (try (rename comma = _ => hct; subst hct))
        all_goals (try (rename ntc = _ => hnt; subst hnt))
        all_goals first
          | rename ¬ ((width : Int) < _) => hw9
            refine WEnd.intro (nx := (D, o4) :: (li, _) :: rest) F4 (news_tl N4) (Nat.lt_succ_self _) ?hm ⟨_, _, cur ++ Str.ofString ", " ++ x, _, _, _, _, p, rfl, rfl, .cons y ty hr', fun z hz => hgr z (.tail _ hz), D4, ?h1, hq10, ?h2, ?h3⟩
            case hm => walk_at "mine keep"
            case h1 => simp only [cps_app, hcps, cps_cs, cps_e, List.append_assoc, List.cons_append, List.nil_append]
            case h2 => simp only [len_app, len_e, len_cs, List.length_cons, List.length_nil] at hsum ⊢; omega
            case h3 => refine (vg_same ?_).symm.trans hvg; walk_at "vg side"
          | rename ((width : Int) < _) => hw9
            refine WEnd.intro (nx := (D, o4) :: (li, _) :: rest) F4 (news_tl N4) (Nat.lt_succ_self _) ?hm ⟨_, _, indent ++ x, _, _, _, _, S.cps.toList ++ [44], rfl, rfl, .cons y ty hr', fun z hz => hgr z (.tail _ hz), D4, ?h1, hi11, ?h2, ?h3⟩
            case hm => walk_at "mine keep"
            case h1 => simp only [cps_app, cps_nl, cps_cm, cps_e, List.append_assoc, List.cons_append, List.nil_append]
            case h2 => simp only [len_app, len_e, len_cm, len_nl, List.length_cons, List.length_nil] at hsum ⊢; omega
            case h3 => refine (vg_wide ?_).symm.trans hvg; walk_at "vg side"
end Mine
namespace Mine
local macro_rules | `(tactic| walk_at "mine nothing") => `(tactic| skip)
local macro_rules | `(tactic| walk_at "mine nothing") => `(tactic| skip)
local macro_rules | `(tactic| walk_at "mine nothing") => `(tactic| skip)
local macro_rules | `(tactic| walk_at "mine nothing") => `(tactic| skip)
local macro_rules | `(tactic| walk_at "mine nothing") => `(tactic| skip)
local macro_rules | `(tactic| walk_at "mine nothing") => `(tactic| skip)
local macro_rules | `(tactic| walk_at "mine nothing") => `(tactic| skip)
local macro_rules | `(tactic| walk_at "mine nothing") => `(tactic| skip)
local macro_rules | `(tactic| walk_at "mine nothing") => `(tactic| skip)
local macro_rules | `(tactic| walk_at "mine nothing") => `(tactic| skip)
local macro_rules | `(tactic| walk_at "mine nothing") => `(tactic| skip)
local macro_rules | `(tactic| units_room) => `(tactic| (have hcL9 := cLine_is; (try simp only [units_in1, units_deeper, Around.mark_units, units_caller] at *); (try dsimp only [ktrTop] at *); omega))
local macro_rules | `(tactic| k_all) => `(tactic| assumption)
local macro_rules | `(tactic| walk_at "eval Name") => `(tactic| (k_here; (with_reducible show wpAny _ _ (eval _ (envOf _ _ _ _ _)) _ _ _); k_dflt (refine' ld ?k1 ?k2 ?_; (case k1 => k_asm); (case k2 => assumption); k_whole)))
local macro_rules | `(tactic| walk_at "mine enter") => `(tactic| ((refine wpAny_noRaise ?_); (refine wpAny_call ?_); (refine' code_def ?k1 ?k2 ?k3 ?k4 ?k5 ?kA ?kF ?kK ?k6 ?k7 ?k8 ?k9 ?kB ?_ ?c2 ?c3 ?c4 ?c5; (case kA => exact rfl); (case kF => exact rfl); (case kK => assumption); (case k1 => k_asm); (case k2 => k_asm); (case k3 => k_asm); (case k4 => k_asm); (case k5 => k_asm); (case k6 => k_is); (case k7 => k_is); (case k8 => ktr_room); (case k9 => first | exact BindsTo.of_eq rfl | exact binds_K (by k_in) rfl (by k_is) rfl rfl rfl); (case c5 => decide); (case kB => exact locs rfl); (case c2 => exact rfl); (case c3 => exact rfl); (case c4 => exact rfl); k_whole; intro g' L' h' FG' F' N' B' X' T'; (refine wpAny_noRaise ?_); (try dsimp only); (try k_lift B'); (try k_fold))))
local macro_rules | `(tactic| walk_at "eval Name") => `(tactic| (k_here; (with_reducible show wpAny _ _ (eval _ (envOf _ _ _ _ _)) _ _ _); (with_reducible rename Fr _ _ _ _ => kF); k_dflt (refine' name_B kF ?k1 ?k2 ?k3 ?k4 ?k5 ?_; (case k1 => k_asm); (case k2 => k_asm); (case k3 => k_is); (case k4 => boot_by_name); (case k5 => decide); k_whole)))
local macro_rules | `(tactic| walk_at "eval Name") => `(tactic| (k_here; (with_reducible show wpAny _ _ (eval _ (compEnvC _ _ _ _)) _ _ _); (with_reducible rename Fr _ _ _ _ => kF); k_dflt (refine' LCgL.ld_built kF ?k1 ?k2 ?k3 ?k4 ?k5 ?_; (case k1 => k_asm); (case k2 => k_asm); (case k3 => k_is); (case k4 => boot_by_name); (case k5 => decide); k_whole)))
local macro_rules | `(tactic| walk_at "eval Name") => `(tactic| (k_here; (with_reducible show wpAny _ _ (eval _ (compEnvC _ _ _ _)) _ _ _); k_dflt (refine' LCgL.ld_own ?k1 ?k2 ?k3 ?k4 ?_; (case k1 => k_asm); (case k2 => k_mem); (case k3 => k_asm); (case k4 => k_asm); k_whole)))
local macro_rules | `(tactic| walk_at "exec For Name Name cons nil") => `(tactic| refine Hold.go ?_)
local macro_rules | `(tactic| walk_at "exec For Name Call cons nil") => `(tactic| refine Hold.go ?_)
local macro_rules | `(tactic| walk_at "eval ListComp") => `(tactic| refine Hold.go ?_)
local macro_rules | `(tactic| walk_at "exec While") => `(tactic| refine Hold.go ?_)
local macro_rules | `(tactic| walk_at "pyIter ref") => `(tactic| ((with_reducible show wpAny _ _ (pyIter (Value.ref _)) (fun it s₂ => LoopAtV _ _ _ _ _ _ _ _ _ it s₂) _ _); refine Hold.go ?_))
local macro_rules | `(tactic| walk_at "execs nil") => `(tactic| refine wpAny_execs_nil ?_)
local macro_rules | `(tactic| walk_at "mine keep") => `(tactic| first | with_reducible exact over_keep | with_reducible exact fun _ _ => rfl | ((with_reducible refine if_keep (by simp only [List.mem_cons, eq_self, true_or, or_true]) ?_); walk_at "mine keep") | ((with_reducible refine over_sub ?ov1 ?ov2); (case ov1 => k_allIn); (case ov2 => walk_at "mine keep")))
local macro_rules | `(tactic| walk_at "call ref") => `(tactic| refine Hold.go ?_)
local macro_rules | `(tactic| walk_at "mine more") => `(tactic| ((refine wpAny_noRaise ?_); (refine wpAny_call ?_); (refine' enter_more ?k1 ?k2 ?k3 ?k4 ?k5 ?kA ?kF ?kK ?k6 ?k7 ?k8 ?kX ?kM ?kN ?kR ?kP ?kT ?kB ?_ ?c2 ?c3 ?c4 ?c5; (case kA => exact rfl); (case kF => exact rfl); (case kK => first | assumption | exact rfl); (case k1 => k_asm); (case k2 => k_asm); (case k3 => k_asm); (case k4 => k_asm); (case k5 => k_asm); (case k6 => k_is); (case k7 => k_is); (case k8 => ktr_room); (case kX => kp_lit); (case kM => exact rfl); (case kN => exact rfl); (case kR => exact rfl); (case kP => exact rfl); (case kT => exact fun _ => rfl); (case kB => exact fun _ => locs rfl); (case c5 => decide); (case c2 => exact rfl); (case c3 => exact rfl); (case c4 => exact rfl); k_whole; intro D' o' g' L' h' tk' l1 lo' hs' FG' F' N' B' X' T'; (refine wpAny_noRaise ?_); (try k_lt l1); (try dsimp only); (try k_lift B'); (try k_fold))))
local macro_rules | `(tactic| walk_at "subscriptTail") => `(tactic| (k_here; (with_reducible show wpAny _ _ (subscriptTail _ _ (Value.ref _) (Value.str _ _)) _ _ _); k_dflt (refine' kw_item ?k1 ?k2 ?k3 ?k4 ?_; (case k1 => k_asm); (case k2 => k_mem); (case k3 => k_asm); (case k4 => with_reducible first | exact gk_statement | exact gk_imports | exact gk_indent | exact gk_length | exact gk_comments | exact gk_sep | exact gk_prefix | exact gk_comma | exact gk_remove); k_whole; (try dsimp only))))
local macro_rules | `(tactic| walk_at "getItem ref str") => `(tactic| (k_here; k_dflt (refine' kw_get ?k1 ?k2 ?k3 ?k4 ?_; (case k1 => k_asm); (case k2 => k_mem); (case k3 => k_asm); (case k4 => with_reducible first | exact gk_statement | exact gk_imports | exact gk_indent | exact gk_length | exact gk_comments | exact gk_sep | exact gk_prefix | exact gk_comma | exact gk_remove); k_whole; (try dsimp only))))
local macro_rules | `(tactic| walk_at "truthy ref") => `(tactic| (k_here; k_dflt (first | (refine' truthy_cons ?k1 ?k2 ?k3 ?_; (case k1 => k_asm); (case k2 => k_mem); (case k3 => omega); k_whole) | (refine' truthy_nil ?k1 ?k2 ?_; (case k1 => k_asm); (case k2 => k_mem); k_whole))))
local macro_rules | `(tactic| walk_at "callWith ref") => `(tactic| (k_here; (with_reducible show wpAny _ _ (callWith _ (Value.ref _) _ (backTo _ (starEach [] _)) (backToKw _ (keywordEach (_ :: _) _))) _ _ _); k_dflt ((with_reducible refine' callWith_KW0 ?k1 ?k2 ?k3 ?_ ?k4); (case k1 => k_asm); (case k2 => k_is); (case k3 => exact rfl); (case k4 => exact rfl); k_whole)))
theorem reset8 : True := by (w_top off; trivial)
local macro_rules | `(tactic| walk_at "callWith ref") => `(tactic| refine Hold.go ?_)
theorem vg_len {ind : Str} {width : Nat} {comma ntc : Bool} (hi : ind.length ≤ 5) : ∀ {r : List Str} {S cur : Str}, (∀ x ∈ r, GoodName x) → (vg ind width comma ntc S cur r).length ≤ S.length + 25 * r.length
  | [], S, cur, _ => by simp [vg]
  | x :: r, S, cur, h => by
    have hx := (h x List.mem_cons_self).2.1
    have hr : ∀ y ∈ r, GoodName y := fun y hy => h y (.tail _ hy)
    rw [vg]
    refine iteInduction (motive := fun z : Str => z.length ≤ S.length + 25 * (x :: r).length) (fun _ => ?_) (fun _ => ?_)
    · refine Nat.le_trans (vg_len (r := r) hi hr) ?_
      simp only [len_app, len_e, len_cm, len_nl, List.length_cons]
      omega
    · refine Nat.le_trans (vg_len (r := r) hi hr) ?_
      simp only [len_app, len_e, len_cs, List.length_cons]
      omega
theorem vgEnd_len {comma : Bool} {S : Str} : (vgEnd comma S).length ≤ S.length + 1 := by
  unfold vgEnd
  split
  · rw [len_app, len_cm]; exact Nat.le_refl _
  · omega
theorem gk_nodup {vst vli vws vind vwid vlc vsep vpre vcom vrem v : Value} : (((Str.ofString "need_trailing_char", v) :: gkvs vst vli vws vind vwid vlc vsep vpre vcom vrem).map (·.1)).Nodup := by
  show List.Nodup [Str.ofString "need_trailing_char", Str.ofString "statement", Str.ofString "imports", Str.ofString "white_space", Str.ofString "indent", Str.ofString "line_length", Str.ofString "comments", Str.ofString "line_separator", Str.ofString "comment_prefix", Str.ofString "include_trailing_comma", Str.ofString "remove_comments"]
  decide +kernel
theorem grid_spec {w : World} {loose : List Str} {mean : ExcName → Option Value} {mg mb : Str → Option Value} {A₀ : Around} {base h₀ : Heap} {dp un : Nat} {gd : Option (List Code)} {cn : Str} {cs : Scope} {a : Addr} {ccd : Value} {cl : List (Str × Addr)} {outer : List Env} {L : Addr}
  {m : Str → Option Value} {s : Shared} {li lc : Addr} {nli nlc : Nat} {nvs cvs : List Value} {names : List Str} {x0 indent st cm : Str} {vws : Value} {tx0 ti tw t1 t2 t3 : Tok} {width : Nat} {comma : Bool} {rest : List (Addr × Obj)} {Q E : Value → Shared → Prop}
  (B : Below A₀ base outer h₀) (F : Fr h₀ L s.heap m) (X : (hd.heap_39 w.params).In h₀)
  (N : News h₀ L s.heap ((li, listOf (.str x0 tx0 :: nvs).toArray nli) :: (lc, listOf cvs.toArray nlc) :: rest))
  (T : Top hd.view_39 loose mean mg mb h₀) (hke : cs.kind = .function)
  (hroom : dp + 30 < recursionLimit) (hun : un + 400 < cLine)
  (hS : StrsAre nvs names) (hlen : names.length ≤ 10) (hg0 : GoodName x0) (hg : ∀ x ∈ names, GoodName x) (hind : indent.length ≤ 5) (hw : width ≤ 100)
  (hc : CmOk cvs cm) (hst : st.length ≤ 20) (hi10 : 10 ∉ indent.cps.toList) (hrc : ∀ p ∈ rest, p.1 ≠ lc ∧ p.1 ≠ li) (hne : li ≠ lc)
  (ret : ∀ t h' tk', Fr h₀ L h' m → News h₀ L h' rest → Q (.str (vgEnd comma (vg indent width comma true (st ++ (cm ++ Str.ofString "\n" ++ indent ++ x0)) (indent ++ x0) names) ++ Str.ofString ")") t) { s with heap := h', toks := tk' }) :
  wpAny (model Challenge.rw_fj5009_01.row.prog w) (ktrTop dp un gd cn cs L a ccd cl outer) (call (.ref 43) []
    (gkvs (.str st t1) (.ref li) vws (.str indent ti) (.int width tw) (.ref lc) (.str (Str.ofString "\n") t2) (.str (Str.ofString "  #") t3) (.bool comma) (.bool false))) Q E s := by
  revert X; k_fill; intro X
  delta gkvs
  walk_at "mine more"
  rename Obj.IsDictOf _ _ _ => hs9
  rename li < _ ∧ _ => l1
  replace hs9 : Obj.IsDictOf _ _ (gkvs (.str st t1) (.ref li) vws (.str indent ti) (.int width tw) (.ref lc) (.str (Str.ofString "\n") t2) (.str (Str.ofString "  #") t3) (.bool comma) (.bool false)) := hs9
  k_steps
  rename (_ == sysModules) = false => hDS
  rename Below (ktrTop dp un gd cn cs L a ccd cl outer) _ _ _ => B9
  rename Top _ _ _ _ _ _ => T9
  rename Fr _ _ _ (fun _ => _) => F9
  refine Hold.out ?_
  with_reducible refine' call_kws F9 ?N ?X ?ck ?hm hs9 ?hn ?hz hDS ?hlim ?hx ?hh
  case N => k_asm
  case X => k_asm
  case ck => k_is
  case hm => k_mem
  case hn => exact gk_nodup
  case hz => exact gk_len
  case hlim => exact T9.nolimit
  case hx =>
    intro s' Q' F' q
    refine ld F' (by rfl) ?_
    exact q
  case hh =>
    intro h5 tk5 F5 N5
    refine vgc_spec (by k_asm) F5 (by k_asm) (news_tl N5) (by k_asm) rfl (by ktr_room) (by ktr_units) hS hlen hg0 hg hind hw hc hst hi10 hrc hne ?_
    intro t6 h6 tk6 F6 N6
    have hvl := vg_len (width := width) (comma := comma) (ntc := true) hind hg (S := st ++ (cm ++ Str.ofString "\n" ++ indent ++ x0)) (cur := indent ++ x0)
    have hve := vgEnd_len (comma := comma) (S := vg indent width comma true (st ++ (cm ++ Str.ofString "\n" ++ indent ++ x0)) (indent ++ x0) names)
    have hcl := hc.len.2.1
    have hx0 := hg0.2.1
    simp only [len_app, len_nl] at hvl
    generalize vgEnd comma (vg indent width comma true (st ++ (cm ++ Str.ofString "\n" ++ indent ++ x0)) (indent ++ x0) names) = R at ret hve ⊢
    have hR : R.length ≤ 600 := by omega
    k_steps
    exact ret _ _ _ (by k_asm) (by k_asm)
theorem grouped_spec {w : World} {loose : List Str} {mean : ExcName → Option Value} {mg mb : Str → Option Value} {A₀ : Around} {base h₀ : Heap} {dp un : Nat} {gd : Option (List Code)} {cn : Str} {cs : Scope} {a : Addr} {ccd : Value} {cl : List (Str × Addr)} {outer : List Env} {L : Addr}
  {m : Str → Option Value} {s : Shared} {li lc : Addr} {nli nlc : Nat} {nvs cvs : List Value} {names : List Str} {x0 indent st cm : Str} {vws : Value} {tx0 ti tw t1 t2 t3 : Tok} {width : Nat} {comma : Bool} {rest : List (Addr × Obj)} {Q E : Value → Shared → Prop}
  (B : Below A₀ base outer h₀) (F : Fr h₀ L s.heap m) (X : (hd.heap_39 w.params).In h₀)
  (N : News h₀ L s.heap ((li, listOf (.str x0 tx0 :: nvs).toArray nli) :: (lc, listOf cvs.toArray nlc) :: rest))
  (T : Top hd.view_39 loose mean mg mb h₀) (hke : cs.kind = .function)
  (hroom : dp + 30 < recursionLimit) (hun : un + 400 < cLine)
  (hS : StrsAre nvs names) (hlen : names.length ≤ 10) (hg0 : GoodName x0) (hg : ∀ x ∈ names, GoodName x) (hind : indent.length ≤ 5) (hw : width ≤ 100)
  (hc : CmOk cvs cm) (hst : st.length ≤ 20) (hi10 : 10 ∉ indent.cps.toList) (hrc : ∀ p ∈ rest, p.1 ≠ lc ∧ p.1 ≠ li) (hne : li ≠ lc)
  (ret : ∀ t h' tk', Fr h₀ L h' m → News h₀ L h' rest → Q (.str (vgEnd comma (vg indent width comma false (st ++ (cm ++ Str.ofString "\n" ++ indent ++ x0)) (indent ++ x0) names) ++ Str.ofString "\n" ++ Str.ofString ")") t) { s with heap := h', toks := tk' }) :
  wpAny (model Challenge.rw_fj5009_01.row.prog w) (ktrTop dp un gd cn cs L a ccd cl outer) (call (.ref 50) []
    (gkvs (.str st t1) (.ref li) vws (.str indent ti) (.int width tw) (.ref lc) (.str (Str.ofString "\n") t2) (.str (Str.ofString "  #") t3) (.bool comma) (.bool false))) Q E s := by
  revert X; k_fill; intro X
  delta gkvs
  walk_at "mine more"
  rename Obj.IsDictOf _ _ _ => hs9
  rename li < _ ∧ _ => l1
  replace hs9 : Obj.IsDictOf _ _ (gkvs (.str st t1) (.ref li) vws (.str indent ti) (.int width tw) (.ref lc) (.str (Str.ofString "\n") t2) (.str (Str.ofString "  #") t3) (.bool comma) (.bool false)) := hs9
  k_steps
  rename (_ == sysModules) = false => hDS
  rename Below (ktrTop dp un gd cn cs L a ccd cl outer) _ _ _ => B9
  rename Top _ _ _ _ _ _ => T9
  rename Fr _ _ _ (fun _ => _) => F9
  refine Hold.out ?_
  with_reducible refine' call_kws F9 ?N ?X ?ck ?hm hs9 ?hn ?hz hDS ?hlim ?hx ?hh
  case N => k_asm
  case X => k_asm
  case ck => k_is
  case hm => k_mem
  case hn => exact gk_nodup
  case hz => exact gk_len
  case hlim => exact T9.nolimit
  case hx =>
    intro s' Q' F' q
    refine ld F' (by rfl) ?_
    exact q
  case hh =>
    intro h5 tk5 F5 N5
    refine vgc_spec (by k_asm) F5 (by k_asm) (news_rotL N5) (by k_asm) rfl (by ktr_room) (by ktr_units) hS hlen hg0 hg hind hw hc hst hi10 ?_ hne ?_
    · intro p hp
      rcases List.mem_cons.mp hp with rfl | hp
      · exact ⟨Nat.ne_of_gt l1.2.1, Nat.ne_of_gt l1.1⟩
      · exact hrc p hp
    intro t6 h6 tk6 F6 N6
    clear N5
    have hvl := vg_len (width := width) (comma := comma) (ntc := false) hind hg (S := st ++ (cm ++ Str.ofString "\n" ++ indent ++ x0)) (cur := indent ++ x0)
    have hve := vgEnd_len (comma := comma) (S := vg indent width comma false (st ++ (cm ++ Str.ofString "\n" ++ indent ++ x0)) (indent ++ x0) names)
    have hcl := hc.len.2.1
    have hx0 := hg0.2.1
    simp only [len_app, len_nl] at hvl
    generalize vgEnd comma (vg indent width comma false (st ++ (cm ++ Str.ofString "\n" ++ indent ++ x0)) (indent ++ x0) names) = R at ret hve ⊢
    have hR : R.length ≤ 600 := by omega
    k_steps
    exact ret _ _ _ (by k_asm) (news_tl (by k_asm))
end Mine
namespace Mine
local macro_rules | `(tactic| walk_at "mine nothing") => `(tactic| skip)
local macro_rules | `(tactic| walk_at "mine nothing") => `(tactic| skip)
local macro_rules | `(tactic| walk_at "mine nothing") => `(tactic| skip)
local macro_rules | `(tactic| walk_at "mine nothing") => `(tactic| skip)
local macro_rules | `(tactic| walk_at "mine nothing") => `(tactic| skip)
local macro_rules | `(tactic| walk_at "mine nothing") => `(tactic| skip)
local macro_rules | `(tactic| walk_at "mine nothing") => `(tactic| skip)
local macro_rules | `(tactic| walk_at "mine nothing") => `(tactic| skip)
local macro_rules | `(tactic| walk_at "mine nothing") => `(tactic| skip)
local macro_rules | `(tactic| walk_at "mine nothing") => `(tactic| skip)
local macro_rules | `(tactic| walk_at "mine nothing") => `(tactic| skip)
local macro_rules | `(tactic| walk_at "mine nothing") => `(tactic| skip)
local macro_rules | `(tactic| walk_at "mine nothing") => `(tactic| skip)
local macro_rules | `(tactic| units_room) => `(tactic| (have hcL9 := cLine_is; (try simp only [units_in1, units_deeper, Around.mark_units, units_caller] at *); (try dsimp only [ktrTop] at *); omega))
local macro_rules | `(tactic| k_all) => `(tactic| assumption)
local macro_rules | `(tactic| walk_at "eval Name") => `(tactic| (k_here; (with_reducible show wpAny _ _ (eval _ (envOf _ _ _ _ _)) _ _ _); k_dflt (refine' ld ?k1 ?k2 ?_; (case k1 => k_asm); (case k2 => assumption); k_whole)))
local macro_rules | `(tactic| walk_at "mine enter") => `(tactic| ((refine wpAny_noRaise ?_); (refine wpAny_call ?_); (refine' code_def ?k1 ?k2 ?k3 ?k4 ?k5 ?kA ?kF ?kK ?k6 ?k7 ?k8 ?k9 ?kB ?_ ?c2 ?c3 ?c4 ?c5; (case kA => exact rfl); (case kF => exact rfl); (case kK => assumption); (case k1 => k_asm); (case k2 => k_asm); (case k3 => k_asm); (case k4 => k_asm); (case k5 => k_asm); (case k6 => k_is); (case k7 => k_is); (case k8 => ktr_room); (case k9 => first | exact BindsTo.of_eq rfl | exact binds_K (by k_in) rfl (by k_is) rfl rfl rfl); (case c5 => decide); (case kB => exact locs rfl); (case c2 => exact rfl); (case c3 => exact rfl); (case c4 => exact rfl); k_whole; intro g' L' h' FG' F' N' B' X' T'; (refine wpAny_noRaise ?_); (try dsimp only); (try k_lift B'); (try k_fold))))
local macro_rules | `(tactic| walk_at "eval Name") => `(tactic| (k_here; (with_reducible show wpAny _ _ (eval _ (envOf _ _ _ _ _)) _ _ _); (with_reducible rename Fr _ _ _ _ => kF); k_dflt (refine' name_B kF ?k1 ?k2 ?k3 ?k4 ?k5 ?_; (case k1 => k_asm); (case k2 => k_asm); (case k3 => k_is); (case k4 => boot_by_name); (case k5 => decide); k_whole)))
local macro_rules | `(tactic| walk_at "eval Name") => `(tactic| (k_here; (with_reducible show wpAny _ _ (eval _ (compEnvC _ _ _ _)) _ _ _); (with_reducible rename Fr _ _ _ _ => kF); k_dflt (refine' LCgL.ld_built kF ?k1 ?k2 ?k3 ?k4 ?k5 ?_; (case k1 => k_asm); (case k2 => k_asm); (case k3 => k_is); (case k4 => boot_by_name); (case k5 => decide); k_whole)))
local macro_rules | `(tactic| walk_at "eval Name") => `(tactic| (k_here; (with_reducible show wpAny _ _ (eval _ (compEnvC _ _ _ _)) _ _ _); k_dflt (refine' LCgL.ld_own ?k1 ?k2 ?k3 ?k4 ?_; (case k1 => k_asm); (case k2 => k_mem); (case k3 => k_asm); (case k4 => k_asm); k_whole)))
local macro_rules | `(tactic| walk_at "exec For Name Name cons nil") => `(tactic| refine Hold.go ?_)
local macro_rules | `(tactic| walk_at "exec For Name Call cons nil") => `(tactic| refine Hold.go ?_)
local macro_rules | `(tactic| walk_at "eval ListComp") => `(tactic| refine Hold.go ?_)
local macro_rules | `(tactic| walk_at "exec While") => `(tactic| refine Hold.go ?_)
local macro_rules | `(tactic| walk_at "pyIter ref") => `(tactic| ((with_reducible show wpAny _ _ (pyIter (Value.ref _)) (fun it s₂ => LoopAtV _ _ _ _ _ _ _ _ _ it s₂) _ _); refine Hold.go ?_))
local macro_rules | `(tactic| walk_at "execs nil") => `(tactic| refine wpAny_execs_nil ?_)
local macro_rules | `(tactic| walk_at "mine keep") => `(tactic| first | with_reducible exact over_keep | with_reducible exact fun _ _ => rfl | ((with_reducible refine if_keep (by simp only [List.mem_cons, eq_self, true_or, or_true]) ?_); walk_at "mine keep") | ((with_reducible refine over_sub ?ov1 ?ov2); (case ov1 => k_allIn); (case ov2 => walk_at "mine keep")))
local macro_rules | `(tactic| walk_at "call ref") => `(tactic| refine Hold.go ?_)
local macro_rules | `(tactic| walk_at "mine more") => `(tactic| ((refine wpAny_noRaise ?_); (refine wpAny_call ?_); (refine' enter_more ?k1 ?k2 ?k3 ?k4 ?k5 ?kA ?kF ?kK ?k6 ?k7 ?k8 ?kX ?kM ?kN ?kR ?kP ?kT ?kB ?_ ?c2 ?c3 ?c4 ?c5; (case kA => exact rfl); (case kF => exact rfl); (case kK => first | assumption | exact rfl); (case k1 => k_asm); (case k2 => k_asm); (case k3 => k_asm); (case k4 => k_asm); (case k5 => k_asm); (case k6 => k_is); (case k7 => k_is); (case k8 => ktr_room); (case kX => kp_lit); (case kM => exact rfl); (case kN => exact rfl); (case kR => exact rfl); (case kP => exact rfl); (case kT => exact fun _ => rfl); (case kB => exact fun _ => locs rfl); (case c5 => decide); (case c2 => exact rfl); (case c3 => exact rfl); (case c4 => exact rfl); k_whole; intro D' o' g' L' h' tk' l1 lo' hs' FG' F' N' B' X' T'; (refine wpAny_noRaise ?_); (try k_lt l1); (try dsimp only); (try k_lift B'); (try k_fold))))
local macro_rules | `(tactic| walk_at "subscriptTail") => `(tactic| (k_here; (with_reducible show wpAny _ _ (subscriptTail _ _ (Value.ref _) (Value.str _ _)) _ _ _); k_dflt (refine' kw_item ?k1 ?k2 ?k3 ?k4 ?_; (case k1 => k_asm); (case k2 => k_mem); (case k3 => k_asm); (case k4 => with_reducible first | exact gk_statement | exact gk_imports | exact gk_indent | exact gk_length | exact gk_comments | exact gk_sep | exact gk_prefix | exact gk_comma | exact gk_remove); k_whole; (try dsimp only))))
local macro_rules | `(tactic| walk_at "getItem ref str") => `(tactic| (k_here; k_dflt (refine' kw_get ?k1 ?k2 ?k3 ?k4 ?_; (case k1 => k_asm); (case k2 => k_mem); (case k3 => k_asm); (case k4 => with_reducible first | exact gk_statement | exact gk_imports | exact gk_indent | exact gk_length | exact gk_comments | exact gk_sep | exact gk_prefix | exact gk_comma | exact gk_remove); k_whole; (try dsimp only))))
local macro_rules | `(tactic| walk_at "truthy ref") => `(tactic| (k_here; k_dflt (first | (refine' truthy_cons ?k1 ?k2 ?k3 ?_; (case k1 => k_asm); (case k2 => k_mem); (case k3 => omega); k_whole) | (refine' truthy_nil ?k1 ?k2 ?_; (case k1 => k_asm); (case k2 => k_mem); k_whole))))
local macro_rules | `(tactic| walk_at "callWith ref") => `(tactic| (k_here; (with_reducible show wpAny _ _ (callWith _ (Value.ref _) _ (backTo _ (starEach [] _)) (backToKw _ (keywordEach (_ :: _) _))) _ _ _); k_dflt ((with_reducible refine' callWith_KW0 ?k1 ?k2 ?k3 ?_ ?k4); (case k1 => k_asm); (case k2 => k_is); (case k3 => exact rfl); (case k4 => exact rfl); k_whole)))
theorem reset9 : True := by (w_top off; trivial)
theorem call_kw {M : Model} {A : Around} {E : Value → Shared → Prop} {s : Shared} {f : Value} {kws kws' : List (Str × Value)} {Q : Value → Shared → Prop} (e : kws = kws') (h : wpAny M A (call f [] kws') Q E s) : wpAny M A (call f [] kws) Q E s := e ▸ h
theorem lgrid_spec {w : World} {loose : List Str} {mean : ExcName → Option Value} {mg mb : Str → Option Value} {A₀ : Around} {base h₀ : Heap} {dp un : Nat} {gd : Option (List Code)} {cn : Str} {cs : Scope} {a : Addr} {ccd : Value} {cl : List (Str × Addr)} {outer : List Env} {L : Addr}
  {m : Str → Option Value} {s : Shared} {l lc : Addr} {nl nlc : Nat} {nvs cvs : List Value} {names : List Str} {x0 indent cm : Str} {tx0 ti tw : Tok} {width : Nat} {comma : Bool} {rest : List (Addr × Obj)} {Q E : Value → Shared → Prop}
  (B : Below A₀ base outer h₀) (F : Fr h₀ L s.heap m) (X : (hd.heap_39 w.params).In h₀)
  (N : News h₀ L s.heap ((l, listOf (.str x0 tx0 :: nvs).toArray nl) :: (lc, listOf cvs.toArray nlc) :: rest))
  (T : Top hd.view_39 loose mean mg mb h₀) (hke : cs.kind = .function)
  (hroom : dp + 40 < recursionLimit) (hun : un + 500 < cLine)
  (hS : StrsAre nvs names) (hlen : names.length ≤ 10) (hg0 : GoodName x0) (hg : ∀ x ∈ names, GoodName x) (hind : indent.length ≤ 5) (hw : width ≤ 100)
  (hc : CmOk cvs cm) (hi10 : 10 ∉ indent.cps.toList)
  (ret : ∀ t h' tk', Fr h₀ L h' m → News h₀ L h' ((l, listOf (.str x0 tx0 :: nvs).toArray nl) :: (lc, listOf cvs.toArray nlc) :: rest) →
    Q (.str (vgEnd comma (vg indent width comma true (Str.ofString "from m \x69mport " ++ (cm ++ Str.ofString "\n" ++ indent ++ x0)) (indent ++ x0) names) ++ Str.ofString ")") t) { s with heap := h', toks := tk' }) :
  wpAny (model Challenge.rw_fj5009_01.row.prog w) (ktrTop dp un gd cn cs L a ccd cl outer) (call (.ref 95) [.ref l, .str indent ti, .int width tw, .ref lc, .bool comma]) Q E s := by
  revert X; k_fill; intro X
  have hnv : nvs.length ≤ 10 := by rw [hS.length]; exact hlen
  have hc1 := hc.len.1
  walk_at "mine enter"
  k_steps
  rename News _ _ _ (_ :: _ :: _ :: _ :: _) => N9
  obtain ⟨c9, ec⟩ := nm_hd N9
  subst ec
  obtain ⟨i9, ei⟩ := nm_hd (news_tl N9)
  subst ei
  rename l < _ ∧ lc < _ ∧ _ => li9
  rename _ < _ ∧ l < _ ∧ lc < _ ∧ _ => lc9
  refine Hold.out (call_kw (kws' := gkvs _ _ _ _ _ _ _ _ _ _) rfl ?_)
  refine' grid_spec ?B ?F ?X ?N ?T ?hke ?hroom ?hun hS hlen hg0 hg hind hw hc ?hst hi10 ?hrc ?hne ?hret
  case B => k_asm
  case F => k_asm
  case X => k_asm
  case N => exact news_swap N9
  case T => k_asm
  case hke => rfl
  case hroom => ktr_room
  case hun => ktr_units
  case hst => decide
  case hrc =>
    intro p hp
    rcases List.mem_cons.mp hp with rfl | hp
    · exact ⟨Nat.ne_of_lt lc9.2.1, Nat.ne_of_lt li9.1⟩
    · rcases List.mem_cons.mp hp with rfl | hp
      · exact ⟨Nat.ne_of_lt lc9.2.2.1, Nat.ne_of_lt li9.2.1⟩
      · exact ⟨Nat.ne_of_lt (ktn_ltOf lc9.2.2.2 p hp), Nat.ne_of_lt (ktn_ltOf li9.2.2 p hp)⟩
  case hne => exact Nat.ne_of_lt lc9.1
  case hret =>
    intro t6 h6 tk6 F6 N6
    clear N9
    k_steps
    exact ret _ _ _ (by k_asm) (by k_asm)
theorem lgrouped_spec {w : World} {loose : List Str} {mean : ExcName → Option Value} {mg mb : Str → Option Value} {A₀ : Around} {base h₀ : Heap} {dp un : Nat} {gd : Option (List Code)} {cn : Str} {cs : Scope} {a : Addr} {ccd : Value} {cl : List (Str × Addr)} {outer : List Env} {L : Addr}
  {m : Str → Option Value} {s : Shared} {l lc : Addr} {nl nlc : Nat} {nvs cvs : List Value} {names : List Str} {x0 indent cm : Str} {tx0 ti tw : Tok} {width : Nat} {comma : Bool} {rest : List (Addr × Obj)} {Q E : Value → Shared → Prop}
  (B : Below A₀ base outer h₀) (F : Fr h₀ L s.heap m) (X : (hd.heap_39 w.params).In h₀)
  (N : News h₀ L s.heap ((l, listOf (.str x0 tx0 :: nvs).toArray nl) :: (lc, listOf cvs.toArray nlc) :: rest))
  (T : Top hd.view_39 loose mean mg mb h₀) (hke : cs.kind = .function)
  (hroom : dp + 40 < recursionLimit) (hun : un + 500 < cLine)
  (hS : StrsAre nvs names) (hlen : names.length ≤ 10) (hg0 : GoodName x0) (hg : ∀ x ∈ names, GoodName x) (hind : indent.length ≤ 5) (hw : width ≤ 100)
  (hc : CmOk cvs cm) (hi10 : 10 ∉ indent.cps.toList)
  (ret : ∀ t h' tk', Fr h₀ L h' m → News h₀ L h' ((l, listOf (.str x0 tx0 :: nvs).toArray nl) :: (lc, listOf cvs.toArray nlc) :: rest) →
    Q (.str (vgEnd comma (vg indent width comma false (Str.ofString "from m \x69mport " ++ (cm ++ Str.ofString "\n" ++ indent ++ x0)) (indent ++ x0) names) ++ Str.ofString "\n" ++ Str.ofString ")") t) { s with heap := h', toks := tk' }) :
  wpAny (model Challenge.rw_fj5009_01.row.prog w) (ktrTop dp un gd cn cs L a ccd cl outer) (call (.ref 102) [.ref l, .str indent ti, .int width tw, .ref lc, .bool comma]) Q E s := by
  revert X; k_fill; intro X
  have hnv : nvs.length ≤ 10 := by rw [hS.length]; exact hlen
  have hc1 := hc.len.1
  walk_at "mine enter"
  k_steps
  rename News _ _ _ (_ :: _ :: _ :: _ :: _) => N9
  obtain ⟨c9, ec⟩ := nm_hd N9
  subst ec
  obtain ⟨i9, ei⟩ := nm_hd (news_tl N9)
  subst ei
  rename l < _ ∧ lc < _ ∧ _ => li9
  rename _ < _ ∧ l < _ ∧ lc < _ ∧ _ => lc9
  refine Hold.out (call_kw (kws' := gkvs _ _ _ _ _ _ _ _ _ _) rfl ?_)
  refine' grouped_spec ?B ?F ?X ?N ?T ?hke ?hroom ?hun hS hlen hg0 hg hind hw hc ?hst hi10 ?hrc ?hne ?hret
  case B => k_asm
  case F => k_asm
  case X => k_asm
  case N => exact news_swap N9
  case T => k_asm
  case hke => rfl
  case hroom => ktr_room
  case hun => ktr_units
  case hst => decide
  case hrc =>
    intro p hp
    rcases List.mem_cons.mp hp with rfl | hp
    · exact ⟨Nat.ne_of_lt lc9.2.1, Nat.ne_of_lt li9.1⟩
    · rcases List.mem_cons.mp hp with rfl | hp
      · exact ⟨Nat.ne_of_lt lc9.2.2.1, Nat.ne_of_lt li9.2.1⟩
      · exact ⟨Nat.ne_of_lt (ktn_ltOf lc9.2.2.2 p hp), Nat.ne_of_lt (ktn_ltOf li9.2.2 p hp)⟩
  case hne => exact Nat.ne_of_lt lc9.1
  case hret =>
    intro t6 h6 tk6 F6 N6
    clear N9
    k_steps
    exact ret _ _ _ (by k_asm) (by k_asm)
end Mine
namespace Mine
local macro_rules | `(tactic| walk_at "mine nothing") => `(tactic| skip)
local macro_rules | `(tactic| walk_at "mine nothing") => `(tactic| skip)
local macro_rules | `(tactic| walk_at "mine nothing") => `(tactic| skip)
local macro_rules | `(tactic| walk_at "mine nothing") => `(tactic| skip)
local macro_rules | `(tactic| walk_at "mine nothing") => `(tactic| skip)
local macro_rules | `(tactic| walk_at "mine nothing") => `(tactic| skip)
local macro_rules | `(tactic| walk_at "mine nothing") => `(tactic| skip)
local macro_rules | `(tactic| walk_at "mine nothing") => `(tactic| skip)
local macro_rules | `(tactic| walk_at "mine nothing") => `(tactic| skip)
local macro_rules | `(tactic| walk_at "mine nothing") => `(tactic| skip)
local macro_rules | `(tactic| walk_at "mine nothing") => `(tactic| skip)
local macro_rules | `(tactic| walk_at "mine nothing") => `(tactic| skip)
local macro_rules | `(tactic| walk_at "mine nothing") => `(tactic| skip)
local macro_rules | `(tactic| walk_at "mine nothing") => `(tactic| skip)
local macro_rules | `(tactic| units_room) => `(tactic| (have hcL9 := cLine_is; (try simp only [units_in1, units_deeper, Around.mark_units, units_caller] at *); (try dsimp only [ktrTop] at *); omega))
local macro_rules | `(tactic| k_all) => `(tactic| assumption)
local macro_rules | `(tactic| walk_at "eval Name") => `(tactic| (k_here; (with_reducible show wpAny _ _ (eval _ (envOf _ _ _ _ _)) _ _ _); k_dflt (refine' ld ?k1 ?k2 ?_; (case k1 => k_asm); (case k2 => assumption); k_whole)))
local macro_rules | `(tactic| walk_at "mine enter") => `(tactic| ((refine wpAny_noRaise ?_); (refine wpAny_call ?_); (refine' code_def ?k1 ?k2 ?k3 ?k4 ?k5 ?kA ?kF ?kK ?k6 ?k7 ?k8 ?k9 ?kB ?_ ?c2 ?c3 ?c4 ?c5; (case kA => exact rfl); (case kF => exact rfl); (case kK => assumption); (case k1 => k_asm); (case k2 => k_asm); (case k3 => k_asm); (case k4 => k_asm); (case k5 => k_asm); (case k6 => k_is); (case k7 => k_is); (case k8 => ktr_room); (case k9 => first | exact BindsTo.of_eq rfl | exact binds_K (by k_in) rfl (by k_is) rfl rfl rfl); (case c5 => decide); (case kB => exact locs rfl); (case c2 => exact rfl); (case c3 => exact rfl); (case c4 => exact rfl); k_whole; intro g' L' h' FG' F' N' B' X' T'; (refine wpAny_noRaise ?_); (try dsimp only); (try k_lift B'); (try k_fold))))
local macro_rules | `(tactic| walk_at "eval Name") => `(tactic| (k_here; (with_reducible show wpAny _ _ (eval _ (envOf _ _ _ _ _)) _ _ _); (with_reducible rename Fr _ _ _ _ => kF); k_dflt (refine' name_B kF ?k1 ?k2 ?k3 ?k4 ?k5 ?_; (case k1 => k_asm); (case k2 => k_asm); (case k3 => k_is); (case k4 => boot_by_name); (case k5 => decide); k_whole)))
local macro_rules | `(tactic| walk_at "eval Name") => `(tactic| (k_here; (with_reducible show wpAny _ _ (eval _ (compEnvC _ _ _ _)) _ _ _); (with_reducible rename Fr _ _ _ _ => kF); k_dflt (refine' LCgL.ld_built kF ?k1 ?k2 ?k3 ?k4 ?k5 ?_; (case k1 => k_asm); (case k2 => k_asm); (case k3 => k_is); (case k4 => boot_by_name); (case k5 => decide); k_whole)))
local macro_rules | `(tactic| walk_at "eval Name") => `(tactic| (k_here; (with_reducible show wpAny _ _ (eval _ (compEnvC _ _ _ _)) _ _ _); k_dflt (refine' LCgL.ld_own ?k1 ?k2 ?k3 ?k4 ?_; (case k1 => k_asm); (case k2 => k_mem); (case k3 => k_asm); (case k4 => k_asm); k_whole)))
local macro_rules | `(tactic| walk_at "exec For Name Name cons nil") => `(tactic| refine Hold.go ?_)
local macro_rules | `(tactic| walk_at "exec For Name Call cons nil") => `(tactic| refine Hold.go ?_)
local macro_rules | `(tactic| walk_at "eval ListComp") => `(tactic| refine Hold.go ?_)
local macro_rules | `(tactic| walk_at "exec While") => `(tactic| refine Hold.go ?_)
local macro_rules | `(tactic| walk_at "pyIter ref") => `(tactic| ((with_reducible show wpAny _ _ (pyIter (Value.ref _)) (fun it s₂ => LoopAtV _ _ _ _ _ _ _ _ _ it s₂) _ _); refine Hold.go ?_))
local macro_rules | `(tactic| walk_at "execs nil") => `(tactic| refine wpAny_execs_nil ?_)
local macro_rules | `(tactic| walk_at "mine keep") => `(tactic| first | with_reducible exact over_keep | with_reducible exact fun _ _ => rfl | ((with_reducible refine if_keep (by simp only [List.mem_cons, eq_self, true_or, or_true]) ?_); walk_at "mine keep") | ((with_reducible refine over_sub ?ov1 ?ov2); (case ov1 => k_allIn); (case ov2 => walk_at "mine keep")))
local macro_rules | `(tactic| walk_at "call ref") => `(tactic| refine Hold.go ?_)
local macro_rules | `(tactic| walk_at "mine more") => `(tactic| ((refine wpAny_noRaise ?_); (refine wpAny_call ?_); (refine' enter_more ?k1 ?k2 ?k3 ?k4 ?k5 ?kA ?kF ?kK ?k6 ?k7 ?k8 ?kX ?kM ?kN ?kR ?kP ?kT ?kB ?_ ?c2 ?c3 ?c4 ?c5; (case kA => exact rfl); (case kF => exact rfl); (case kK => first | assumption | exact rfl); (case k1 => k_asm); (case k2 => k_asm); (case k3 => k_asm); (case k4 => k_asm); (case k5 => k_asm); (case k6 => k_is); (case k7 => k_is); (case k8 => ktr_room); (case kX => kp_lit); (case kM => exact rfl); (case kN => exact rfl); (case kR => exact rfl); (case kP => exact rfl); (case kT => exact fun _ => rfl); (case kB => exact fun _ => locs rfl); (case c5 => decide); (case c2 => exact rfl); (case c3 => exact rfl); (case c4 => exact rfl); k_whole; intro D' o' g' L' h' tk' l1 lo' hs' FG' F' N' B' X' T'; (refine wpAny_noRaise ?_); (try k_lt l1); (try dsimp only); (try k_lift B'); (try k_fold))))
local macro_rules | `(tactic| walk_at "subscriptTail") => `(tactic| (k_here; (with_reducible show wpAny _ _ (subscriptTail _ _ (Value.ref _) (Value.str _ _)) _ _ _); k_dflt (refine' kw_item ?k1 ?k2 ?k3 ?k4 ?_; (case k1 => k_asm); (case k2 => k_mem); (case k3 => k_asm); (case k4 => with_reducible first | exact gk_statement | exact gk_imports | exact gk_indent | exact gk_length | exact gk_comments | exact gk_sep | exact gk_prefix | exact gk_comma | exact gk_remove); k_whole; (try dsimp only))))
local macro_rules | `(tactic| walk_at "getItem ref str") => `(tactic| (k_here; k_dflt (refine' kw_get ?k1 ?k2 ?k3 ?k4 ?_; (case k1 => k_asm); (case k2 => k_mem); (case k3 => k_asm); (case k4 => with_reducible first | exact gk_statement | exact gk_imports | exact gk_indent | exact gk_length | exact gk_comments | exact gk_sep | exact gk_prefix | exact gk_comma | exact gk_remove); k_whole; (try dsimp only))))
local macro_rules | `(tactic| walk_at "truthy ref") => `(tactic| (k_here; k_dflt (first | (refine' truthy_cons ?k1 ?k2 ?k3 ?_; (case k1 => k_asm); (case k2 => k_mem); (case k3 => omega); k_whole) | (refine' truthy_nil ?k1 ?k2 ?_; (case k1 => k_asm); (case k2 => k_mem); k_whole))))
local macro_rules | `(tactic| walk_at "callWith ref") => `(tactic| (k_here; (with_reducible show wpAny _ _ (callWith _ (Value.ref _) _ (backTo _ (starEach [] _)) (backToKw _ (keywordEach (_ :: _) _))) _ _ _); k_dflt ((with_reducible refine' callWith_KW0 ?k1 ?k2 ?k3 ?_ ?k4); (case k1 => k_asm); (case k2 => k_is); (case k3 => exact rfl); (case k4 => exact rfl); k_whole)))
theorem reset10 : True := by (w_top off; trivial)
local macro_rules | `(tactic| walk_at "callWith ref") => `(tactic| refine Hold.go ?_)
def nkvs (vst vli vlc vsep : Value) : List (Str × Value) :=
  [(Str.ofString "statement", vst), (Str.ofString "imports", vli), (Str.ofString "comments", vlc), (Str.ofString "line_separator", vsep)]
theorem nk_imports {vst vli vlc vsep : Value} : valueAt (nkvs vst vli vlc vsep) (Str.ofString "imports") = some vli := rfl
theorem nk_len {vst vli vlc vsep : Value} : (nkvs vst vli vlc vsep).length ≤ 20 := Nat.le_of_ble_eq_true rfl
theorem nk_nodup {vst vli vlc vsep v : Value} : (((Str.ofString "need_trailing_char", v) :: nkvs vst vli vlc vsep).map (·.1)).Nodup := by
  show List.Nodup [Str.ofString "need_trailing_char", Str.ofString "statement", Str.ofString "imports", Str.ofString "comments", Str.ofString "line_separator"]
  decide +kernel
local macro_rules | `(tactic| walk_at "subscriptTail") => `(tactic| (k_here; (with_reducible show wpAny _ _ (subscriptTail _ _ (Value.ref _) (Value.str _ _)) _ _ _); k_dflt (refine' kw_item ?k1 ?k2 ?k3 ?k4 ?_; (case k1 => k_asm); (case k2 => k_mem); (case k3 => k_asm); (case k4 => with_reducible exact nk_imports); k_whole; (try dsimp only))))
theorem vgc0_spec {w : World} {loose : List Str} {mean : ExcName → Option Value} {mg mb : Str → Option Value} {A₀ : Around} {base h₀ : Heap} {dp un : Nat} {gd : Option (List Code)} {cn : Str} {cs : Scope} {a : Addr} {ccd : Value} {cl : List (Str × Addr)} {outer : List Env} {L : Addr}
  {m : Str → Option Value} {s : Shared} {li : Addr} {nli : Nat} {vlc : Value} {vst vsep : Value} {rest : List (Addr × Obj)} {Q E : Value → Shared → Prop}
  (B : Below A₀ base outer h₀) (F : Fr h₀ L s.heap m) (X : (hd.heap_39 w.params).In h₀)
  (N : News h₀ L s.heap ((li, listOf #[] nli) :: rest))
  (T : Top hd.view_39 loose mean mg mb h₀) (hke : cs.kind = .function)
  (hroom : dp + 20 < recursionLimit) (hun : un + 300 < cLine)
  (ret : ∀ t h' tk', Fr h₀ L h' m → News h₀ L h' rest → Q (.str (Str.ofString "") t) { s with heap := h', toks := tk' }) :
  wpAny (model Challenge.rw_fj5009_01.row.prog w) (ktrTop dp un gd cn cs L a ccd cl outer) (call (.ref 36) [] ((Str.ofString "need_trailing_char", .bool true) ::
    nkvs vst (.ref li) vlc vsep)) Q E s := by
  revert X; k_fill; intro X
  delta nkvs
  walk_at "mine more"
  rename Obj.IsDictOf _ _ _ => hs9
  rename li < _ ∧ _ => l1
  replace hs9 : Obj.IsDictOf _ _ (nkvs vst (.ref li) vlc vsep) := hs9
  k_steps
  exact ret _ _ _ (by k_asm) (news_tl (news_tl (by k_asm)))
theorem none_spec {w : World} {loose : List Str} {mean : ExcName → Option Value} {mg mb : Str → Option Value} {A₀ : Around} {base h₀ : Heap} {dp un : Nat} {gd : Option (List Code)} {cn : Str} {cs : Scope} {a : Addr} {ccd : Value} {cl : List (Str × Addr)} {outer : List Env} {L : Addr}
  {m : Str → Option Value} {s : Shared} {li : Addr} {nli : Nat} {vlc : Value} {vst vsep : Value} {rest : List (Addr × Obj)} {Q E : Value → Shared → Prop}
  (B : Below A₀ base outer h₀) (F : Fr h₀ L s.heap m) (X : (hd.heap_39 w.params).In h₀)
  (N : News h₀ L s.heap ((li, listOf #[] nli) :: rest))
  (T : Top hd.view_39 loose mean mg mb h₀) (hke : cs.kind = .function)
  (hroom : dp + 30 < recursionLimit) (hun : un + 400 < cLine)
  (ret : ∀ t h' tk', Fr h₀ L h' m → News h₀ L h' rest → Q (.str (Str.ofString ")") t) { s with heap := h', toks := tk' }) :
  wpAny (model Challenge.rw_fj5009_01.row.prog w) (ktrTop dp un gd cn cs L a ccd cl outer) (call (.ref 43) [] (nkvs vst (.ref li) vlc vsep)) Q E s := by
  revert X; k_fill; intro X
  delta nkvs
  walk_at "mine more"
  rename Obj.IsDictOf _ _ _ => hs9
  rename li < _ ∧ _ => l1
  replace hs9 : Obj.IsDictOf _ _ (nkvs vst (.ref li) vlc vsep) := hs9
  k_steps
  rename (_ == sysModules) = false => hDS
  rename Top _ _ _ _ _ _ => T9
  rename Fr _ _ _ (fun _ => _) => F9
  refine Hold.out ?_
  with_reducible refine' call_kws F9 ?N ?X ?ck ?hm hs9 ?hn ?hz hDS ?hlim ?hx ?hh
  case N => k_asm
  case X => k_asm
  case ck => k_is
  case hm => k_mem
  case hn => exact nk_nodup
  case hz => exact nk_len
  case hlim => exact T9.nolimit
  case hx =>
    intro s' Q' F' q
    refine ld F' (by rfl) ?_
    exact q
  case hh =>
    intro h5 tk5 F5 N5
    refine vgc0_spec (by k_asm) F5 (by k_asm) (news_tl N5) (by k_asm) rfl (by ktr_room) (by ktr_units) ?_
    intro t6 h6 tk6 F6 N6
    clear N5
    k_steps
    exact ret _ _ _ (by k_asm) (by k_asm)
end Mine
namespace Mine
/-- lists joined by a separator -/
def joinL (sep : List Nat) : List (List Nat) → List Nat
  | [] => []
  | [p] => p
  | p :: q :: r => p ++ sep ++ joinL sep (q :: r)
/-- the places of the separators, reckoned from an offset -/
def cutsL (n : Nat) : Nat → List (List Nat) → List Nat
  | _, [] => []
  | _, [_] => []
  | off, p :: q :: r => (off + p.length) :: cutsL n (off + p.length + n) (q :: r)
theorem cutsL_ge (n : Nat) : ∀ (off : Nat) (ps : List (List Nat)), ∀ c ∈ cutsL n off ps, off ≤ c
  | _, [], _, h => nomatch h
  | _, [_], _, h => nomatch h
  | off, p :: q :: r, c, h => by
    rcases List.mem_cons.mp h with rfl | h
    · omega
    · have := cutsL_ge n _ (q :: r) c h
      omega
theorem cutsL_gap (n : Nat) : ∀ (off : Nat) (ps : List (List Nat)), (cutsL n off ps).Pairwise (fun a b => a + n ≤ b)
  | _, [] => .nil
  | _, [_] => .nil
  | off, p :: q :: r => List.Pairwise.cons (fun c h => cutsL_ge n _ (q :: r) c h) (cutsL_gap n _ (q :: r))
theorem drop_take_eq {l sep : List Nat} {j : Nat} (h : (l.drop j).take sep.length = sep) : j + sep.length ≤ l.length ∨ sep = [] := by
  by_cases hs : sep = []
  · exact .inr hs
  · left
    have e := congrArg List.length h
    rw [List.length_take, List.length_drop] at e
    have : 0 < sep.length := List.length_pos_iff.mpr hs
    omega
/-- where the separator stands in the joined list -/
theorem match_iff {c : Nat} {sep : List Nat} (hc : c ∉ sep) : ∀ (ps : List (List Nat)) (off : Nat), (∀ p ∈ ps, c ∉ p) → ∀ j, (((joinL (c :: sep) ps).drop j).take (sep.length + 1) = c :: sep ↔ (off + j) ∈ cutsL (sep.length + 1) off ps)
  | [], off, _, j => by simp [joinL, cutsL]
  | [p], off, hp, j => by
    simp only [joinL, cutsL, List.not_mem_nil, iff_false]
    intro h
    have hm : c ∈ (p.drop j).take (sep.length + 1) := by rw [h]; exact List.mem_cons_self
    exact hp p (List.mem_singleton.mpr rfl) (List.mem_of_mem_drop (List.mem_of_mem_take hm))
  | p :: q :: r, off, hp, j => by
    have ih := match_iff hc (q :: r) (off + p.length + (sep.length + 1)) (fun x hx => hp x (.tail _ hx))
    have hpc : c ∉ p := hp p List.mem_cons_self
    show ((p ++ (c :: sep) ++ joinL (c :: sep) (q :: r)).drop j).take (sep.length + 1) = c :: sep ↔ (off + j) ∈ (off + p.length) :: cutsL (sep.length + 1) (off + p.length + (sep.length + 1)) (q :: r)
    rw [List.mem_cons]
    by_cases h1 : j < p.length
    · have hno : ¬ (((p ++ (c :: sep) ++ joinL (c :: sep) (q :: r)).drop j).take (sep.length + 1) = c :: sep) := by
        intro h
        rw [List.append_assoc, List.drop_append_of_le_length (by omega), List.drop_eq_getElem_cons h1] at h
        have : p[j] = c := (List.cons.inj h).1
        exact hpc (this ▸ List.getElem_mem h1)
      refine ⟨fun h => absurd h hno, ?_⟩
      rintro (h | h)
      · omega
      · have := cutsL_ge _ _ _ _ h
        omega
    · by_cases h2 : j = p.length
      · subst h2
        refine ⟨fun _ => .inl rfl, fun _ => ?_⟩
        rw [List.append_assoc, List.drop_left]
        show List.take (sep.length + 1) ((c :: sep) ++ _) = _
        rw [List.take_left' (by simp)]
      · by_cases h3 : j < p.length + (sep.length + 1)
        · have hno : ¬ (((p ++ (c :: sep) ++ joinL (c :: sep) (q :: r)).drop j).take (sep.length + 1) = c :: sep) := by
            intro h
            obtain ⟨k, hk⟩ : ∃ k, j = p.length + (k + 1) := ⟨j - p.length - 1, by omega⟩
            rw [List.append_assoc, hk, List.drop_append, List.drop_eq_nil_of_le (by omega), List.nil_append, show p.length + (k + 1) - p.length = k + 1 by omega] at h
            rw [List.cons_append, List.drop_succ_cons, List.drop_append_of_le_length (by omega), List.drop_eq_getElem_cons (by omega : k < sep.length)] at h
            have : sep[k] = c := (List.cons.inj h).1
            exact hc (this ▸ List.getElem_mem _)
          refine ⟨fun h => absurd h hno, ?_⟩
          rintro (h | h)
          · omega
          · have := cutsL_ge _ _ _ _ h
            omega
        · obtain ⟨k, hk⟩ : ∃ k, j = p.length + (sep.length + 1) + k := ⟨j - (p.length + (sep.length + 1)), by omega⟩
          have e : (p ++ (c :: sep) ++ joinL (c :: sep) (q :: r)).drop j = (joinL (c :: sep) (q :: r)).drop k := by
            have hl : (p ++ (c :: sep)).length = p.length + (sep.length + 1) := by simp
            rw [hk, List.drop_append, List.drop_eq_nil_of_le (by omega), List.nil_append, hl]
            congr 1
            omega
          rw [e, ih k]
          have e2 : off + p.length + (sep.length + 1) + k = off + j := by omega
          rw [e2]
          refine ⟨.inr, ?_⟩
          rintro (h | h)
          · omega
          · exact h
open PySem.Builtin PySem.Builtin.Str PySem.StrLaws PySem.Spec in
theorem occ_walk (x y : Str) (hi lim : Nat) (hy : 0 < y.length) : ∀ (k i : Nat) (found : Array Nat) (free : Nat) (cs : List Nat), (∀ c ∈ cs, free ≤ c) → (∀ c ∈ cs, i ≤ c ∧ c < i + k) → cs.Pairwise (fun a b => a + y.length ≤ b) →
    (∀ j, i ≤ j → j < i + k → ((j + y.length ≤ hi ∧ subAt x y j = true) ↔ j ∈ cs)) → found.size + cs.length ≤ lim →
    (forIn (List.range' i k) (found, free) (occBody x y hi lim)).run.fst.toList = found.toList ++ cs := by
  intro k
  induction k with
  | zero =>
    intro i found free cs _ h2 _ _ _
    cases cs with
    | nil => simp
    | cons c r => have := h2 c List.mem_cons_self; omega
  | succ k ih =>
    intro i found free cs h1 h2 h3 h4 h5
    rw [List.range'_succ, List.forIn_cons]
    unfold occBody
    by_cases hm : i ∈ cs
    · obtain ⟨r, rfl⟩ : ∃ r, cs = i :: r := by
        cases cs with
        | nil => cases hm
        | cons c r =>
          rcases List.mem_cons.mp hm with e | hm'
          · exact ⟨r, by rw [e]⟩
          · have a := (List.pairwise_cons.mp h3).1 i hm'
            have b := (h2 c List.mem_cons_self).1
            omega
      have hq := (h4 i (Nat.le_refl _) (by omega)).mpr hm
      have hf := h1 i List.mem_cons_self
      rw [List.length_cons] at h5
      rw [if_pos ⟨⟨⟨by simp only; omega, hf⟩, hq.1⟩, hq.2⟩]
      have hr := (List.pairwise_cons.mp h3).1
      show (forIn (List.range' (i + 1) k) (found.push i, i + y.length) (occBody x y hi lim)).run.fst.toList = _
      rw [ih (i + 1) (found.push i) (i + y.length) r hr (fun c hc => ⟨by have := hr c hc; omega, by have := (h2 c (.tail _ hc)).2; omega⟩) (List.pairwise_cons.mp h3).2 ?_ (by rw [Array.size_push]; omega)]
      · rw [Array.toList_push, List.append_assoc]; rfl
      · intro j hj1 hj2
        rw [h4 j (by omega) (by omega), List.mem_cons]
        exact ⟨fun h => h.elim (fun e => by omega) id, .inr⟩
    · have hq : ¬ (i + y.length ≤ hi ∧ subAt x y i = true) := fun h => hm ((h4 i (Nat.le_refl _) (by omega)).mp h)
      rw [if_neg fun h => hq ⟨h.1.2, h.2⟩]
      exact ih (i + 1) found free cs h1 (fun c hc => ⟨by have := (h2 c hc).1; have : c ≠ i := fun e => hm (e ▸ hc); omega, by have := (h2 c hc).2; omega⟩) h3 (fun j hj1 hj2 => h4 j (by omega) (by omega)) h5
theorem cutsL_length (n : Nat) : ∀ (off : Nat) (ps : List (List Nat)), (cutsL n off ps).length = ps.length - 1
  | _, [] => rfl
  | _, [_] => rfl
  | off, p :: q :: r => by
    rw [cutsL, List.length_cons, cutsL_length n _ (q :: r)]
    simp
theorem joinL_length (sep : List Nat) : ∀ ps : List (List Nat), (ps.length - 1) * sep.length ≤ (joinL sep ps).length
  | [] => by simp
  | [_] => by simp
  | p :: q :: r => by
    have ih := joinL_length sep (q :: r)
    simp only [joinL, List.length_append, List.length_cons] at ih ⊢
    have : (r.length + 1 + 1 - 1) * sep.length = (r.length + 1 - 1) * sep.length + sep.length := by
      rw [show r.length + 1 + 1 - 1 = (r.length + 1 - 1) + 1 by omega, Nat.add_mul, Nat.one_mul]
    omega
theorem cutsL_lt {sep : List Nat} (hs : sep ≠ []) : ∀ (off : Nat) (ps : List (List Nat)), ∀ c ∈ cutsL sep.length off ps, c + sep.length ≤ off + (joinL sep ps).length
  | _, [], _, h => nomatch h
  | _, [_], _, h => nomatch h
  | off, p :: q :: r, c, h => by
    simp only [joinL, List.length_append]
    rcases List.mem_cons.mp h with rfl | h
    · omega
    · have := cutsL_lt hs _ (q :: r) c h
      omega
theorem str_sub_eq (x : Str) (i j : Nat) : (Builtin.Str.strSub x i j).cps.toList = (x.cps.toList.drop i).take (j - i) := by
  unfold Builtin.Str.strSub
  rw [Array.toList_extract, List.extract_eq_take_drop]
theorem str_ext {x y : Str} (h : x.cps.toList = y.cps.toList) : x = y := Str.ext' (Array.toList_inj.mp h)
theorem zip_parts (x : Str) (n : Nat) (sep : List Nat) (hn : sep.length = n) : ∀ (ps : List Str) (off : Nat) (pre : List Nat), ps ≠ [] → pre.length = off → x.cps.toList = pre ++ joinL sep (ps.map (·.cps.toList)) →
    ((off :: (cutsL n off (ps.map (·.cps.toList))).map (· + n)).zip (cutsL n off (ps.map (·.cps.toList)) ++ [x.length])).map (fun ij => Builtin.Str.strSub x ij.1 ij.2) = ps
  | [], _, _, h, _, _ => absurd rfl h
  | [p], off, pre, _, hl, hx => by
    simp only [List.map_cons, List.map_nil, cutsL, List.nil_append, List.zip_cons_cons, List.zip_nil_right, joinL] at hx ⊢
    congr 1
    apply str_ext
    rw [str_sub_eq, len_cps x, hx, List.drop_append, List.drop_eq_nil_of_le (by omega), List.nil_append, hl, Nat.sub_self, List.drop_zero, List.length_append, hl, List.take_of_length_le (by omega)]
  | p :: q :: r, off, pre, _, hl, hx => by
    have ih := zip_parts x n sep hn (q :: r) (off + p.cps.toList.length + n) (pre ++ p.cps.toList ++ sep) (by simp) (by simp only [List.length_append]; omega) (by rw [hx]; simp [joinL])
    simp only [List.map_cons, cutsL, List.cons_append, List.zip_cons_cons] at ih ⊢
    rw [ih]
    congr 1
    apply str_ext
    rw [str_sub_eq, hx, List.drop_append, List.drop_eq_nil_of_le (by omega), List.nil_append, hl, Nat.sub_self, List.drop_zero, show off + p.cps.toList.length - off = p.cps.toList.length by omega]
    simp only [List.map_cons, joinL, List.append_assoc]
    rw [List.take_left]
open PySem.Builtin PySem.Builtin.Str PySem.StrLaws PySem.Spec in
theorem split_join {x y : Str} {ps : List Str} {c : Nat} {sep : List Nat} (hne : ps ≠ []) (hy : y.cps.toList = c :: sep) (hc : c ∉ sep) (hx : x.cps.toList = joinL (c :: sep) (ps.map (·.cps.toList))) (hp : ∀ p ∈ ps, c ∉ p.cps.toList) (hk : Builtin.Str.strKind y = 1) :
    Txt.split x y = ps := by
  have hyl : y.length = sep.length + 1 := by rw [len_cps, hy]; rfl
  have hocc : occurrences x y 0 x.length (x.length + 1) = cutsL y.length 0 (ps.map (·.cps.toList)) := by
    rw [occ_eq, occ_walk x y x.length (x.length + 1) (by omega) (x.length + 1 - 0) 0 #[] 0 (cutsL y.length 0 (ps.map (·.cps.toList))) (fun _ _ => Nat.zero_le _) ?_ (cutsL_gap _ _ _) ?_ ?_]
    · rfl
    · intro d hd
      have := cutsL_lt (sep := c :: sep) (by simp) 0 (ps.map (·.cps.toList)) d (by rw [List.length_cons, ← hyl]; exact hd)
      rw [← hx, ← len_cps, List.length_cons] at this
      omega
    · intro j _ _
      have hm := match_iff hc (ps.map (·.cps.toList)) 0 (by intro p hp'; obtain ⟨z, hz, rfl⟩ := List.mem_map.mp hp'; exact hp z hz) j
      rw [← hx, Nat.zero_add, ← hyl] at hm
      rw [← hm, subAt_eq, beq_iff_eq, hy]
      refine ⟨fun h => h.2, fun h => ⟨?_, h⟩⟩
      have := drop_take_eq (sep := c :: sep) (by rw [List.length_cons, ← hyl]; exact h)
      rw [List.length_cons, ← hyl, ← len_cps] at this
      rcases this with h | h
      · exact h
      · cases h
    · have h1 := cutsL_length y.length 0 (ps.map (·.cps.toList))
      have h2 := joinL_length (c :: sep) (ps.map (·.cps.toList))
      rw [← hx, ← len_cps] at h2
      have h3 : (List.map (fun z : Str => z.cps.toList) ps).length - 1 ≤ ((List.map (fun z : Str => z.cps.toList) ps).length - 1) * (c :: sep).length := Nat.le_mul_of_pos_right _ (by simp)
      rw [h1]
      simp only [Array.size_empty]
      omega
  have hz := zip_parts x y.length (c :: sep) (by rw [hyl]; rfl) ps 0 [] hne rfl (by rw [hx]; rfl)
  have hpb : partsBetween x (occurrences x y 0 x.length (x.length + 1)) y.length = ps := by
    rw [hocc]
    exact hz
  unfold Txt.split
  have one : occurrences x y 0 x.length (x.length + 1) = [] → [x] = ps := by
    intro h
    rw [h] at hpb
    rw [← hpb]
    show [x] = [strSub x 0 x.length]
    congr 1
    apply str_ext
    rw [str_sub_eq, List.drop_zero, Nat.sub_zero, len_cps, List.take_length]
  split
  · rename_i h
    rw [Bool.or_eq_true, decide_eq_true_eq, decide_eq_true_eq] at h
    rcases h with h | h
    · apply one
      rw [hocc]
      have h2 := joinL_length (c :: sep) (ps.map (·.cps.toList))
      rw [← hx, ← len_cps, List.length_cons, ← hyl] at h2
      have h1 := cutsL_length y.length 0 (ps.map (·.cps.toList))
      refine List.length_eq_zero_iff.mp ?_
      rw [h1]
      rcases Nat.eq_zero_or_pos ((ps.map (·.cps.toList)).length - 1) with h0 | h0
      · exact h0
      · have := Nat.le_mul_of_pos_left y.length h0
        omega
    · have := strKind_pos x
      omega
  · split
    · rename_i h
      exact one (List.isEmpty_iff.mp h)
    · exact hpb
open PySem.StrLaws in
theorem slice_is (x : Str) (l u : Option Int) : Txt.slice x l u = sliceText x l u := rfl
open PySem.StrLaws in
theorem slice_pre {x a : Str} {b : List Nat} {i : Int} (hx : x.cps.toList = a.cps.toList ++ b) (hi : i = (a.length : Int)) : Txt.slice x none (some i) = a := by
  rw [slice_is, sliceText_to ⟨by omega, by rw [hx, List.length_append, hi, len_cps]; omega⟩]
  apply str_ext
  show List.take (i - 0).toNat (List.drop 0 x.cps.toList) = _
  rw [hx, List.drop_zero, hi, show ((a.length : Int) - 0).toNat = a.cps.toList.length by rw [len_cps]; omega, List.take_left]
open PySem.StrLaws in
theorem slice_suf {x b : Str} {a : List Nat} {i : Int} (hx : x.cps.toList = a ++ b.cps.toList) (hi : i = (a.length : Int)) : Txt.slice x (some i) none = b := by
  rw [slice_is, sliceText_from ⟨by omega, by rw [hx, List.length_append, hi]; omega⟩]
  apply str_ext
  show List.take (_ - i).toNat (List.drop i.toNat x.cps.toList) = _
  rw [hx, hi, show ((a.length : Int)).toNat = a.length by omega, List.drop_left, List.length_append, List.take_of_length_le (by omega)]
end Mine
namespace Mine
/-- the signs of a text -/
def cpl (x : Str) : List Nat := x.cps.toList
theorem cpl_app (a b : Str) : cpl (a ++ b) = cpl a ++ cpl b := cps_app a b
theorem len_cpl (x : Str) : x.length = (cpl x).length := len_cps x
theorem joinL_cons {sep p : List Nat} : ∀ {qs : List (List Nat)}, qs ≠ [] → joinL sep (p :: qs) = p ++ sep ++ joinL sep qs
  | [], h => absurd rfl h
  | _ :: _, _ => rfl
theorem joinL_snoc {sep x : List Nat} : ∀ {ps : List (List Nat)}, ps ≠ [] → joinL sep (ps ++ [x]) = joinL sep ps ++ sep ++ x
  | [], h => absurd rfl h
  | [p], _ => rfl
  | p :: q :: r, _ => by
    have ih := joinL_snoc (sep := sep) (x := x) (ps := q :: r) (by simp)
    rw [List.cons_append, joinL_cons (by simp), ih]
    show _ = p ++ sep ++ joinL sep (q :: r) ++ sep ++ x
    simp only [List.append_assoc]
/-- the signs of a row's names -/
def jn (g : List Str) : List Nat := joinL [44, 32] (g.map cpl)
/-- the parting of the names into rows, as the code grows them -/
def grp (ind : Nat) (width : Nat) (comma ntc : Bool) : List Str → List Str → List (List Str)
  | g, [] => [g]
  | g, x :: r =>
    if (width : Int) < ((ind + (jn g).length + 2 + x.length + (if !r.isEmpty || comma then 1 else 0) + (if r.isEmpty && ntc then 1 else 0) : Nat) : Int) then g :: grp ind width comma ntc [x] r
    else grp ind width comma ntc (g ++ [x]) r
theorem grp_ne {ind width : Nat} {comma ntc : Bool} : ∀ {g r : List Str}, grp ind width comma ntc g r ≠ []
  | g, [] => by simp [grp]
  | g, x :: r => by
    rw [grp]
    exact iteInduction (motive := fun z : List (List Str) => z ≠ []) (fun _ => by simp) (fun _ => grp_ne)
theorem grp_flat {ind width : Nat} {comma ntc : Bool} : ∀ {g r : List Str}, (grp ind width comma ntc g r).flatten = g ++ r
  | g, [] => by simp [grp]
  | g, x :: r => by
    rw [grp]
    exact iteInduction (motive := fun z : List (List Str) => z.flatten = g ++ x :: r) (fun _ => by rw [List.flatten_cons, grp_flat]; rfl) (fun _ => by rw [grp_flat]; simp)
theorem jn_snoc {g : List Str} (h : g ≠ []) (x : Str) : jn (g ++ [x]) = jn g ++ [44, 32] ++ cpl x := by
  unfold jn
  rw [List.map_append]
  exact joinL_snoc (by simpa using h)
theorem vg_text {ind : Str} {width : Nat} {comma ntc : Bool} : ∀ {r : List Str} {g : List Str} {S cur : Str} {p : List Nat}, g ≠ [] → cpl cur = cpl ind ++ jn g → cpl S = p ++ cpl cur →
    cpl (vg ind width comma ntc S cur r) = p ++ joinL [44, 10] ((grp ind.length width comma ntc g r).map fun g => cpl ind ++ jn g)
  | [], g, S, cur, p, _, hc, hS => by
    show cpl S = p ++ joinL [44, 10] [cpl ind ++ jn g]
    rw [hS, hc]; rfl
  | x :: r, g, S, cur, p, hg, hc, hS => by
    have hl : cur.length = ind.length + (jn g).length := by rw [len_cpl, hc, List.length_append, ← len_cpl]
    by_cases h : (width : Int) < ((cur.length + 2 + x.length + (if !r.isEmpty || comma then 1 else 0) + (if r.isEmpty && ntc then 1 else 0) : Nat) : Int)
    · have h' := h
      rw [hl] at h'
      rw [vg_wide h, grp, if_pos h', vg_text (g := [x]) (p := p ++ cpl cur ++ [44, 10]) (by simp) (by rw [cpl_app]; rfl)
        (by simp only [cpl_app, hS, show cpl Str.empty = [] from cps_e, show cpl (Str.ofString ",") = [44] from cps_cm, show cpl (Str.ofString "\n") = [10] from cps_nl, List.append_assoc, List.cons_append, List.nil_append])]
      rw [List.map_cons, joinL_cons (by simpa using grp_ne), hc]
      simp only [List.append_assoc]
    · have h' := h
      rw [hl] at h'
      rw [vg_same h, grp, if_neg h', vg_text (g := g ++ [x]) (p := p) (by simp) ?_ ?_]
      · rw [jn_snoc hg, cpl_app, cpl_app, hc, show cpl (Str.ofString ", ") = [44, 32] from cps_cs]
        simp only [List.append_assoc]
      · simp only [cpl_app, hS, show cpl Str.empty = [] from cps_e, List.append_assoc, List.nil_append]
/-- the text of a row -/
def jnS (g : List Str) : Str := ⟨(jn g).toArray⟩
theorem cpl_jnS (g : List Str) : cpl (jnS g) = jn g := by
  show ((jn g).toArray).toList = _
  rw [List.toList_toArray]
def rowS (ind : Str) (g : List Str) (e : Str) : Str := ind ++ (jnS g ++ e)
def rowsS (ind e : Str) : List (List Str) → List Str
  | [] => []
  | [g] => [rowS ind g e]
  | g :: h :: r => rowS ind g (Str.ofString ",") :: rowsS ind e (h :: r)
theorem rowsS_length (ind e : Str) : ∀ gs : List (List Str), (rowsS ind e gs).length = gs.length
  | [] => rfl
  | [_] => rfl
  | g :: h :: r => by rw [rowsS, List.length_cons, rowsS_length ind e (h :: r)]; rfl
theorem rowsS_ne {ind e : Str} {gs : List (List Str)} (h : gs ≠ []) : rowsS ind e gs ≠ [] := fun h' => h (List.length_eq_zero_iff.mp (by rw [← rowsS_length ind e gs, h']; rfl))
theorem rows_text (ind e : Str) : ∀ gs : List (List Str), gs ≠ [] → joinL [10] ((rowsS ind e gs).map cpl) = joinL [44, 10] (gs.map fun g => cpl ind ++ jn g) ++ cpl e
  | [], h => absurd rfl h
  | [g], _ => by
    simp only [rowsS, List.map_cons, List.map_nil, joinL, rowS, cpl_app, cpl_jnS, List.append_assoc]
  | g :: h :: r, _ => by
    have ih := rows_text ind e (h :: r) (by simp)
    rw [rowsS, List.map_cons, joinL_cons (by simpa using rowsS_ne (by simp)), ih, rowS, cpl_app, cpl_app, cpl_jnS, show cpl (Str.ofString ",") = [44] from cps_cm]
    show _ = (cpl ind ++ jn g) ++ [44, 10] ++ joinL [44, 10] ((h :: r).map fun g => cpl ind ++ jn g) ++ cpl e
    simp only [List.append_assoc, List.cons_append, List.nil_append]
theorem rowsS_get {ind e : Str} : ∀ {gs : List (List Str)} {i : Nat} {g : List Str}, gs[i]? = some g → (rowsS ind e gs)[i]? = some (rowS ind g (if i + 1 = gs.length then e else Str.ofString ","))
  | [], i, g, h => by simp at h
  | [g'], i, g, h => by
    cases i with
    | zero => cases h; rfl
    | succ i => simp at h
  | g' :: h' :: r, i, g, h => by
    cases i with
    | zero =>
      cases h
      rw [rowsS, if_neg (by simp)]; rfl
    | succ i =>
      have ih := rowsS_get (ind := ind) (e := e) (gs := h' :: r) (i := i) (g := g) h
      rw [rowsS, List.getElem?_cons_succ, ih]
      congr 2
      simp [Nat.add_right_cancel_iff]
theorem rowsS_all {ind e : Str} {P : Str → Prop} : ∀ {gs : List (List Str)}, (∀ g ∈ gs, P (rowS ind g e) ∧ P (rowS ind g (Str.ofString ","))) → ∀ x ∈ rowsS ind e gs, P x
  | [], _, x, hx => nomatch hx
  | [g], h, x, hx => by
    rw [rowsS, List.mem_singleton] at hx
    subst hx
    exact (h g List.mem_cons_self).1
  | g :: g' :: r, h, x, hx => by
    rw [rowsS] at hx
    rcases List.mem_cons.mp hx with rfl | hx
    · exact (h g List.mem_cons_self).2
    · exact rowsS_all (gs := g' :: r) (fun y hy => h y (.tail _ hy)) x hx
theorem jn_mem {c : Nat} : ∀ {g : List Str}, c ∈ jn g → c = 44 ∨ c = 32 ∨ ∃ x ∈ g, c ∈ cpl x
  | [], h => by simp [jn, joinL] at h
  | [x], h => .inr (.inr ⟨x, List.mem_cons_self, h⟩)
  | x :: y :: r, h => by
    have e : jn (x :: y :: r) = cpl x ++ [44, 32] ++ jn (y :: r) := rfl
    rw [e, List.mem_append, List.mem_append] at h
    rcases h with (h | h) | h
    · exact .inr (.inr ⟨x, List.mem_cons_self, h⟩)
    · simp at h
      rcases h with h | h
      · exact .inl h
      · exact .inr (.inl h)
    · rcases jn_mem h with h | h | ⟨z, hz, h⟩
      · exact .inl h
      · exact .inr (.inl h)
      · exact .inr (.inr ⟨z, .tail _ hz, h⟩)
theorem row_no10 {ind e : Str} {g : List Str} (hi : 10 ∉ cpl ind) (hg : ∀ x ∈ g, GoodName x) (he : 10 ∉ cpl e) : 10 ∉ cpl (rowS ind g e) := by
  rw [rowS, cpl_app, cpl_app, cpl_jnS, List.mem_append, List.mem_append]
  rintro (h | h | h)
  · exact hi h
  · rcases jn_mem h with h | h | ⟨x, hx, h⟩
    · omega
    · omega
    · exact ((hg x hx).2.2 10 h).1 rfl
  · exact he h
theorem grp_good {ind width : Nat} {comma ntc : Bool} {g r : List Str} (h : ∀ x ∈ g ++ r, GoodName x) : ∀ h ∈ grp ind width comma ntc g r, ∀ x ∈ h, GoodName x :=
  fun k hk x hx => h x (by rw [← grp_flat (ind := ind) (width := width) (comma := comma) (ntc := ntc)]; exact List.mem_flatten.mpr ⟨k, hk, hx⟩)
/-- what stands behind the last name -/
def endS (comma grouped : Bool) : Str := (if comma = true then Str.ofString "," else Str.ofString "") ++ (if grouped = true then Str.ofString "" else Str.ofString ")")
theorem endS_cpl (comma grouped : Bool) : cpl (endS comma grouped) = (if comma = true then [44] else []) ++ (if grouped = true then [] else [41]) := by
  cases comma <;> cases grouped <;> decide
theorem endS_len (comma grouped : Bool) : (endS comma grouped).length = (if comma = true then 1 else 0) + (if grouped = true then 0 else 1) := by
  cases comma <;> cases grouped <;> decide
theorem vgEnd_cpl (comma : Bool) (S : Str) : cpl (vgEnd comma S) = cpl S ++ (if comma = true then [44] else []) := by
  unfold vgEnd
  split
  · rw [cpl_app, show cpl (Str.ofString ",") = [44] from cps_cm]
  · rw [List.append_nil]
theorem no10_end (comma grouped : Bool) : 10 ∉ cpl (endS comma grouped) := by
  cases comma <;> cases grouped <;> decide
theorem split_nl {x : Str} {ps : List Str} (hne : ps ≠ []) (hx : cpl x = joinL [10] (ps.map cpl)) (hp : ∀ p ∈ ps, 10 ∉ cpl p) : Txt.split x (Str.ofString "\n") = ps :=
  split_join hne (sep := []) cps_nl (by simp) hx hp (by decide +kernel)
theorem split_cs {x : Str} {ps : List Str} (hne : ps ≠ []) (hx : cpl x = joinL [44, 32] (ps.map cpl)) (hp : ∀ p ∈ ps, 44 ∉ cpl p) : Txt.split x (Str.ofString ", ") = ps :=
  split_join hne (sep := [32]) cps_cs (by decide) hx hp (by decide +kernel)
theorem split_row {g : List Str} (hne : g ≠ []) (hg : ∀ x ∈ g, GoodName x) : Txt.split (jnS g) (Str.ofString ", ") = g :=
  split_cs hne (by rw [cpl_jnS]; rfl) fun p hp h => ((hg p hp).2.2 44 h).2.1 rfl
section
variable {ind st cm x0 : Str} {width : Nat} {comma : Bool} {r : List Str}
theorem told_text (ntc : Bool) : cpl (vgEnd comma (vg ind width comma ntc (st ++ (cm ++ Str.ofString "\n" ++ ind ++ x0)) (ind ++ x0) r)) =
    cpl (st ++ cm) ++ [10] ++ (joinL [44, 10] ((grp ind.length width comma ntc [x0] r).map fun g => cpl ind ++ jn g) ++ (if comma = true then [44] else [])) := by
  rw [vgEnd_cpl, vg_text (g := [x0]) (p := cpl (st ++ cm) ++ [10]) (by simp) (by rw [cpl_app]; rfl) ?_]
  · simp only [List.append_assoc]
  · simp only [cpl_app, show cpl (Str.ofString "\n") = [10] from cps_nl, List.append_assoc]
theorem split_grid (hh : 10 ∉ cpl (st ++ cm)) (hi : 10 ∉ cpl ind) (hg : ∀ x ∈ x0 :: r, GoodName x) :
    Txt.split (vgEnd comma (vg ind width comma true (st ++ (cm ++ Str.ofString "\n" ++ ind ++ x0)) (ind ++ x0) r) ++ Str.ofString ")") (Str.ofString "\n") =
      (st ++ cm) :: rowsS ind (endS comma false) (grp ind.length width comma true [x0] r) := by
  refine split_nl (by simp) ?_ ?_
  · rw [cpl_app, told_text, List.map_cons, joinL_cons (by simpa using rowsS_ne grp_ne), rows_text _ _ _ grp_ne, endS_cpl, show cpl (Str.ofString ")") = [41] by decide]
    simp only [List.append_assoc, if_neg (show ¬ (false = true) by decide)]
  · intro p hp
    rcases List.mem_cons.mp hp with rfl | hp
    · exact hh
    · exact rowsS_all (P := fun z => 10 ∉ cpl z) (fun g hgm => ⟨row_no10 hi (grp_good hg g hgm) (no10_end _ _), row_no10 hi (grp_good hg g hgm) (by decide)⟩) p hp
theorem joinL_app {sep : List Nat} : ∀ {ps : List (List Nat)} {x : List Nat}, ps ≠ [] → joinL sep (ps ++ [x]) = joinL sep ps ++ sep ++ x := joinL_snoc
theorem split_grouped (hh : 10 ∉ cpl (st ++ cm)) (hi : 10 ∉ cpl ind) (hg : ∀ x ∈ x0 :: r, GoodName x) :
    Txt.split (vgEnd comma (vg ind width comma false (st ++ (cm ++ Str.ofString "\n" ++ ind ++ x0)) (ind ++ x0) r) ++ Str.ofString "\n" ++ Str.ofString ")") (Str.ofString "\n") =
      (st ++ cm) :: rowsS ind (endS comma true) (grp ind.length width comma false [x0] r) ++ [Str.ofString ")"] := by
  refine split_nl (by simp) ?_ ?_
  · rw [cpl_app, cpl_app, told_text, List.map_append, List.map_cons, List.map_cons, List.map_nil, joinL_snoc (by simp), joinL_cons (by simpa using rowsS_ne grp_ne), rows_text _ _ _ grp_ne, endS_cpl, show cpl (Str.ofString ")") = [41] by decide, show cpl (Str.ofString "\n") = [10] from cps_nl]
    simp only [List.append_assoc, if_pos, List.append_nil]
  · intro p hp
    rcases List.mem_append.mp hp with hp | hp
    · rcases List.mem_cons.mp hp with rfl | hp
      · exact hh
      · exact rowsS_all (P := fun z => 10 ∉ cpl z) (fun g hgm => ⟨row_no10 hi (grp_good hg g hgm) (no10_end _ _), row_no10 hi (grp_good hg g hgm) (by decide)⟩) p hp
    · rw [List.mem_singleton.mp hp]
      decide
end
end Mine
namespace Mine
section
variable {ok : Nat → Nat → Bool}
theorem leastN_pre : ∀ (k j : Nat), j ≤ k → (leastN ok k).getD j 0 = (leastN ok j).getD j 0
  | 0, j, h => by
    obtain rfl : j = 0 := by omega
    rfl
  | k + 1, j, h => by
    by_cases e : j = k + 1
    · rw [e]
    · rw [leastN, List.getD_eq_getElem?_getD, List.getElem?_append_left (by rw [leastN_length]; omega), ← List.getD_eq_getElem?_getD]
      exact leastN_pre k j (by omega)
/-- the least number of rows for the first j names -/
def lst (ok : Nat → Nat → Bool) (j : Nat) : Int := (leastN ok j).getD j 0
theorem lst_zero : lst ok 0 = 0 := rfl
theorem lst_succ (k : Nat) : lst ok (k + 1) = ((waysN ok (leastN ok k) (k + 1) (k + 1)).min?).getD 0 := by
  unfold lst
  rw [leastN, List.getD_eq_getElem?_getD, List.getElem?_append_right (by rw [leastN_length]; exact Nat.le_refl _), leastN_length, Nat.sub_self]
  rfl
theorem ways_mem {k : Nat} {v : Int} : v ∈ waysN ok (leastN ok k) (k + 1) (k + 1) ↔ ∃ i, i ≤ k ∧ ok i (k + 1) = true ∧ v = lst ok i + 1 := by
  unfold waysN
  rw [List.mem_map]
  constructor
  · rintro ⟨i, hi, rfl⟩
    rw [List.mem_filter, List.mem_range] at hi
    exact ⟨i, by omega, hi.2, by rw [leastN_pre k i (by omega)]; rfl⟩
  · rintro ⟨i, hi, ho, rfl⟩
    exact ⟨i, by rw [List.mem_filter, List.mem_range]; exact ⟨by omega, ho⟩, by rw [leastN_pre k i hi]; rfl⟩
theorem lst_min (hone : ∀ k, ok k (k + 1) = true) (k : Nat) : (∃ i, i ≤ k ∧ ok i (k + 1) = true ∧ lst ok (k + 1) = lst ok i + 1) ∧ ∀ i, i ≤ k → ok i (k + 1) = true → lst ok (k + 1) ≤ lst ok i + 1 := by
  have hne : waysN ok (leastN ok k) (k + 1) (k + 1) ≠ [] := fun h => by
    have := waysN_pos ok (leastN ok k) k (hone k)
    rw [h] at this
    exact absurd this (by simp)
  cases hm : (waysN ok (leastN ok k) (k + 1) (k + 1)).min? with
  | none => exact absurd (List.min?_eq_none_iff.mp hm) hne
  | some v =>
    have hs := lst_succ (ok := ok) k
    rw [hm, Option.getD_some] at hs
    obtain ⟨h1, h2⟩ := List.min?_eq_some_iff.mp hm
    obtain ⟨i, hi, ho, hv⟩ := ways_mem.mp h1
    exact ⟨⟨i, hi, ho, by rw [hs, hv]⟩, fun j hj hoj => by rw [hs]; exact h2 _ (ways_mem.mpr ⟨j, hj, hoj, rfl⟩)⟩
theorem lst_nonneg (hone : ∀ k, ok k (k + 1) = true) : ∀ j, 0 ≤ lst ok j := by
  intro j
  induction j using Nat.strongRecOn with
  | _ j ih =>
    cases j with
    | zero => exact Int.le_refl _
    | succ k =>
      obtain ⟨⟨i, hi, _, e⟩, _⟩ := lst_min hone k
      have := ih i (by omega)
      omega
/-- the parting from a on is the greedy one -/
def Gr (ok : Nat → Nat → Bool) (n : Nat) : Nat → List (List Str) → Prop
  | a, [] => a = n
  | a, g :: gs => 0 < g.length ∧ ok a (a + g.length) = true ∧ (gs ≠ [] → ok a (a + g.length + 1) = false) ∧ Gr ok n (a + g.length) gs
theorem Gr.upper (hone : ∀ k, ok k (k + 1) = true) {n : Nat} : ∀ {gs : List (List Str)} {a : Nat}, Gr ok n a gs → lst ok n ≤ lst ok a + gs.length
  | [], a, h => by
    obtain rfl : a = n := h
    simp
  | g :: gs, a, ⟨h1, h2, _, h4⟩ => by
    have ih := Gr.upper hone h4
    obtain ⟨k, hk⟩ : ∃ k, a + g.length = k + 1 := ⟨a + g.length - 1, by omega⟩
    have := (lst_min hone k).2 a (by omega) (by rw [← hk]; exact h2)
    rw [← hk] at this
    rw [List.length_cons]
    omega
theorem Gr.le {n : Nat} : ∀ {gs : List (List Str)} {a : Nat}, Gr ok n a gs → a ≤ n
  | [], a, h => Nat.le_of_eq h
  | g :: gs, a, ⟨_, _, _, h4⟩ => by
    have := h4.le
    omega
theorem Gr.lower (hone : ∀ k, ok k (k + 1) = true) {n : Nat} (hmono : ∀ i i' j' j, i ≤ i' → i' < j' → j' ≤ j → j ≤ n → ok i j = true → ok i' j' = true) :
    ∀ {gs : List (List Str)} {a : Nat} {t : Int}, Gr ok n a gs → gs ≠ [] → 0 ≤ t → (∀ j, j ≤ n → lst ok j ≤ t → j ≤ a) → t + gs.length ≤ lst ok n
  | [], _, _, _, h, _, _ => absurd rfl h
  | [g], a, t, ⟨h1, _, _, h4⟩, _, _, H => by
    have e : a + g.length = n := h4
    have : ¬ lst ok n ≤ t := fun h => by
      have := H n (Nat.le_refl _) h
      omega
    simp only [List.length_cons, List.length_nil]
    omega
  | g :: g' :: gs, a, t, ⟨h1, h2, h3, h4⟩, _, ht, H => by
    have hno := h3 (by simp)
    have hle := h4.le
    have ih := Gr.lower hone hmono (t := t + 1) h4 (by simp) (by omega) (fun j hj hl => by
      cases j with
      | zero => exact Nat.zero_le _
      | succ k =>
        obtain ⟨⟨i, hi, ho, e⟩, _⟩ := lst_min hone k
        have hia := H i (by omega) (by omega)
        refine Nat.le_of_not_lt fun hlt => ?_
        have := hmono i a (a + g.length + 1) (k + 1) hia (by omega) (by omega) hj ho
        rw [hno] at this
        cases this)
    simp only [List.length_cons] at ih ⊢
    omega
theorem Gr.least (hone : ∀ k, ok k (k + 1) = true) {n : Nat} (hmono : ∀ i i' j' j, i ≤ i' → i' < j' → j' ≤ j → j ≤ n → ok i j = true → ok i' j' = true) {gs : List (List Str)} (h : Gr ok n 0 gs) (hne : gs ≠ []) : lst ok n = gs.length := by
  have hu := h.upper hone
  have hl := h.lower hone hmono (t := 0) hne (Int.le_refl _) (fun j _ hl => by
    cases j with
    | zero => exact Nat.le_refl _
    | succ k =>
      obtain ⟨⟨i, _, _, e⟩, _⟩ := lst_min hone k
      have := lst_nonneg hone i
      omega)
  rw [lst_zero] at hu
  omega
end
theorem okN_one (ind width : Nat) (ls : List Nat) (comma grouped : Bool) (k : Nat) : okN ind width ls comma grouped k (k + 1) = true := by
  unfold okN
  rw [Bool.or_eq_true]
  left
  rw [beq_iff_eq]
  omega
theorem sum_app (a b : List Nat) : (a ++ b).sum = a.sum + b.sum := List.sum_append
theorem sum_take_le : ∀ (l : List Nat) (k m : Nat), k ≤ m → (l.take k).sum ≤ (l.take m).sum
  | [], k, m, _ => by simp
  | x :: r, 0, m, _ => by simp
  | x :: r, k + 1, 0, h => by omega
  | x :: r, k + 1, m + 1, h => by
    have := sum_take_le r k m (by omega)
    simp only [List.take_succ_cons, List.sum_cons]
    omega
/-- the sum of the lengths from i to j -/
def sm (ls : List Nat) (i j : Nat) : Nat := ((ls.drop i).take (j - i)).sum
theorem sm_split (ls : List Nat) {i k j : Nat} (h1 : i ≤ k) (h2 : k ≤ j) : sm ls i j = sm ls i k + sm ls k j := by
  unfold sm
  rw [show j - i = (k - i) + (j - k) by omega, List.take_add, sum_app, List.drop_drop, show i + (k - i) = k by omega]
theorem okN_mono (ind width : Nat) (ls : List Nat) (comma grouped : Bool) (i i' j' j : Nat) (h1 : i ≤ i') (h2 : i' < j') (h3 : j' ≤ j) (h4 : j ≤ ls.length) (ho : okN ind width ls comma grouped i j = true) :
    okN ind width ls comma grouped i' j' = true := by
  unfold okN wideN at *
  rw [Bool.or_eq_true, beq_iff_eq, decide_eq_true_eq] at *
  have e1 := sm_split ls (i := i) (k := i') (j := j) h1 (by omega)
  have e2 := sm_split ls (i := i') (k := j') (j := j) (by omega) h3
  unfold sm at e1 e2
  rcases ho with ho | ho
  · left; omega
  · by_cases h1' : j' - i' = 1
    · exact .inl h1'
    right
    by_cases hj : j' = j
    · subst hj
      split at ho <;> rename_i hc <;> simp only [hc, if_true, if_false] <;> omega
    · have hlt : j' < ls.length := by omega
      rw [if_pos hlt]
      split at ho
      · omega
      · generalize (if comma = true then 1 else 0) = a at ho
        generalize (if grouped = true then 0 else 1) = b at ho
        omega
theorem jn_len : ∀ {g : List Str}, g ≠ [] → (jn g).length = (g.map Str.length).sum + 2 * (g.length - 1)
  | [], h => absurd rfl h
  | [x], _ => by
    show (cpl x).length = _
    rw [← len_cpl]
    simp
  | x :: y :: r, _ => by
    have ih := jn_len (g := y :: r) (by simp)
    have e : jn (x :: y :: r) = cpl x ++ [44, 32] ++ jn (y :: r) := rfl
    rw [e, List.length_append, List.length_append, ih, ← len_cpl]
    simp only [List.map_cons, List.sum_cons, List.length_cons, List.length_nil]
    omega
theorem sm_mid (pre g r : List Str) : ((((pre ++ g ++ r).map Str.length).drop pre.length).take g.length).sum = (g.map Str.length).sum := by
  have e : ((pre ++ g ++ r).map Str.length).drop pre.length = g.map Str.length ++ r.map Str.length := by
    rw [List.append_assoc, List.map_append, List.drop_append, List.drop_eq_nil_of_le (by simp), List.nil_append, List.map_append]
    simp
  rw [e, List.take_append_of_le_length (by simp), List.take_of_length_le (by simp)]
theorem okN_row {ind width : Nat} {comma grouped : Bool} {pre g r : List Str} (hg : g ≠ []) :
    okN ind width ((pre ++ g ++ r).map Str.length) comma grouped pre.length (pre.length + g.length) =
      (g.length == 1 || decide (ind + (jn g).length + (if r.isEmpty then (if comma then 1 else 0) + (if grouped then 0 else 1) else 1) ≤ width)) := by
  unfold okN wideN
  have hpos : 0 < g.length := List.length_pos_iff.mpr hg
  have e0 : pre.length + g.length - pre.length = g.length := by omega
  rw [e0, sm_mid, jn_len hg]
  have hl : ((pre ++ g ++ r).map Str.length).length = pre.length + g.length + r.length := by simp; omega
  rw [hl]
  cases r with
  | nil =>
    rw [if_neg (by simp), if_pos List.isEmpty_nil]
    have : ind + (g.map Str.length).sum + 2 * (g.length - 1) + ((if comma = true then 1 else 0) + (if grouped = true then 0 else 1)) = ind + ((g.map Str.length).sum + 2 * (g.length - 1)) + ((if comma = true then 1 else 0) + (if grouped = true then 0 else 1)) := by omega
    rw [this]
  | cons x t =>
    rw [if_pos (by simp), if_neg (by simp)]
    have : ind + (g.map Str.length).sum + 2 * (g.length - 1) + 1 = ind + ((g.map Str.length).sum + 2 * (g.length - 1)) + 1 := by omega
    rw [this]
theorem grp_gr {ind width : Nat} {comma grouped : Bool} {ls : List Nat} : ∀ {r g pre : List Str}, g ≠ [] → ls = (pre ++ g ++ r).map Str.length → okN ind width ls comma grouped pre.length (pre.length + g.length) = true →
    Gr (okN ind width ls comma grouped) ls.length pre.length (grp ind width comma (!grouped) g r)
  | [], g, pre, hg, hl, ho => by
    refine ⟨List.length_pos_iff.mpr hg, ho, fun h => absurd rfl h, ?_⟩
    show _ = ls.length
    rw [hl]; simp
  | x :: r, g, pre, hg, hl, ho => by
    have hrow := okN_row (ind := ind) (width := width) (comma := comma) (grouped := grouped) (pre := pre) (g := g ++ [x]) (r := r) (by simp)
    have hl2 : ls = (pre ++ (g ++ [x]) ++ r).map Str.length := by rw [hl]; simp
    rw [← hl2] at hrow
    have hgl : 0 < g.length := List.length_pos_iff.mpr hg
    have hjl : (jn (g ++ [x])).length = (jn g).length + 2 + x.length := by
      rw [jn_snoc hg, List.length_append, List.length_append, ← len_cpl]; simp
    have hlen1 : ((g ++ [x]).length == 1) = false := by
      rw [List.length_append]; simp; exact hg
    have hends : (if (!r.isEmpty || comma) = true then 1 else 0) + (if (r.isEmpty && !grouped) = true then 1 else 0) = (if r.isEmpty = true then (if comma = true then 1 else 0) + (if grouped = true then 0 else 1) else 1) := by
      cases r <;> cases comma <;> cases grouped <;> rfl
    rw [hlen1, Bool.false_or, hjl, ← hends, List.length_append, List.length_cons, List.length_nil] at hrow
    rw [grp]
    by_cases h : (width : Int) < ((ind + (jn g).length + 2 + x.length + (if !r.isEmpty || comma then 1 else 0) + (if r.isEmpty && !grouped then 1 else 0) : Nat) : Int)
    · rw [if_pos h]
      refine ⟨hgl, ho, fun _ => ?_, ?_⟩
      · rw [← Nat.add_assoc] at hrow
        rw [show pre.length + g.length + 1 = pre.length + g.length + (0 + 1) by omega, hrow, decide_eq_false_iff_not]
        omega
      · have ih := grp_gr (ind := ind) (width := width) (comma := comma) (grouped := grouped) (ls := ls) (r := r) (g := [x]) (pre := pre ++ g) (by simp) (by rw [hl]; simp) (okN_one _ _ _ _ _ _)
        rw [List.length_append] at ih
        exact ih
    · rw [if_neg h]
      refine grp_gr (g := g ++ [x]) (pre := pre) (by simp) hl2 ?_
      rw [List.length_append, List.length_cons, List.length_nil, hrow, decide_eq_true_eq]
      omega
theorem Gr.get {ok : Nat → Nat → Bool} {n : Nat} : ∀ {gs : List (List Str)} {a i : Nat} {g : List Str}, Gr ok n a gs → gs[i]? = some g → 0 < g.length ∧ ok (a + (gs.take i).flatten.length) (a + (gs.take i).flatten.length + g.length) = true
  | [], _, _, _, _, h => by simp at h
  | g' :: gs, a, i, g, ⟨h1, h2, _, h4⟩, h => by
    cases i with
    | zero => cases h; exact ⟨h1, h2⟩
    | succ i =>
      have := h4.get (i := i) h
      rw [List.take_succ_cons, List.flatten_cons, List.length_append, ← Nat.add_assoc]
      exact this
theorem flat_get : ∀ {gs : List (List Str)} {i : Nat} {g : List Str}, gs[i]? = some g → ∃ r, gs.flatten = (gs.take i).flatten ++ g ++ r ∧ (r = [] → (∀ g ∈ gs, g ≠ []) → i + 1 = gs.length) ∧ (i + 1 = gs.length → r = [])
  | [], _, _, h => by simp at h
  | g' :: gs, i, g, h => by
    cases i with
    | zero =>
      cases h
      refine ⟨gs.flatten, by simp, fun h hne => ?_, fun h => ?_⟩
      · cases gs with
        | nil => rfl
        | cons k r =>
          rw [List.flatten_cons, List.append_eq_nil_iff] at h
          exact absurd h.1 (hne k (by simp))
      · simp at h
        rw [h]; rfl
    | succ i =>
      obtain ⟨r, hr, h1, h2⟩ := flat_get (gs := gs) (i := i) (g := g) h
      refine ⟨r, by rw [List.flatten_cons, hr, List.take_succ_cons, List.flatten_cons]; simp, fun h hne => ?_, fun h => h2 ?_⟩
      · rw [List.length_cons, h1 h fun k hk => hne k (.tail _ hk)]
      · rw [List.length_cons] at h
        omega
end Mine
namespace Mine
section
variable {ind x0 : Str} {width : Nat} {comma grouped : Bool} {r : List Str}
theorem gr0 : Gr (okN ind.length width ((x0 :: r).map Str.length) comma grouped) ((x0 :: r).map Str.length).length 0 (grp ind.length width comma (!grouped) [x0] r) :=
  grp_gr (pre := []) (by simp) rfl (okN_one _ _ _ _ _ 0)
theorem gr_ne : ∀ g ∈ grp ind.length width comma (!grouped) [x0] r, g ≠ [] := by
  intro g hg h
  obtain ⟨i, hi⟩ := List.getElem?_of_mem hg
  have := (gr0 (ind := ind) (width := width) (comma := comma) (grouped := grouped) (x0 := x0) (r := r)).get hi
  rw [h] at this
  exact absurd this.1 (by simp)
theorem gr_fit : ∀ i g, (grp ind.length width comma (!grouped) [x0] r)[i]? = some g → 1 < g.length →
    (rowS ind g (if i + 1 = (grp ind.length width comma (!grouped) [x0] r).length then endS comma grouped else Str.ofString ",")).length ≤ width := by
  intro i g hgi h1
  have hg := (gr0 (ind := ind) (width := width) (comma := comma) (grouped := grouped) (x0 := x0) (r := r)).get hgi
  obtain ⟨rr, hr, h2, h3⟩ := flat_get hgi
  rw [grp_flat] at hr
  have hgn : g ≠ [] := gr_ne g (List.mem_of_getElem? hgi)
  have ho := okN_row (ind := ind.length) (width := width) (comma := comma) (grouped := grouped) (pre := ((grp ind.length width comma (!grouped) [x0] r).take i).flatten) (g := g) (r := rr) hgn
  rw [← hr] at ho
  rw [Nat.zero_add] at hg
  have h9 := hg.2
  rw [show [x0] ++ r = x0 :: r from rfl] at ho
  rw [ho, show (g.length == 1) = false by rw [beq_eq_false_iff_ne]; omega, Bool.false_or, decide_eq_true_eq] at h9
  rw [rowS, len_app, len_app, len_cpl (jnS g), cpl_jnS]
  by_cases hl : i + 1 = (grp ind.length width comma (!grouped) [x0] r).length
  · rw [if_pos hl, endS_len]
    rw [if_pos (by rw [h3 hl]; rfl)] at h9
    omega
  · rw [if_neg hl, len_cm]
    have hrr : rr.isEmpty = false := by
      rw [List.isEmpty_eq_false_iff]
      exact fun h => hl (h2 h gr_ne)
    rw [hrr, if_neg (by decide)] at h9
    omega
theorem gr_least : lst (okN ind.length width ((x0 :: r).map Str.length) comma grouped) (x0 :: r).length = (grp ind.length width comma (!grouped) [x0] r).length := by
  have h := (gr0 (ind := ind) (width := width) (comma := comma) (grouped := grouped) (x0 := x0) (r := r)).least (okN_one _ _ _ _ _) (okN_mono _ _ _ _ _) grp_ne
  rw [List.length_map] at h
  exact h
theorem told_len {st cm : Str} {ntc : Bool} (hi : ind.length ≤ 5) (hx : GoodName x0) (hg : ∀ x ∈ r, GoodName x) (hr : r.length ≤ 10) (hst : st.length ≤ 20) (hcm : cm.length ≤ 20) :
    (vgEnd comma (vg ind width comma ntc (st ++ (cm ++ Str.ofString "\n" ++ ind ++ x0)) (ind ++ x0) r)).length ≤ 900 := by
  have hvl := vg_len (width := width) (comma := comma) (ntc := ntc) hi hg (S := st ++ (cm ++ Str.ofString "\n" ++ ind ++ x0)) (cur := ind ++ x0)
  have hve := vgEnd_len (comma := comma) (S := vg ind width comma ntc (st ++ (cm ++ Str.ofString "\n" ++ ind ++ x0)) (ind ++ x0) r)
  have hx0 := hx.2.1
  simp only [len_app, len_nl] at hvl
  omega
end
end Mine
namespace Mine
local macro_rules | `(tactic| walk_at "mine nothing") => `(tactic| skip)
local macro_rules | `(tactic| walk_at "mine nothing") => `(tactic| skip)
local macro_rules | `(tactic| walk_at "mine nothing") => `(tactic| skip)
local macro_rules | `(tactic| walk_at "mine nothing") => `(tactic| skip)
local macro_rules | `(tactic| walk_at "mine nothing") => `(tactic| skip)
local macro_rules | `(tactic| walk_at "mine nothing") => `(tactic| skip)
local macro_rules | `(tactic| walk_at "mine nothing") => `(tactic| skip)
local macro_rules | `(tactic| walk_at "mine nothing") => `(tactic| skip)
local macro_rules | `(tactic| walk_at "mine nothing") => `(tactic| skip)
local macro_rules | `(tactic| walk_at "mine nothing") => `(tactic| skip)
local macro_rules | `(tactic| walk_at "mine nothing") => `(tactic| skip)
local macro_rules | `(tactic| walk_at "mine nothing") => `(tactic| skip)
local macro_rules | `(tactic| walk_at "mine nothing") => `(tactic| skip)
local macro_rules | `(tactic| walk_at "mine nothing") => `(tactic| skip)
local macro_rules | `(tactic| walk_at "mine nothing") => `(tactic| skip)
local macro_rules | `(tactic| walk_at "mine nothing") => `(tactic| skip)
local macro_rules | `(tactic| walk_at "mine nothing") => `(tactic| skip)
local macro_rules | `(tactic| units_room) => `(tactic| (have hcL9 := cLine_is; (try simp only [units_in1, units_deeper, Around.mark_units, units_caller] at *); (try dsimp only [ktrTop] at *); omega))
local macro_rules | `(tactic| k_all) => `(tactic| assumption)
local macro_rules | `(tactic| walk_at "eval Name") => `(tactic| (k_here; (with_reducible show wpAny _ _ (eval _ (envOf _ _ _ _ _)) _ _ _); k_dflt (refine' ld ?k1 ?k2 ?_; (case k1 => k_asm); (case k2 => assumption); k_whole)))
local macro_rules | `(tactic| walk_at "mine enter") => `(tactic| ((refine wpAny_noRaise ?_); (refine wpAny_call ?_); (refine' code_def ?k1 ?k2 ?k3 ?k4 ?k5 ?kA ?kF ?kK ?k6 ?k7 ?k8 ?k9 ?kB ?_ ?c2 ?c3 ?c4 ?c5; (case kA => exact rfl); (case kF => exact rfl); (case kK => assumption); (case k1 => k_asm); (case k2 => k_asm); (case k3 => k_asm); (case k4 => k_asm); (case k5 => k_asm); (case k6 => k_is); (case k7 => k_is); (case k8 => ktr_room); (case k9 => first | exact BindsTo.of_eq rfl | exact binds_K (by k_in) rfl (by k_is) rfl rfl rfl); (case c5 => decide); (case kB => exact locs rfl); (case c2 => exact rfl); (case c3 => exact rfl); (case c4 => exact rfl); k_whole; intro g' L' h' FG' F' N' B' X' T'; (refine wpAny_noRaise ?_); (try dsimp only); (try k_lift B'); (try k_fold))))
local macro_rules | `(tactic| walk_at "eval Name") => `(tactic| (k_here; (with_reducible show wpAny _ _ (eval _ (envOf _ _ _ _ _)) _ _ _); (with_reducible rename Fr _ _ _ _ => kF); k_dflt (refine' name_B kF ?k1 ?k2 ?k3 ?k4 ?k5 ?_; (case k1 => k_asm); (case k2 => k_asm); (case k3 => k_is); (case k4 => boot_by_name); (case k5 => decide); k_whole)))
local macro_rules | `(tactic| walk_at "eval Name") => `(tactic| (k_here; (with_reducible show wpAny _ _ (eval _ (compEnvC _ _ _ _)) _ _ _); (with_reducible rename Fr _ _ _ _ => kF); k_dflt (refine' LCgL.ld_built kF ?k1 ?k2 ?k3 ?k4 ?k5 ?_; (case k1 => k_asm); (case k2 => k_asm); (case k3 => k_is); (case k4 => boot_by_name); (case k5 => decide); k_whole)))
local macro_rules | `(tactic| walk_at "eval Name") => `(tactic| (k_here; (with_reducible show wpAny _ _ (eval _ (compEnvC _ _ _ _)) _ _ _); k_dflt (refine' LCgL.ld_own ?k1 ?k2 ?k3 ?k4 ?_; (case k1 => k_asm); (case k2 => k_mem); (case k3 => k_asm); (case k4 => k_asm); k_whole)))
local macro_rules | `(tactic| walk_at "exec For Name Name cons nil") => `(tactic| refine Hold.go ?_)
local macro_rules | `(tactic| walk_at "exec For Name Call cons nil") => `(tactic| refine Hold.go ?_)
local macro_rules | `(tactic| walk_at "eval ListComp") => `(tactic| refine Hold.go ?_)
local macro_rules | `(tactic| walk_at "exec While") => `(tactic| refine Hold.go ?_)
local macro_rules | `(tactic| walk_at "pyIter ref") => `(tactic| ((with_reducible show wpAny _ _ (pyIter (Value.ref _)) (fun it s₂ => LoopAtV _ _ _ _ _ _ _ _ _ it s₂) _ _); refine Hold.go ?_))
local macro_rules | `(tactic| walk_at "execs nil") => `(tactic| refine wpAny_execs_nil ?_)
local macro_rules | `(tactic| walk_at "mine keep") => `(tactic| first | with_reducible exact over_keep | with_reducible exact fun _ _ => rfl | ((with_reducible refine if_keep (by simp only [List.mem_cons, eq_self, true_or, or_true]) ?_); walk_at "mine keep") | ((with_reducible refine over_sub ?ov1 ?ov2); (case ov1 => k_allIn); (case ov2 => walk_at "mine keep")))
local macro_rules | `(tactic| walk_at "call ref") => `(tactic| refine Hold.go ?_)
local macro_rules | `(tactic| walk_at "mine more") => `(tactic| ((refine wpAny_noRaise ?_); (refine wpAny_call ?_); (refine' enter_more ?k1 ?k2 ?k3 ?k4 ?k5 ?kA ?kF ?kK ?k6 ?k7 ?k8 ?kX ?kM ?kN ?kR ?kP ?kT ?kB ?_ ?c2 ?c3 ?c4 ?c5; (case kA => exact rfl); (case kF => exact rfl); (case kK => first | assumption | exact rfl); (case k1 => k_asm); (case k2 => k_asm); (case k3 => k_asm); (case k4 => k_asm); (case k5 => k_asm); (case k6 => k_is); (case k7 => k_is); (case k8 => ktr_room); (case kX => kp_lit); (case kM => exact rfl); (case kN => exact rfl); (case kR => exact rfl); (case kP => exact rfl); (case kT => exact fun _ => rfl); (case kB => exact fun _ => locs rfl); (case c5 => decide); (case c2 => exact rfl); (case c3 => exact rfl); (case c4 => exact rfl); k_whole; intro D' o' g' L' h' tk' l1 lo' hs' FG' F' N' B' X' T'; (refine wpAny_noRaise ?_); (try k_lt l1); (try dsimp only); (try k_lift B'); (try k_fold))))
local macro_rules | `(tactic| walk_at "subscriptTail") => `(tactic| (k_here; (with_reducible show wpAny _ _ (subscriptTail _ _ (Value.ref _) (Value.str _ _)) _ _ _); k_dflt (refine' kw_item ?k1 ?k2 ?k3 ?k4 ?_; (case k1 => k_asm); (case k2 => k_mem); (case k3 => k_asm); (case k4 => with_reducible first | exact gk_statement | exact gk_imports | exact gk_indent | exact gk_length | exact gk_comments | exact gk_sep | exact gk_prefix | exact gk_comma | exact gk_remove); k_whole; (try dsimp only))))
local macro_rules | `(tactic| walk_at "getItem ref str") => `(tactic| (k_here; k_dflt (refine' kw_get ?k1 ?k2 ?k3 ?k4 ?_; (case k1 => k_asm); (case k2 => k_mem); (case k3 => k_asm); (case k4 => with_reducible first | exact gk_statement | exact gk_imports | exact gk_indent | exact gk_length | exact gk_comments | exact gk_sep | exact gk_prefix | exact gk_comma | exact gk_remove); k_whole; (try dsimp only))))
local macro_rules | `(tactic| walk_at "truthy ref") => `(tactic| (k_here; k_dflt (first | (refine' truthy_cons ?k1 ?k2 ?k3 ?_; (case k1 => k_asm); (case k2 => k_mem); (case k3 => omega); k_whole) | (refine' truthy_nil ?k1 ?k2 ?_; (case k1 => k_asm); (case k2 => k_mem); k_whole))))
local macro_rules | `(tactic| walk_at "callWith ref") => `(tactic| (k_here; (with_reducible show wpAny _ _ (callWith _ (Value.ref _) _ (backTo _ (starEach [] _)) (backToKw _ (keywordEach (_ :: _) _))) _ _ _); k_dflt ((with_reducible refine' callWith_KW0 ?k1 ?k2 ?k3 ?_ ?k4); (case k1 => k_asm); (case k2 => k_is); (case k3 => exact rfl); (case k4 => exact rfl); k_whole)))
theorem reset11 : True := by (w_top off; trivial)
theorem my_len {prog : Program} {w : World} {A : Around} {E : Value → Shared → Prop} {s : Shared} {h₀ : Heap} {L l : Addr} {news : List (Addr × Obj)} {n : Nat} {vs : List Value} {Q : Value → Shared → Prop} (N : News h₀ L s.heap news) (hm : (l, listOf vs.toArray n) ∈ news) (hz : vs.length ≤ 1000)
    (h : Q (.int (vs.length : Nat) (s.toks + 1)) { s with toks := s.toks + 1 + 1 }) : wpAny (model prog w) A (call (.builtin "len") [.ref l]) Q E s := by
  refine len_list (News.isList N hm) (by rw [List.size_toArray]; omega) ?_
  rw [List.size_toArray]
  exact h
theorem my_item {prog : Program} {w : World} {A : Around} {E : Value → Shared → Prop} {s : Shared} {h₀ : Heap} {L l : Addr} {news : List (Addr × Obj)} {n : Nat} {vs : List Value} {ws : List Str} {x : Str} {k : Int} {u : Tok} {value slice : PySem.Expr} {Q : Value → Shared → Prop} (N : News h₀ L s.heap news) (hm : (l, listOf vs.toArray n) ∈ news) (hw : StrsAre vs ws)
    (h0 : 0 ≤ k) (hfit : k < 100) (hx : ws[k.toNat]? = some x) (h : ∀ t, Q (.str x t) s)
    (hs : subscripted slice false (.ref l) (.int k u) = operate [.ref l, .int k u] (getItem (.ref l) (.int k u)) := by with_unfolding_all rfl) :
    wpAny (model prog w) A (subscriptTail value slice (.ref l) (.int k u)) Q E s := by
  obtain ⟨t, e⟩ := hw.get k.toNat x hx
  exact tail_any (News.isList N hm).typeIs slot_list_getitem.lookup (wpAny_getItem_list (News.isList N hm) h0 (by omega) (x := .str x t) (by simpa using e) (h t)) hs
theorem flat_ge : ∀ {gs : List (List Str)}, (∀ g ∈ gs, g ≠ []) → gs.length ≤ gs.flatten.length
  | [], _ => by simp
  | g :: gs, h => by
    have h1 := flat_ge (gs := gs) fun k hk => h k (.tail _ hk)
    have h2 : 0 < g.length := List.length_pos_iff.mpr (h g List.mem_cons_self)
    rw [List.flatten_cons, List.length_append, List.length_cons]
    omega
theorem row_facts (ind : Str) (g : List Str) (e : Str) (n : Nat) (hn : n = e.length) : Txt.slice (rowS ind g e) none (some (ind.length : Int)) = ind ∧
    Txt.slice (Txt.slice (rowS ind g e) (some (ind.length : Int)) none) (some (((Txt.slice (rowS ind g e) (some (ind.length : Int)) none).length : Int) - (n : Int))) none = e ∧
    Txt.slice (Txt.slice (rowS ind g e) (some (ind.length : Int)) none) none (some (((Txt.slice (rowS ind g e) (some (ind.length : Int)) none).length : Int) - (n : Int))) = jnS g := by
  have e2 : Txt.slice (rowS ind g e) (some (ind.length : Int)) none = jnS g ++ e := slice_suf (a := cpl ind) (cpl_app _ _) (by rw [len_cpl])
  have hl : (jnS g ++ e).length = (jn g).length + e.length := by rw [len_app, len_cpl, cpl_jnS]
  have hj : (jnS g).length = (jn g).length := by rw [len_cpl, cpl_jnS]
  rw [e2, hl]
  refine ⟨slice_pre (cpl_app _ _) rfl, slice_suf (a := jn g) ?_ (by omega), slice_pre (a := jnS g) (b := cpl e) (cpl_app _ _) (by omega)⟩
  show cpl (jnS g ++ e) = jn g ++ cpl e
  rw [cpl_app, cpl_jnS]
theorem row_len (ind : Str) (g : List Str) (e : Str) (hi : ind.length ≤ 5) (hg : ∀ x ∈ g, GoodName x) (hgn : g ≠ []) (hgl : g.length ≤ 11) (he : e.length ≤ 2) : (rowS ind g e).length ≤ 300 := by
  have h1 : (g.map Str.length).sum ≤ 14 * g.length := by
    clear hgn hgl
    induction g with
    | nil => simp
    | cons x r ih =>
      have h1 := (hg x List.mem_cons_self).2.1
      have h2 := ih fun y hy => hg y (.tail _ hy)
      simp only [List.map_cons, List.sum_cons, List.length_cons]
      omega
  rw [rowS, len_app, len_app, len_cpl (jnS g), cpl_jnS, jn_len hgn]
  omega
theorem datOf {n₁ : List (Addr × Obj)} : ∀ {vs : List Value} {ws : List Str}, StrsAre vs ws → DatAll n₁ vs (ws.map Dat.str)
  | _, _, .nil => .nil
  | _, _, .cons x t h => .cons (.str x t) (datOf h)
theorem ne_strs {prog : Program} {w : World} {A : Around} {E : Value → Shared → Prop} {s : Shared} {h₀ : Heap} {L a b : Addr} {news : List (Addr × Obj)} {xs ys : List Value} {na nb : Nat} {ws : List Str} {Q : Value → Shared → Prop} (N : News h₀ L s.heap news)
    (ma : (a, listOf xs.toArray na) ∈ news) (mb : (b, listOf ys.toArray nb) ∈ news) (hx : StrsAre xs ws) (hy : StrsAre ys ws) (hg : ∀ x ∈ ws, GoodName x) (hu : A.units + 64 < cLine) (h : Q (.bool false) s) : wpAny (model prog w) A (compareOp .NotEq (.ref a) (.ref b)) Q E s := by
  have ok : ∀ d ∈ ws.map Dat.str, kqdOk 8 d = true := by
    intro d hd
    obtain ⟨x, hx, rfl⟩ := List.mem_map.mp hd
    show PyData.strOk x = true
    unfold PyData.strOk
    rw [Array.all_eq_true']
    intro c hc
    have := ((hg x hx).2.2 c (Array.mem_toList_iff.mpr hc)).2.2
    rw [decide_eq_true_eq]
    omega
  refine kqd_ne (n₁ := []) (n₂ := []) N ma rfl rfl (datOf hx) (fun _ h => nomatch h) mb rfl rfl (datOf hy) (fun _ h => nomatch h) ok ok hu ?_
  simpa using h
theorem ne_same {prog : Program} {w : World} {A : Around} {E : Value → Shared → Prop} {s : Shared} {x y : Str} {t u : Tok} {Q : Value → Shared → Prop} (e : x = y) (h : Q (.bool false) s) : wpAny (model prog w) A (compareOp .NotEq (.str x t) (.str y u)) Q E s := by
  subst e
  refine P.ne_str ?_
  rw [show (x.cps.toList != x.cps.toList) = false by simp]
  exact h
section
variable {prog : Program} {w : World} {A : Around} {E : Value → Shared → Prop} {s : Shared} {a b : Int} {t u : Tok} {Q : Value → Shared → Prop}
theorem eq_yes (e : a = b) (h : Q (.bool true) s) : wpAny (model prog w) A (compareOp .Eq (.int a t) (.int b u)) Q E s := P.eq_int (by rw [show (a == b) = true from beq_iff_eq.mpr e]; exact h)
theorem eq_no (e : ¬ a = b) (h : Q (.bool false) s) : wpAny (model prog w) A (compareOp .Eq (.int a t) (.int b u)) Q E s := P.eq_int (by rw [show (a == b) = false from beq_eq_false_iff_ne.mpr e]; exact h)
theorem gt_yes (e : a > b) (h : Q (.bool true) s) : wpAny (model prog w) A (compareOp .Gt (.int a t) (.int b u)) Q E s := P.gt_int (by rw [show decide (a > b) = true from decide_eq_true e]; exact h)
theorem gt_no (e : ¬ a > b) (h : Q (.bool false) s) : wpAny (model prog w) A (compareOp .Gt (.int a t) (.int b u)) Q E s := P.gt_int (by rw [show decide (a > b) = false from decide_eq_false e]; exact h)
end
theorem my_item_neg {prog : Program} {w : World} {A : Around} {E : Value → Shared → Prop} {s : Shared} {h₀ : Heap} {L l : Addr} {news : List (Addr × Obj)} {n : Nat} {vs : List Value} {ws : List Str} {x : Str} {u : Tok} {value slice : PySem.Expr} {Q : Value → Shared → Prop} (N : News h₀ L s.heap news) (hm : (l, listOf vs.toArray n) ∈ news) (hw : StrsAre vs (ws ++ [x]))
    (h : ∀ t, Q (.str x t) s)
    (hs : subscripted slice false (.ref l) (.int (-1) u) = operate [.ref l, .int (-1) u] (getItem (.ref l) (.int (-1) u)) := by with_unfolding_all rfl) :
    wpAny (model prog w) A (subscriptTail value slice (.ref l) (.int (-1) u)) Q E s := by
  obtain ⟨t, e⟩ := hw.get ws.length x (by simp)
  have hl := hw.length
  rw [List.length_append, List.length_cons, List.length_nil] at hl
  refine tail_any (News.isList N hm).typeIs slot_list_getitem.lookup (wpAny_getItem_list_neg (News.isList N hm) (by omega) (by rw [List.size_toArray]; omega) (by omega) (x := .str x t) ?_ (h t)) hs
  rw [List.size_toArray, hl, show ((-1 : Int) + ((ws.length + (0 + 1) : Nat) : Int)).toNat = ws.length by omega]
  simpa using e
theorem pick_init {vs : List Value} {n : Nat} (h : vs.length = n + 1) : slicePick vs.toArray none (some (-1)) none = (vs.take n).toArray := by
  have e : sliceBounds none (some (-1)) none vs.toArray.size = (((0 : Nat) : Int), ((n : Nat) : Int), 1) := by
    simp only [sliceBounds, Option.getD_none, show (1 : Int) > 0 by decide, if_true, List.size_toArray, h]
    congr 1
    congr 1
    rw [if_pos (by decide)]
    omega
  rw [kmk_pick_nat _ e, List.drop_zero, Nat.sub_zero]
theorem endS_tf : endS true false = Str.ofString ",)" := by decide +kernel
theorem endS_ff : endS false false = Str.ofString ")" := by decide +kernel
theorem endS_tt : endS true true = Str.ofString "," := by decide +kernel
theorem endS_ft : endS false true = Str.ofString "" := by decide +kernel
theorem my_slice {prog : Program} {w : World} {A : Around} {E : Value → Shared → Prop} {g d t o} {H : Heap} {h₀ : Heap} {L l : Addr} {m : Str → Option Value} {news : List (Addr × Obj)} {vs : List Value} {n : Nat} {nm : Str} {p1 p2 : Pos} {el eh : Option PySem.Expr} {vl vu : Value} {lo hi : Option Int} {Q : Value → Shared → Prop}
    (F : Fr h₀ L H m) (N : News h₀ L H news) (hm : (l, listOf vs.toArray n) ∈ news) (pl : IsPart vl lo) (pu : IsPart vu hi) (hz : vs.length ≤ 1000)
    (h : ∀ h', Fr h₀ L h' m → News h₀ L h' ((H.objs.size + 1, { cls := .type "list", data := .seq (slicePick vs.toArray lo hi none) }) :: news) → Q (.ref (H.objs.size + 1)) { heap := h', gens := g, drawn := d, toks := t, os := o }) :
    wpAny (model prog w) A (subscriptTail (.Name nm p1) (.Slice el eh none p2) (.ref l) (.ref H.objs.size)) Q E { heap := H.push { cls := .type "slice", data := .fields #[vl, vu, .none] }, gens := g, drawn := d, toks := t, os := o } :=
  slice_list (s := { heap := H, gens := g, drawn := d, toks := t, os := o }) F N (News.isList N hm) pl pu h (by with_unfolding_all rfl) (by intro _; with_unfolding_all rfl) (by rw [PySem.sizeLine_eq, List.size_toArray]; omega)
end Mine
namespace Mine
local macro_rules | `(tactic| walk_at "mine nothing") => `(tactic| skip)
local macro_rules | `(tactic| walk_at "mine nothing") => `(tactic| skip)
local macro_rules | `(tactic| walk_at "mine nothing") => `(tactic| skip)
local macro_rules | `(tactic| walk_at "mine nothing") => `(tactic| skip)
local macro_rules | `(tactic| walk_at "mine nothing") => `(tactic| skip)
local macro_rules | `(tactic| walk_at "mine nothing") => `(tactic| skip)
local macro_rules | `(tactic| walk_at "mine nothing") => `(tactic| skip)
local macro_rules | `(tactic| walk_at "mine nothing") => `(tactic| skip)
local macro_rules | `(tactic| walk_at "mine nothing") => `(tactic| skip)
local macro_rules | `(tactic| walk_at "mine nothing") => `(tactic| skip)
local macro_rules | `(tactic| walk_at "mine nothing") => `(tactic| skip)
local macro_rules | `(tactic| walk_at "mine nothing") => `(tactic| skip)
local macro_rules | `(tactic| walk_at "mine nothing") => `(tactic| skip)
local macro_rules | `(tactic| walk_at "mine nothing") => `(tactic| skip)
local macro_rules | `(tactic| walk_at "mine nothing") => `(tactic| skip)
local macro_rules | `(tactic| walk_at "mine nothing") => `(tactic| skip)
local macro_rules | `(tactic| walk_at "mine nothing") => `(tactic| skip)
local macro_rules | `(tactic| walk_at "mine nothing") => `(tactic| skip)
local macro_rules | `(tactic| units_room) => `(tactic| (have hcL9 := cLine_is; (try simp only [units_in1, units_deeper, Around.mark_units, units_caller] at *); (try dsimp only [ktrTop] at *); omega))
local macro_rules | `(tactic| k_all) => `(tactic| assumption)
local macro_rules | `(tactic| walk_at "eval Name") => `(tactic| (k_here; (with_reducible show wpAny _ _ (eval _ (envOf _ _ _ _ _)) _ _ _); k_dflt (refine' ld ?k1 ?k2 ?_; (case k1 => k_asm); (case k2 => assumption); k_whole)))
local macro_rules | `(tactic| walk_at "mine enter") => `(tactic| ((refine wpAny_noRaise ?_); (refine wpAny_call ?_); (refine' code_def ?k1 ?k2 ?k3 ?k4 ?k5 ?kA ?kF ?kK ?k6 ?k7 ?k8 ?k9 ?kB ?_ ?c2 ?c3 ?c4 ?c5; (case kA => exact rfl); (case kF => exact rfl); (case kK => assumption); (case k1 => k_asm); (case k2 => k_asm); (case k3 => k_asm); (case k4 => k_asm); (case k5 => k_asm); (case k6 => k_is); (case k7 => k_is); (case k8 => ktr_room); (case k9 => first | exact BindsTo.of_eq rfl | exact binds_K (by k_in) rfl (by k_is) rfl rfl rfl); (case c5 => decide); (case kB => exact locs rfl); (case c2 => exact rfl); (case c3 => exact rfl); (case c4 => exact rfl); k_whole; intro g' L' h' FG' F' N' B' X' T'; (refine wpAny_noRaise ?_); (try dsimp only); (try k_lift B'); (try k_fold))))
local macro_rules | `(tactic| walk_at "eval Name") => `(tactic| (k_here; (with_reducible show wpAny _ _ (eval _ (envOf _ _ _ _ _)) _ _ _); (with_reducible rename Fr _ _ _ _ => kF); k_dflt (refine' name_B kF ?k1 ?k2 ?k3 ?k4 ?k5 ?_; (case k1 => k_asm); (case k2 => k_asm); (case k3 => k_is); (case k4 => boot_by_name); (case k5 => decide); k_whole)))
local macro_rules | `(tactic| walk_at "eval Name") => `(tactic| (k_here; (with_reducible show wpAny _ _ (eval _ (compEnvC _ _ _ _)) _ _ _); (with_reducible rename Fr _ _ _ _ => kF); k_dflt (refine' LCgL.ld_built kF ?k1 ?k2 ?k3 ?k4 ?k5 ?_; (case k1 => k_asm); (case k2 => k_asm); (case k3 => k_is); (case k4 => boot_by_name); (case k5 => decide); k_whole)))
local macro_rules | `(tactic| walk_at "eval Name") => `(tactic| (k_here; (with_reducible show wpAny _ _ (eval _ (compEnvC _ _ _ _)) _ _ _); k_dflt (refine' LCgL.ld_own ?k1 ?k2 ?k3 ?k4 ?_; (case k1 => k_asm); (case k2 => k_mem); (case k3 => k_asm); (case k4 => k_asm); k_whole)))
local macro_rules | `(tactic| walk_at "exec For Name Name cons nil") => `(tactic| refine Hold.go ?_)
local macro_rules | `(tactic| walk_at "exec For Name Call cons nil") => `(tactic| refine Hold.go ?_)
local macro_rules | `(tactic| walk_at "eval ListComp") => `(tactic| refine Hold.go ?_)
local macro_rules | `(tactic| walk_at "exec While") => `(tactic| refine Hold.go ?_)
local macro_rules | `(tactic| walk_at "pyIter ref") => `(tactic| ((with_reducible show wpAny _ _ (pyIter (Value.ref _)) (fun it s₂ => LoopAtV _ _ _ _ _ _ _ _ _ it s₂) _ _); refine Hold.go ?_))
local macro_rules | `(tactic| walk_at "execs nil") => `(tactic| refine wpAny_execs_nil ?_)
local macro_rules | `(tactic| walk_at "mine keep") => `(tactic| first | with_reducible exact over_keep | with_reducible exact fun _ _ => rfl | ((with_reducible refine if_keep (by simp only [List.mem_cons, eq_self, true_or, or_true]) ?_); walk_at "mine keep") | ((with_reducible refine over_sub ?ov1 ?ov2); (case ov1 => k_allIn); (case ov2 => walk_at "mine keep")))
local macro_rules | `(tactic| walk_at "call ref") => `(tactic| refine Hold.go ?_)
local macro_rules | `(tactic| walk_at "mine more") => `(tactic| ((refine wpAny_noRaise ?_); (refine wpAny_call ?_); (refine' enter_more ?k1 ?k2 ?k3 ?k4 ?k5 ?kA ?kF ?kK ?k6 ?k7 ?k8 ?kX ?kM ?kN ?kR ?kP ?kT ?kB ?_ ?c2 ?c3 ?c4 ?c5; (case kA => exact rfl); (case kF => exact rfl); (case kK => first | assumption | exact rfl); (case k1 => k_asm); (case k2 => k_asm); (case k3 => k_asm); (case k4 => k_asm); (case k5 => k_asm); (case k6 => k_is); (case k7 => k_is); (case k8 => ktr_room); (case kX => kp_lit); (case kM => exact rfl); (case kN => exact rfl); (case kR => exact rfl); (case kP => exact rfl); (case kT => exact fun _ => rfl); (case kB => exact fun _ => locs rfl); (case c5 => decide); (case c2 => exact rfl); (case c3 => exact rfl); (case c4 => exact rfl); k_whole; intro D' o' g' L' h' tk' l1 lo' hs' FG' F' N' B' X' T'; (refine wpAny_noRaise ?_); (try k_lt l1); (try dsimp only); (try k_lift B'); (try k_fold))))
local macro_rules | `(tactic| walk_at "subscriptTail") => `(tactic| (k_here; (with_reducible show wpAny _ _ (subscriptTail _ _ (Value.ref _) (Value.str _ _)) _ _ _); k_dflt (refine' kw_item ?k1 ?k2 ?k3 ?k4 ?_; (case k1 => k_asm); (case k2 => k_mem); (case k3 => k_asm); (case k4 => with_reducible first | exact gk_statement | exact gk_imports | exact gk_indent | exact gk_length | exact gk_comments | exact gk_sep | exact gk_prefix | exact gk_comma | exact gk_remove); k_whole; (try dsimp only))))
local macro_rules | `(tactic| walk_at "getItem ref str") => `(tactic| (k_here; k_dflt (refine' kw_get ?k1 ?k2 ?k3 ?k4 ?_; (case k1 => k_asm); (case k2 => k_mem); (case k3 => k_asm); (case k4 => with_reducible first | exact gk_statement | exact gk_imports | exact gk_indent | exact gk_length | exact gk_comments | exact gk_sep | exact gk_prefix | exact gk_comma | exact gk_remove); k_whole; (try dsimp only))))
local macro_rules | `(tactic| walk_at "truthy ref") => `(tactic| (k_here; k_dflt (first | (refine' truthy_cons ?k1 ?k2 ?k3 ?_; (case k1 => k_asm); (case k2 => k_mem); (case k3 => omega); k_whole) | (refine' truthy_nil ?k1 ?k2 ?_; (case k1 => k_asm); (case k2 => k_mem); k_whole))))
local macro_rules | `(tactic| walk_at "callWith ref") => `(tactic| (k_here; (with_reducible show wpAny _ _ (callWith _ (Value.ref _) _ (backTo _ (starEach [] _)) (backToKw _ (keywordEach (_ :: _) _))) _ _ _); k_dflt ((with_reducible refine' callWith_KW0 ?k1 ?k2 ?k3 ?_ ?k4); (case k1 => k_asm); (case k2 => k_is); (case k3 => exact rfl); (case k4 => exact rfl); k_whole)))
theorem reset12 : True := by (w_top off; trivial)
local macro_rules | `(tactic| walk_at "subscriptTail") => `(tactic| ((with_reducible show wpAny _ _ (subscriptTail _ _ (Value.ref _) (Value.int _ _)) _ _ _); refine Hold.go ?_))
local macro_rules | `(tactic| walk_at "call builtin:str.split") => `(tactic| refine Hold.go ?_)
local macro_rules | `(tactic| walk_at "mine item") => `(tactic| ((with_reducible refine' my_item ?k1 ?k2 ?k3 ?k4 ?k5 ?k6 ?_ ?k8); (case k1 => k_asm); (case k2 => k_mem); (case k3 => assumption); (case k4 => omega); (case k5 => omega); (case k6 => first | exact rfl | (rename ∀ _ : Nat, (_ = some _) => hq; exact hq 0)); (case k8 => with_unfolding_all rfl); k_whole))
local macro_rules | `(tactic| walk_at "call builtin:len") => `(tactic| (k_here; (with_reducible show wpAny _ _ (call (Value.builtin "len") [Value.ref _]) _ _ _); k_dflt (refine' my_len ?k1 ?k2 ?k3 ?_; (case k1 => k_asm); (case k2 => k_mem); (case k3 => omega); k_whole)))
local macro_rules | `(tactic| walk_at "compareOp Eq int int") => `(tactic| (k_here; first | ((with_reducible refine' eq_yes ?k1 ?_); (case k1 => omega)) | ((with_reducible refine' eq_no ?k1 ?_); (case k1 => omega))))
local macro_rules | `(tactic| walk_at "compareOp Gt int int") => `(tactic| (k_here; first | ((with_reducible refine' gt_yes ?k1 ?_); (case k1 => omega)) | ((with_reducible refine' gt_no ?k1 ?_); (case k1 => omega))))
local macro_rules | `(tactic| walk_at "compareOp NotEq str str") => `(tactic| (k_here; (refine ne_same ?_ ?_); focus (first | (with_reducible rfl) | (rename ∀ _ : Nat, ((_ = _) ∧ _ ∧ _) => hq; first | exact (hq 0).1 | exact (hq 0).2.1))))
local macro_rules | `(tactic| walk_at "compareOp NotEq ref ref") => `(tactic| refine Hold.go ?_)
local macro_rules | `(tactic| walk_at "mine last") => `(tactic| ((with_reducible refine' my_item_neg ?k1 ?k2 ?k3 ?_ ?k8); (case k1 => k_asm); (case k2 => k_mem); (case k3 => assumption); (case k8 => with_unfolding_all rfl); k_whole))
local macro_rules | `(tactic| walk_at "subscriptTail Name Name ref int") => `(tactic| refine Hold.go ?_)
local macro_rules | `(tactic| walk_at "subscriptTail Name Constant ref int") => `(tactic| refine Hold.go ?_)
local macro_rules | `(tactic| walk_at "subscriptTail Name UnaryOp ref int") => `(tactic| refine Hold.go ?_)
local macro_rules | `(tactic| walk_at "subscriptTail Name Slice ref ref") => `(tactic| (k_here; (try dsimp only); (refine' my_slice ?k1 ?k2 ?k3 ?k4 ?k5 ?k6 ?_); (case k1 => k_asm); (case k2 => k_asm); (case k3 => k_mem); (case k4 => first | exact .none | exact .int _ _); (case k5 => first | exact .none | exact .int _ _); (case k6 => omega); k_whole; intro _ _ _))
theorem fits0_spec {w : World} {loose : List Str} {mean : ExcName → Option Value} {mg mb : Str → Option Value} {A₀ : Around} {base h₀ : Heap} {dp un : Nat} {gd : Option (List Code)} {cn : Str} {cs : Scope} {a : Addr} {ccd : Value} {cl : List (Str × Addr)} {outer : List Env} {L : Addr}
  {m : Str → Option Value} {s : Shared} {l : Addr} {nl : Nat} {nvs : List Value} {names : List Str} {told head indent : Str} {tt th ti tw : Tok} {width : Nat} {comma : Bool} {gs : List (List Str)} {rest : List (Addr × Obj)} {Q E : Value → Shared → Prop}
  (B : Below A₀ base outer h₀) (F : Fr h₀ L s.heap m) (X : (hd.heap_39 w.params).In h₀)
  (N : News h₀ L s.heap ((l, listOf nvs.toArray nl) :: rest))
  (T : Top hd.view_39 loose mean mg mb h₀) (hke : cs.kind = .function)
  (hroom : dp + 40 < recursionLimit) (hun : un + 500 < cLine)
  (hS : StrsAre nvs names) (hlen : names.length ≤ 11) (hg : ∀ x ∈ names, GoodName x) (hind : indent.length ≤ 5) (hw : width ≤ 100)
  (htl : told.length ≤ 1000) (hsp : Txt.split told (Str.ofString "\n") = head :: rowsS indent (endS comma false) gs)
  (hgs : gs ≠ []) (hfl : gs.flatten = names) (hne : ∀ g ∈ gs, g ≠ [])
  (hfit : ∀ i g, gs[i]? = some g → 1 < g.length → (rowS indent g (if i + 1 = gs.length then endS comma false else Str.ofString ",")).length ≤ width)
  (hleast : lst (okN indent.length width (names.map Str.length) comma false) names.length = gs.length)
  (ret : ∀ h' tk', Fr h₀ L h' m → News h₀ L h' ((l, listOf nvs.toArray nl) :: rest) → Q (.bool true) { s with heap := h', toks := tk' }) :
  wpAny (model Challenge.rw_fj5009_01.row.prog w) (ktrTop dp un gd cn cs L a ccd cl outer) (call (.ref 88) [.str told tt, .str head th, .str indent ti, .ref l, .int width tw, .bool comma, .bool false]) Q E s := by
  revert X; k_fill; intro X
  have hnv : nvs.length ≤ 11 := by rw [hS.length]; exact hlen
  walk_at "mine enter"
  k_steps
  refine Hold.out (KSpl.split1 (by k_asm) (by k_asm) (by decide) ?_ (by rw [PySem.sizeLine_eq]; omega))
  intro rr l' h1 k1 e1 S1 F1 N1 l1
  rw [e1, hsp] at S1
  generalize strValues l' = rvs at S1 N1
  have hrl : rvs.length = gs.length + 1 := by rw [S1.length, List.length_cons, rowsS_length]
  have hgl : gs.length ≤ 11 := Nat.le_trans (by rw [← hfl]; exact flat_ge hne) hlen
  have hrv : rvs.length ≤ 12 := by omega
  k_steps
  refine Hold.out ?_
  walk_at "mine item"
  intro t5
  k_steps
  refine Hold.out (For_invVF (by k_asm) (by exact rfl) (by exact rfl) ?_ (hE := PassesOwn.never))
  k_steps
  refine Hold.out (iter_rangeK (n := gs.length) [Str.ofString "k", Str.ofString "row", Str.ofString "body", Str.ofString "end", Str.ofString "held", Str.ofString "first"]
    (fun i m nx => nx = (rr, listOf rvs.toArray 0) :: (l, listOf nvs.toArray nl) :: rest ∧ ∃ t, m (Str.ofString "first") = some (.int ((gs.take i).flatten.length : Nat) t))
    rfl (by assumption) (small_of gs.length (by omega) (by omega) (by omega) (by omega) (by omega)) (size_of gs.length (by omega)) (by k_asm) (by k_asm)
    ⟨rfl, _, rfl⟩ ?_ ?_)
  · rintro i t m₁ nx h tk own hi _ hoff ⟨rfl, t1, hf1⟩ F9 N9
    dsimp only
    simp only [List.map_cons, List.cons_append] at hoff N9
    obtain ⟨g, hgi⟩ : ∃ g, gs[i]? = some g := ⟨_, List.getElem?_eq_getElem hi⟩
    obtain ⟨rr9, hfg, _, _⟩ := flat_get hgi
    rw [hfl] at hfg
    have hgn := hne g (List.mem_of_getElem? hgi)
    have hgg : ∀ x ∈ g, GoodName x := fun x hx => hg x (by rw [hfg]; simp [hx])
    have hnl : names.length = (gs.take i).flatten.length + g.length + rr9.length := by rw [hfg]; simp; omega
    have hgl1 : g.length ≤ 11 := by omega
    have hnn := hS.length
    have hsub : StrsAre ((nvs.drop (gs.take i).flatten.length).take g.length) g := by
      have h9 := (hS.drop' (gs.take i).flatten.length).take' g.length
      rwa [show (names.drop (gs.take i).flatten.length).take g.length = g by rw [hfg, List.append_assoc, List.drop_left, List.take_left]] at h9
    have hnext : (((gs.take i).flatten.length : Nat) : Int) + (g.length : Nat) = (((gs.take (i + 1)).flatten.length : Nat) : Int) := by
      rw [List.take_add_one, hgi, List.flatten_append, List.length_append]
      simp
    have hri : ∀ _ : Nat, (head :: rowsS indent (endS comma false) gs)[(1 + (i : Int)).toNat]? = some (rowS indent g (if i + 1 = gs.length then endS comma false else Str.ofString ",")) := fun _ => by
      rw [show (1 + (i : Int)).toNat = i + 1 by omega, List.getElem?_cons_succ, rowsS_get hgi]
    have hft := hfit i g hgi
    clear hfg hgi hfit hsp hfl hne
    by_cases hlast : i + 1 = gs.length
    · rw [if_pos hlast] at hft
      simp only [if_pos hlast] at hri
      have hk9 : 1 + (i : Int) = (rvs.length : Int) - 1 := by omega
      cases comma
      ·
        have fac : ∀ _ : Nat, _ := fun _ => row_facts indent g (Str.ofString ")") 1 rfl
        have hbl := row_len indent g (Str.ofString ")") hind hgg hgn hgl1 (by decide)
        rw [endS_ff] at hft
        replace hri : ∀ _ : Nat, (head :: rowsS indent (endS false false) gs)[(1 + (i : Int)).toNat]? = some (rowS indent g (Str.ofString ")")) := fun z => by rw [hri z, endS_ff]
        generalize rowS indent g (Str.ofString ")") = R at hri hft fac hbl
        k_steps
        refine Hold.out ?_
        walk_at "mine item"
        intro t5
        k_steps
        refine Hold.out (KSpl.split1 (by k_asm) (by k_asm) (by decide) ?_ (by rw [PySem.sizeLine_eq]; omega))
        intro rh lh h2 k2 e2 S2 F2 N2 l3
        rw [e2, (fac 0).2.2, split_row hgn hgg] at S2
        generalize strValues lh = hvs at S2 N2
        have hhl := S2.length
        have hpick : slicePick nvs.toArray (some (((gs.take i).flatten.length : Nat) : Int)) (some ((((gs.take i).flatten.length : Nat) : Int) + ((hvs.length : Nat) : Int))) none = ((nvs.drop (gs.take i).flatten.length).take g.length).toArray := by
          rw [pick_mid (by omega) (by omega) (by omega), hhl]
          congr 3
          omega
        k_steps
        rename News _ _ _ _ => N6
        (try dsimp only at N6)
        (try dsimp only)
        rw [hpick] at N6
        refine Hold.out (ne_strs (na := 0) (nb := 0) N6 (.tail _ (.head _)) (.head _) S2 hsub hgg (by units_room) ?_)
        k_steps
        all_goals (rename Fr _ _ _ (fun _ => _) => F6; rename News _ _ _ _ => N6)
        all_goals exact TEnd.intro (nx := (rr, listOf rvs.toArray 0) :: (l, listOf nvs.toArray nl) :: rest) F6 (news_tl (news_tl N6)) rfl (by walk_at "mine keep") ⟨rfl, _, by rw [← hnext, ← hhl]; rfl⟩
      ·
        have fac : ∀ _ : Nat, _ := fun _ => row_facts indent g (Str.ofString ",)") 2 rfl
        have hbl := row_len indent g (Str.ofString ",)") hind hgg hgn hgl1 (by decide)
        rw [endS_tf] at hft
        replace hri : ∀ _ : Nat, (head :: rowsS indent (endS true false) gs)[(1 + (i : Int)).toNat]? = some (rowS indent g (Str.ofString ",)")) := fun z => by rw [hri z, endS_tf]
        generalize rowS indent g (Str.ofString ",)") = R at hri hft fac hbl
        k_steps
        refine Hold.out ?_
        walk_at "mine item"
        intro t5
        k_steps
        refine Hold.out (KSpl.split1 (by k_asm) (by k_asm) (by decide) ?_ (by rw [PySem.sizeLine_eq]; omega))
        intro rh lh h2 k2 e2 S2 F2 N2 l3
        rw [e2, (fac 0).2.2, split_row hgn hgg] at S2
        generalize strValues lh = hvs at S2 N2
        have hhl := S2.length
        have hpick : slicePick nvs.toArray (some (((gs.take i).flatten.length : Nat) : Int)) (some ((((gs.take i).flatten.length : Nat) : Int) + ((hvs.length : Nat) : Int))) none = ((nvs.drop (gs.take i).flatten.length).take g.length).toArray := by
          rw [pick_mid (by omega) (by omega) (by omega), hhl]
          congr 3
          omega
        k_steps
        rename News _ _ _ _ => N6
        (try dsimp only at N6)
        (try dsimp only)
        rw [hpick] at N6
        refine Hold.out (ne_strs (na := 0) (nb := 0) N6 (.tail _ (.head _)) (.head _) S2 hsub hgg (by units_room) ?_)
        k_steps
        all_goals (rename Fr _ _ _ (fun _ => _) => F6; rename News _ _ _ _ => N6)
        all_goals exact TEnd.intro (nx := (rr, listOf rvs.toArray 0) :: (l, listOf nvs.toArray nl) :: rest) F6 (news_tl (news_tl N6)) rfl (by walk_at "mine keep") ⟨rfl, _, by rw [← hnext, ← hhl]; rfl⟩
    · rw [if_neg hlast] at hft
      simp only [if_neg hlast] at hri
      have hk9 : ¬ (1 + (i : Int) = (rvs.length : Int) - 1) := by omega
      have fac : ∀ _ : Nat, _ := fun _ => row_facts indent g (Str.ofString ",") 1 rfl
      have hbl := row_len indent g (Str.ofString ",") hind hgg hgn hgl1 (by decide)
      generalize rowS indent g (Str.ofString ",") = R at hri hft fac hbl
      k_steps
      refine Hold.out ?_
      walk_at "mine item"
      intro t5
      k_steps
      refine Hold.out (KSpl.split1 (by k_asm) (by k_asm) (by decide) ?_ (by rw [PySem.sizeLine_eq]; omega))
      intro rh lh h2 k2 e2 S2 F2 N2 l3
      rw [e2, (fac 0).2.2, split_row hgn hgg] at S2
      generalize strValues lh = hvs at S2 N2
      have hhl := S2.length
      have hpick : slicePick nvs.toArray (some (((gs.take i).flatten.length : Nat) : Int)) (some ((((gs.take i).flatten.length : Nat) : Int) + ((hvs.length : Nat) : Int))) none = ((nvs.drop (gs.take i).flatten.length).take g.length).toArray := by
        rw [pick_mid (by omega) (by omega) (by omega), hhl]
        congr 3
        omega
      k_steps
      rename News _ _ _ _ => N6
      (try dsimp only at N6)
      (try dsimp only)
      rw [hpick] at N6
      refine Hold.out (ne_strs (na := 0) (nb := 0) N6 (.tail _ (.head _)) (.head _) S2 hsub hgg (by units_room) ?_)
      k_steps
      all_goals (rename Fr _ _ _ (fun _ => _) => F6; rename News _ _ _ _ => N6)
      all_goals exact TEnd.intro (nx := (rr, listOf rvs.toArray 0) :: (l, listOf nvs.toArray nl) :: rest) F6 (news_tl (news_tl N6)) rfl (by walk_at "mine keep") ⟨rfl, _, by rw [← hnext, ← hhl]; rfl⟩
  · rintro m₁ nx h tk ha ⟨rfl, t1, hf1⟩ F9 N9
    rw [List.take_length, hfl] at hf1
    have hnn := hS.length
    k_steps
    refine Hold.out ?_
    refine' fewest_spec (nvs := nvs) ?zB ?zF ?zX ?zN ?zT rfl ?zr ?zu hS hlen ?zp (fun x hx => (hg x hx).2.1) hind hw ?zret
    case zB => k_asm
    case zF => k_asm
    case zX => k_asm
    case zN => exact news_swap (by k_asm)
    case zT => k_asm
    case zr => ktr_room
    case zu => ktr_units
    case zp =>
      rw [← hfl]
      have := flat_ge hne
      have : 0 < gs.length := List.length_pos_iff.mpr hgs
      omega
    case zret =>
      intro t8 h8 tk8 F8 N8
      rw [show ((leastN (okN indent.length width (names.map Str.length) comma false) names.length).getD names.length 0) = (gs.length : Int) from hleast]
      k_steps
      exact ret _ _ (by k_asm) (news_tl (news_swap (by k_asm)))
end Mine
namespace Mine
local macro_rules | `(tactic| walk_at "mine nothing") => `(tactic| skip)
local macro_rules | `(tactic| walk_at "mine nothing") => `(tactic| skip)
local macro_rules | `(tactic| walk_at "mine nothing") => `(tactic| skip)
local macro_rules | `(tactic| walk_at "mine nothing") => `(tactic| skip)
local macro_rules | `(tactic| walk_at "mine nothing") => `(tactic| skip)
local macro_rules | `(tactic| walk_at "mine nothing") => `(tactic| skip)
local macro_rules | `(tactic| walk_at "mine nothing") => `(tactic| skip)
local macro_rules | `(tactic| walk_at "mine nothing") => `(tactic| skip)
local macro_rules | `(tactic| walk_at "mine nothing") => `(tactic| skip)
local macro_rules | `(tactic| walk_at "mine nothing") => `(tactic| skip)
local macro_rules | `(tactic| walk_at "mine nothing") => `(tactic| skip)
local macro_rules | `(tactic| walk_at "mine nothing") => `(tactic| skip)
local macro_rules | `(tactic| walk_at "mine nothing") => `(tactic| skip)
local macro_rules | `(tactic| walk_at "mine nothing") => `(tactic| skip)
local macro_rules | `(tactic| walk_at "mine nothing") => `(tactic| skip)
local macro_rules | `(tactic| walk_at "mine nothing") => `(tactic| skip)
local macro_rules | `(tactic| walk_at "mine nothing") => `(tactic| skip)
local macro_rules | `(tactic| walk_at "mine nothing") => `(tactic| skip)
local macro_rules | `(tactic| walk_at "mine nothing") => `(tactic| skip)
local macro_rules | `(tactic| walk_at "mine nothing") => `(tactic| skip)
local macro_rules | `(tactic| walk_at "mine nothing") => `(tactic| skip)
local macro_rules | `(tactic| walk_at "mine nothing") => `(tactic| skip)
local macro_rules | `(tactic| walk_at "mine nothing") => `(tactic| skip)
local macro_rules | `(tactic| walk_at "mine nothing") => `(tactic| skip)
local macro_rules | `(tactic| walk_at "mine nothing") => `(tactic| skip)
local macro_rules | `(tactic| walk_at "mine nothing") => `(tactic| skip)
local macro_rules | `(tactic| walk_at "mine nothing") => `(tactic| skip)
local macro_rules | `(tactic| walk_at "mine nothing") => `(tactic| skip)
local macro_rules | `(tactic| walk_at "mine nothing") => `(tactic| skip)
local macro_rules | `(tactic| walk_at "mine nothing") => `(tactic| skip)
local macro_rules | `(tactic| walk_at "mine nothing") => `(tactic| skip)
local macro_rules | `(tactic| walk_at "mine nothing") => `(tactic| skip)
local macro_rules | `(tactic| units_room) => `(tactic| (have hcL9 := cLine_is; (try simp only [units_in1, units_deeper, Around.mark_units, units_caller] at *); (try dsimp only [ktrTop] at *); omega))
local macro_rules | `(tactic| k_all) => `(tactic| assumption)
local macro_rules | `(tactic| walk_at "eval Name") => `(tactic| (k_here; (with_reducible show wpAny _ _ (eval _ (envOf _ _ _ _ _)) _ _ _); k_dflt (refine' ld ?k1 ?k2 ?_; (case k1 => k_asm); (case k2 => assumption); k_whole)))
local macro_rules | `(tactic| walk_at "mine enter") => `(tactic| ((refine wpAny_noRaise ?_); (refine wpAny_call ?_); (refine' code_def ?k1 ?k2 ?k3 ?k4 ?k5 ?kA ?kF ?kK ?k6 ?k7 ?k8 ?k9 ?kB ?_ ?c2 ?c3 ?c4 ?c5; (case kA => exact rfl); (case kF => exact rfl); (case kK => assumption); (case k1 => k_asm); (case k2 => k_asm); (case k3 => k_asm); (case k4 => k_asm); (case k5 => k_asm); (case k6 => k_is); (case k7 => k_is); (case k8 => ktr_room); (case k9 => first | exact BindsTo.of_eq rfl | exact binds_K (by k_in) rfl (by k_is) rfl rfl rfl); (case c5 => decide); (case kB => exact locs rfl); (case c2 => exact rfl); (case c3 => exact rfl); (case c4 => exact rfl); k_whole; intro g' L' h' FG' F' N' B' X' T'; (refine wpAny_noRaise ?_); (try dsimp only); (try k_lift B'); (try k_fold))))
local macro_rules | `(tactic| walk_at "eval Name") => `(tactic| (k_here; (with_reducible show wpAny _ _ (eval _ (envOf _ _ _ _ _)) _ _ _); (with_reducible rename Fr _ _ _ _ => kF); k_dflt (refine' name_B kF ?k1 ?k2 ?k3 ?k4 ?k5 ?_; (case k1 => k_asm); (case k2 => k_asm); (case k3 => k_is); (case k4 => boot_by_name); (case k5 => decide); k_whole)))
local macro_rules | `(tactic| walk_at "eval Name") => `(tactic| (k_here; (with_reducible show wpAny _ _ (eval _ (compEnvC _ _ _ _)) _ _ _); (with_reducible rename Fr _ _ _ _ => kF); k_dflt (refine' LCgL.ld_built kF ?k1 ?k2 ?k3 ?k4 ?k5 ?_; (case k1 => k_asm); (case k2 => k_asm); (case k3 => k_is); (case k4 => boot_by_name); (case k5 => decide); k_whole)))
local macro_rules | `(tactic| walk_at "eval Name") => `(tactic| (k_here; (with_reducible show wpAny _ _ (eval _ (compEnvC _ _ _ _)) _ _ _); k_dflt (refine' LCgL.ld_own ?k1 ?k2 ?k3 ?k4 ?_; (case k1 => k_asm); (case k2 => k_mem); (case k3 => k_asm); (case k4 => k_asm); k_whole)))
local macro_rules | `(tactic| walk_at "exec For Name Name cons nil") => `(tactic| refine Hold.go ?_)
local macro_rules | `(tactic| walk_at "exec For Name Call cons nil") => `(tactic| refine Hold.go ?_)
local macro_rules | `(tactic| walk_at "eval ListComp") => `(tactic| refine Hold.go ?_)
local macro_rules | `(tactic| walk_at "exec While") => `(tactic| refine Hold.go ?_)
local macro_rules | `(tactic| walk_at "pyIter ref") => `(tactic| ((with_reducible show wpAny _ _ (pyIter (Value.ref _)) (fun it s₂ => LoopAtV _ _ _ _ _ _ _ _ _ it s₂) _ _); refine Hold.go ?_))
local macro_rules | `(tactic| walk_at "execs nil") => `(tactic| refine wpAny_execs_nil ?_)
local macro_rules | `(tactic| walk_at "mine keep") => `(tactic| first | with_reducible exact over_keep | with_reducible exact fun _ _ => rfl | ((with_reducible refine if_keep (by simp only [List.mem_cons, eq_self, true_or, or_true]) ?_); walk_at "mine keep") | ((with_reducible refine over_sub ?ov1 ?ov2); (case ov1 => k_allIn); (case ov2 => walk_at "mine keep")))
local macro_rules | `(tactic| walk_at "call ref") => `(tactic| refine Hold.go ?_)
local macro_rules | `(tactic| walk_at "mine more") => `(tactic| ((refine wpAny_noRaise ?_); (refine wpAny_call ?_); (refine' enter_more ?k1 ?k2 ?k3 ?k4 ?k5 ?kA ?kF ?kK ?k6 ?k7 ?k8 ?kX ?kM ?kN ?kR ?kP ?kT ?kB ?_ ?c2 ?c3 ?c4 ?c5; (case kA => exact rfl); (case kF => exact rfl); (case kK => first | assumption | exact rfl); (case k1 => k_asm); (case k2 => k_asm); (case k3 => k_asm); (case k4 => k_asm); (case k5 => k_asm); (case k6 => k_is); (case k7 => k_is); (case k8 => ktr_room); (case kX => kp_lit); (case kM => exact rfl); (case kN => exact rfl); (case kR => exact rfl); (case kP => exact rfl); (case kT => exact fun _ => rfl); (case kB => exact fun _ => locs rfl); (case c5 => decide); (case c2 => exact rfl); (case c3 => exact rfl); (case c4 => exact rfl); k_whole; intro D' o' g' L' h' tk' l1 lo' hs' FG' F' N' B' X' T'; (refine wpAny_noRaise ?_); (try k_lt l1); (try dsimp only); (try k_lift B'); (try k_fold))))
local macro_rules | `(tactic| walk_at "subscriptTail") => `(tactic| (k_here; (with_reducible show wpAny _ _ (subscriptTail _ _ (Value.ref _) (Value.str _ _)) _ _ _); k_dflt (refine' kw_item ?k1 ?k2 ?k3 ?k4 ?_; (case k1 => k_asm); (case k2 => k_mem); (case k3 => k_asm); (case k4 => with_reducible first | exact gk_statement | exact gk_imports | exact gk_indent | exact gk_length | exact gk_comments | exact gk_sep | exact gk_prefix | exact gk_comma | exact gk_remove); k_whole; (try dsimp only))))
local macro_rules | `(tactic| walk_at "getItem ref str") => `(tactic| (k_here; k_dflt (refine' kw_get ?k1 ?k2 ?k3 ?k4 ?_; (case k1 => k_asm); (case k2 => k_mem); (case k3 => k_asm); (case k4 => with_reducible first | exact gk_statement | exact gk_imports | exact gk_indent | exact gk_length | exact gk_comments | exact gk_sep | exact gk_prefix | exact gk_comma | exact gk_remove); k_whole; (try dsimp only))))
local macro_rules | `(tactic| walk_at "truthy ref") => `(tactic| (k_here; k_dflt (first | (refine' truthy_cons ?k1 ?k2 ?k3 ?_; (case k1 => k_asm); (case k2 => k_mem); (case k3 => omega); k_whole) | (refine' truthy_nil ?k1 ?k2 ?_; (case k1 => k_asm); (case k2 => k_mem); k_whole))))
local macro_rules | `(tactic| walk_at "callWith ref") => `(tactic| (k_here; (with_reducible show wpAny _ _ (callWith _ (Value.ref _) _ (backTo _ (starEach [] _)) (backToKw _ (keywordEach (_ :: _) _))) _ _ _); k_dflt ((with_reducible refine' callWith_KW0 ?k1 ?k2 ?k3 ?_ ?k4); (case k1 => k_asm); (case k2 => k_is); (case k3 => exact rfl); (case k4 => exact rfl); k_whole)))
theorem reset13 : True := by (w_top off; trivial)
local macro_rules | `(tactic| walk_at "subscriptTail") => `(tactic| ((with_reducible show wpAny _ _ (subscriptTail _ _ (Value.ref _) (Value.int _ _)) _ _ _); refine Hold.go ?_))
local macro_rules | `(tactic| walk_at "call builtin:str.split") => `(tactic| refine Hold.go ?_)
local macro_rules | `(tactic| walk_at "mine item") => `(tactic| ((with_reducible refine' my_item ?k1 ?k2 ?k3 ?k4 ?k5 ?k6 ?_ ?k8); (case k1 => k_asm); (case k2 => k_mem); (case k3 => assumption); (case k4 => omega); (case k5 => omega); (case k6 => first | exact rfl | (rename ∀ _ : Nat, (_ = some _) => hq; exact hq 0)); (case k8 => with_unfolding_all rfl); k_whole))
local macro_rules | `(tactic| walk_at "call builtin:len") => `(tactic| (k_here; (with_reducible show wpAny _ _ (call (Value.builtin "len") [Value.ref _]) _ _ _); k_dflt (refine' my_len ?k1 ?k2 ?k3 ?_; (case k1 => k_asm); (case k2 => k_mem); (case k3 => omega); k_whole)))
local macro_rules | `(tactic| walk_at "compareOp Eq int int") => `(tactic| (k_here; first | ((with_reducible refine' eq_yes ?k1 ?_); (case k1 => omega)) | ((with_reducible refine' eq_no ?k1 ?_); (case k1 => omega))))
local macro_rules | `(tactic| walk_at "compareOp Gt int int") => `(tactic| (k_here; first | ((with_reducible refine' gt_yes ?k1 ?_); (case k1 => omega)) | ((with_reducible refine' gt_no ?k1 ?_); (case k1 => omega))))
local macro_rules | `(tactic| walk_at "compareOp NotEq str str") => `(tactic| (k_here; (refine ne_same ?_ ?_); focus (first | (with_reducible rfl) | (rename ∀ _ : Nat, ((_ = _) ∧ _ ∧ _) => hq; first | exact (hq 0).1 | exact (hq 0).2.1))))
local macro_rules | `(tactic| walk_at "compareOp NotEq ref ref") => `(tactic| refine Hold.go ?_)
local macro_rules | `(tactic| walk_at "mine last") => `(tactic| ((with_reducible refine' my_item_neg ?k1 ?k2 ?k3 ?_ ?k8); (case k1 => k_asm); (case k2 => k_mem); (case k3 => assumption); (case k8 => with_unfolding_all rfl); k_whole))
local macro_rules | `(tactic| walk_at "subscriptTail Name Name ref int") => `(tactic| refine Hold.go ?_)
local macro_rules | `(tactic| walk_at "subscriptTail Name Constant ref int") => `(tactic| refine Hold.go ?_)
local macro_rules | `(tactic| walk_at "subscriptTail Name UnaryOp ref int") => `(tactic| refine Hold.go ?_)
local macro_rules | `(tactic| walk_at "subscriptTail Name Slice ref ref") => `(tactic| (k_here; (try dsimp only); (refine' my_slice ?k1 ?k2 ?k3 ?k4 ?k5 ?k6 ?_); (case k1 => k_asm); (case k2 => k_asm); (case k3 => k_mem); (case k4 => first | exact .none | exact .int _ _); (case k5 => first | exact .none | exact .int _ _); (case k6 => omega); k_whole; intro _ _ _))
theorem fits1_spec {w : World} {loose : List Str} {mean : ExcName → Option Value} {mg mb : Str → Option Value} {A₀ : Around} {base h₀ : Heap} {dp un : Nat} {gd : Option (List Code)} {cn : Str} {cs : Scope} {a : Addr} {ccd : Value} {cl : List (Str × Addr)} {outer : List Env} {L : Addr}
  {m : Str → Option Value} {s : Shared} {l : Addr} {nl : Nat} {nvs : List Value} {names : List Str} {told head indent : Str} {tt th ti tw : Tok} {width : Nat} {comma : Bool} {gs : List (List Str)} {rest : List (Addr × Obj)} {Q E : Value → Shared → Prop}
  (B : Below A₀ base outer h₀) (F : Fr h₀ L s.heap m) (X : (hd.heap_39 w.params).In h₀)
  (N : News h₀ L s.heap ((l, listOf nvs.toArray nl) :: rest))
  (T : Top hd.view_39 loose mean mg mb h₀) (hke : cs.kind = .function)
  (hroom : dp + 40 < recursionLimit) (hun : un + 500 < cLine)
  (hS : StrsAre nvs names) (hlen : names.length ≤ 11) (hg : ∀ x ∈ names, GoodName x) (hind : indent.length ≤ 5) (hw : width ≤ 100)
  (htl : told.length ≤ 1000) (hsp : Txt.split told (Str.ofString "\n") = head :: rowsS indent (endS comma true) gs ++ [Str.ofString ")"])
  (hgs : gs ≠ []) (hfl : gs.flatten = names) (hne : ∀ g ∈ gs, g ≠ [])
  (hfit : ∀ i g, gs[i]? = some g → 1 < g.length → (rowS indent g (if i + 1 = gs.length then endS comma true else Str.ofString ",")).length ≤ width)
  (hleast : lst (okN indent.length width (names.map Str.length) comma true) names.length = gs.length)
  (ret : ∀ h' tk', Fr h₀ L h' m → News h₀ L h' ((l, listOf nvs.toArray nl) :: rest) → Q (.bool true) { s with heap := h', toks := tk' }) :
  wpAny (model Challenge.rw_fj5009_01.row.prog w) (ktrTop dp un gd cn cs L a ccd cl outer) (call (.ref 88) [.str told tt, .str head th, .str indent ti, .ref l, .int width tw, .bool comma, .bool true]) Q E s := by
  revert X; k_fill; intro X
  have hnv : nvs.length ≤ 11 := by rw [hS.length]; exact hlen
  walk_at "mine enter"
  k_steps
  refine Hold.out (KSpl.split1 (by k_asm) (by k_asm) (by decide) ?_ (by rw [PySem.sizeLine_eq]; omega))
  intro rr l' h1 k1 e1 S1 F1 N1 l1
  rw [e1, hsp] at S1
  generalize strValues l' = rvs at S1 N1
  have hrl : rvs.length = gs.length + 2 := by rw [S1.length, List.length_append, List.length_cons, rowsS_length]; rfl
  have hgl : gs.length ≤ 11 := Nat.le_trans (by rw [← hfl]; exact flat_ge hne) hlen
  have hrv : rvs.length ≤ 13 := by omega
  k_steps
  refine Hold.out ?_
  walk_at "mine item"
  intro t5
  k_steps
  refine Hold.out ?_
  walk_at "mine last"
  intro t5
  k_steps
  rename Fr _ _ _ (fun _ => _) => F6
  rename News _ _ _ _ => N6
  dsimp only at F6 N6
  obtain ⟨r2, er⟩ := nm_hd N6
  rw [← er] at F6 N6
  clear er
  rw [pick_init (show rvs.length = (gs.length + 1) + 1 by omega)] at N6
  have S3 : StrsAre (rvs.take (gs.length + 1)) (head :: rowsS indent (endS comma true) gs) := by
    have h9 := S1.take' (gs.length + 1)
    rwa [List.take_left' (by rw [List.length_cons, rowsS_length])] at h9
  have hr2 : (rvs.take (gs.length + 1)).length = gs.length + 1 := by rw [List.length_take]; omega
  generalize rvs.take (gs.length + 1) = rv2 at N6 S3 hr2
  replace N6 : News _ _ _ ((r2, listOf rv2.toArray 0) :: (l, listOf nvs.toArray nl) :: rest) := fun p hp => N6 p (by
    rcases List.mem_cons.mp hp with rfl | hp
    · exact .head _
    · exact .tail _ (.tail _ hp))
  clear S1 hsp hrl hrv
  have hrv : rv2.length ≤ 12 := by omega
  refine Hold.out (For_invVF (by k_asm) (by exact rfl) (by exact rfl) ?_ (hE := PassesOwn.never))
  k_steps
  refine Hold.out (iter_rangeK (n := gs.length) [Str.ofString "k", Str.ofString "row", Str.ofString "body", Str.ofString "end", Str.ofString "held", Str.ofString "first"]
    (fun i m nx => nx = (r2, listOf rv2.toArray 0) :: (l, listOf nvs.toArray nl) :: rest ∧ ∃ t, m (Str.ofString "first") = some (.int ((gs.take i).flatten.length : Nat) t))
    rfl (by assumption) (small_of gs.length (by omega) (by omega) (by omega) (by omega) (by omega)) (size_of gs.length (by omega)) (by k_asm) (by k_asm)
    ⟨rfl, _, rfl⟩ ?_ ?_)
  · rintro i t m₁ nx h tk own hi _ hoff ⟨rfl, t1, hf1⟩ F9 N9
    dsimp only
    simp only [List.map_cons, List.cons_append] at hoff N9
    obtain ⟨g, hgi⟩ : ∃ g, gs[i]? = some g := ⟨_, List.getElem?_eq_getElem hi⟩
    obtain ⟨rr9, hfg, _, _⟩ := flat_get hgi
    rw [hfl] at hfg
    have hgn := hne g (List.mem_of_getElem? hgi)
    have hgg : ∀ x ∈ g, GoodName x := fun x hx => hg x (by rw [hfg]; simp [hx])
    have hnl : names.length = (gs.take i).flatten.length + g.length + rr9.length := by rw [hfg]; simp; omega
    have hgl1 : g.length ≤ 11 := by omega
    have hnn := hS.length
    have hsub : StrsAre ((nvs.drop (gs.take i).flatten.length).take g.length) g := by
      have h9 := (hS.drop' (gs.take i).flatten.length).take' g.length
      rwa [show (names.drop (gs.take i).flatten.length).take g.length = g by rw [hfg, List.append_assoc, List.drop_left, List.take_left]] at h9
    have hnext : (((gs.take i).flatten.length : Nat) : Int) + (g.length : Nat) = (((gs.take (i + 1)).flatten.length : Nat) : Int) := by
      rw [List.take_add_one, hgi, List.flatten_append, List.length_append]
      simp
    have hri : ∀ _ : Nat, (head :: rowsS indent (endS comma true) gs)[(1 + (i : Int)).toNat]? = some (rowS indent g (if i + 1 = gs.length then endS comma true else Str.ofString ",")) := fun _ => by
      rw [show (1 + (i : Int)).toNat = i + 1 by omega, List.getElem?_cons_succ, rowsS_get hgi]
    have hft := hfit i g hgi
    clear hfg hgi hfit hfl hne
    by_cases hlast : i + 1 = gs.length
    · rw [if_pos hlast] at hft
      simp only [if_pos hlast] at hri
      have hk9 : 1 + (i : Int) = (rv2.length : Int) - 1 := by omega
      cases comma
      ·
        have fac : ∀ _ : Nat, _ := fun _ => row_facts indent g (Str.ofString "") 0 rfl
        have hbl := row_len indent g (Str.ofString "") hind hgg hgn hgl1 (by decide)
        rw [endS_ft] at hft
        replace hri : ∀ _ : Nat, (head :: rowsS indent (endS false true) gs)[(1 + (i : Int)).toNat]? = some (rowS indent g (Str.ofString "")) := fun z => by rw [hri z, endS_ft]
        generalize rowS indent g (Str.ofString "") = R at hri hft fac hbl
        k_steps
        refine Hold.out ?_
        walk_at "mine item"
        intro t5
        k_steps
        refine Hold.out (KSpl.split1 (by k_asm) (by k_asm) (by decide) ?_ (by rw [PySem.sizeLine_eq]; omega))
        intro rh lh h2 k2 e2 S2 F2 N2 l3
        rw [e2, (fac 0).2.2, split_row hgn hgg] at S2
        generalize strValues lh = hvs at S2 N2
        have hhl := S2.length
        have hpick : slicePick nvs.toArray (some (((gs.take i).flatten.length : Nat) : Int)) (some ((((gs.take i).flatten.length : Nat) : Int) + ((hvs.length : Nat) : Int))) none = ((nvs.drop (gs.take i).flatten.length).take g.length).toArray := by
          rw [pick_mid (by omega) (by omega) (by omega), hhl]
          congr 3
          omega
        k_steps
        rename News _ _ _ _ => N6
        (try dsimp only at N6)
        (try dsimp only)
        rw [hpick] at N6
        refine Hold.out (ne_strs (na := 0) (nb := 0) N6 (.tail _ (.head _)) (.head _) S2 hsub hgg (by units_room) ?_)
        k_steps
        all_goals (rename Fr _ _ _ (fun _ => _) => F6; rename News _ _ _ _ => N6)
        all_goals exact TEnd.intro (nx := (r2, listOf rv2.toArray 0) :: (l, listOf nvs.toArray nl) :: rest) F6 (news_tl (news_tl N6)) rfl (by walk_at "mine keep") ⟨rfl, _, by rw [← hnext, ← hhl]; rfl⟩
      ·
        have fac : ∀ _ : Nat, _ := fun _ => row_facts indent g (Str.ofString ",") 1 rfl
        have hbl := row_len indent g (Str.ofString ",") hind hgg hgn hgl1 (by decide)
        rw [endS_tt] at hft
        replace hri : ∀ _ : Nat, (head :: rowsS indent (endS true true) gs)[(1 + (i : Int)).toNat]? = some (rowS indent g (Str.ofString ",")) := fun z => by rw [hri z, endS_tt]
        generalize rowS indent g (Str.ofString ",") = R at hri hft fac hbl
        k_steps
        refine Hold.out ?_
        walk_at "mine item"
        intro t5
        k_steps
        refine Hold.out (KSpl.split1 (by k_asm) (by k_asm) (by decide) ?_ (by rw [PySem.sizeLine_eq]; omega))
        intro rh lh h2 k2 e2 S2 F2 N2 l3
        rw [e2, (fac 0).2.2, split_row hgn hgg] at S2
        generalize strValues lh = hvs at S2 N2
        have hhl := S2.length
        have hpick : slicePick nvs.toArray (some (((gs.take i).flatten.length : Nat) : Int)) (some ((((gs.take i).flatten.length : Nat) : Int) + ((hvs.length : Nat) : Int))) none = ((nvs.drop (gs.take i).flatten.length).take g.length).toArray := by
          rw [pick_mid (by omega) (by omega) (by omega), hhl]
          congr 3
          omega
        k_steps
        rename News _ _ _ _ => N6
        (try dsimp only at N6)
        (try dsimp only)
        rw [hpick] at N6
        refine Hold.out (ne_strs (na := 0) (nb := 0) N6 (.tail _ (.head _)) (.head _) S2 hsub hgg (by units_room) ?_)
        k_steps
        all_goals (rename Fr _ _ _ (fun _ => _) => F6; rename News _ _ _ _ => N6)
        all_goals exact TEnd.intro (nx := (r2, listOf rv2.toArray 0) :: (l, listOf nvs.toArray nl) :: rest) F6 (news_tl (news_tl N6)) rfl (by walk_at "mine keep") ⟨rfl, _, by rw [← hnext, ← hhl]; rfl⟩
    · rw [if_neg hlast] at hft
      simp only [if_neg hlast] at hri
      have hk9 : ¬ (1 + (i : Int) = (rv2.length : Int) - 1) := by omega
      have fac : ∀ _ : Nat, _ := fun _ => row_facts indent g (Str.ofString ",") 1 rfl
      have hbl := row_len indent g (Str.ofString ",") hind hgg hgn hgl1 (by decide)
      generalize rowS indent g (Str.ofString ",") = R at hri hft fac hbl
      k_steps
      refine Hold.out ?_
      walk_at "mine item"
      intro t5
      k_steps
      refine Hold.out (KSpl.split1 (by k_asm) (by k_asm) (by decide) ?_ (by rw [PySem.sizeLine_eq]; omega))
      intro rh lh h2 k2 e2 S2 F2 N2 l3
      rw [e2, (fac 0).2.2, split_row hgn hgg] at S2
      generalize strValues lh = hvs at S2 N2
      have hhl := S2.length
      have hpick : slicePick nvs.toArray (some (((gs.take i).flatten.length : Nat) : Int)) (some ((((gs.take i).flatten.length : Nat) : Int) + ((hvs.length : Nat) : Int))) none = ((nvs.drop (gs.take i).flatten.length).take g.length).toArray := by
        rw [pick_mid (by omega) (by omega) (by omega), hhl]
        congr 3
        omega
      k_steps
      rename News _ _ _ _ => N6
      (try dsimp only at N6)
      (try dsimp only)
      rw [hpick] at N6
      refine Hold.out (ne_strs (na := 0) (nb := 0) N6 (.tail _ (.head _)) (.head _) S2 hsub hgg (by units_room) ?_)
      k_steps
      all_goals (rename Fr _ _ _ (fun _ => _) => F6; rename News _ _ _ _ => N6)
      all_goals exact TEnd.intro (nx := (r2, listOf rv2.toArray 0) :: (l, listOf nvs.toArray nl) :: rest) F6 (news_tl (news_tl N6)) rfl (by walk_at "mine keep") ⟨rfl, _, by rw [← hnext, ← hhl]; rfl⟩
  · rintro m₁ nx h tk ha ⟨rfl, t1, hf1⟩ F9 N9
    rw [List.take_length, hfl] at hf1
    have hnn := hS.length
    k_steps
    refine Hold.out ?_
    refine' fewest_spec (nvs := nvs) ?zB ?zF ?zX ?zN ?zT rfl ?zr ?zu hS hlen ?zp (fun x hx => (hg x hx).2.1) hind hw ?zret
    case zB => k_asm
    case zF => k_asm
    case zX => k_asm
    case zN => exact news_swap (by k_asm)
    case zT => k_asm
    case zr => ktr_room
    case zu => ktr_units
    case zp =>
      rw [← hfl]
      have := flat_ge hne
      have : 0 < gs.length := List.length_pos_iff.mpr hgs
      omega
    case zret =>
      intro t8 h8 tk8 F8 N8
      rw [show ((leastN (okN indent.length width (names.map Str.length) comma true) names.length).getD names.length 0) = (gs.length : Int) from hleast]
      k_steps
      exact ret _ _ (by k_asm) (news_tl (news_swap (by k_asm)))
end Mine
namespace Mine
local macro_rules | `(tactic| walk_at "mine nothing") => `(tactic| skip)
local macro_rules | `(tactic| walk_at "mine nothing") => `(tactic| skip)
local macro_rules | `(tactic| walk_at "mine nothing") => `(tactic| skip)
local macro_rules | `(tactic| walk_at "mine nothing") => `(tactic| skip)
local macro_rules | `(tactic| walk_at "mine nothing") => `(tactic| skip)
local macro_rules | `(tactic| walk_at "mine nothing") => `(tactic| skip)
local macro_rules | `(tactic| walk_at "mine nothing") => `(tactic| skip)
local macro_rules | `(tactic| walk_at "mine nothing") => `(tactic| skip)
local macro_rules | `(tactic| walk_at "mine nothing") => `(tactic| skip)
local macro_rules | `(tactic| walk_at "mine nothing") => `(tactic| skip)
local macro_rules | `(tactic| walk_at "mine nothing") => `(tactic| skip)
local macro_rules | `(tactic| walk_at "mine nothing") => `(tactic| skip)
local macro_rules | `(tactic| walk_at "mine nothing") => `(tactic| skip)
local macro_rules | `(tactic| walk_at "mine nothing") => `(tactic| skip)
local macro_rules | `(tactic| walk_at "mine nothing") => `(tactic| skip)
local macro_rules | `(tactic| walk_at "mine nothing") => `(tactic| skip)
local macro_rules | `(tactic| walk_at "mine nothing") => `(tactic| skip)
local macro_rules | `(tactic| walk_at "mine nothing") => `(tactic| skip)
local macro_rules | `(tactic| walk_at "mine nothing") => `(tactic| skip)
local macro_rules | `(tactic| walk_at "mine nothing") => `(tactic| skip)
local macro_rules | `(tactic| walk_at "mine nothing") => `(tactic| skip)
local macro_rules | `(tactic| walk_at "mine nothing") => `(tactic| skip)
local macro_rules | `(tactic| walk_at "mine nothing") => `(tactic| skip)
local macro_rules | `(tactic| walk_at "mine nothing") => `(tactic| skip)
local macro_rules | `(tactic| walk_at "mine nothing") => `(tactic| skip)
local macro_rules | `(tactic| walk_at "mine nothing") => `(tactic| skip)
local macro_rules | `(tactic| walk_at "mine nothing") => `(tactic| skip)
local macro_rules | `(tactic| walk_at "mine nothing") => `(tactic| skip)
local macro_rules | `(tactic| walk_at "mine nothing") => `(tactic| skip)
local macro_rules | `(tactic| walk_at "mine nothing") => `(tactic| skip)
local macro_rules | `(tactic| walk_at "mine nothing") => `(tactic| skip)
local macro_rules | `(tactic| walk_at "mine nothing") => `(tactic| skip)
local macro_rules | `(tactic| walk_at "mine nothing") => `(tactic| skip)
local macro_rules | `(tactic| walk_at "mine nothing") => `(tactic| skip)
local macro_rules | `(tactic| walk_at "mine nothing") => `(tactic| skip)
local macro_rules | `(tactic| walk_at "mine nothing") => `(tactic| skip)
local macro_rules | `(tactic| walk_at "mine nothing") => `(tactic| skip)
local macro_rules | `(tactic| walk_at "mine nothing") => `(tactic| skip)
local macro_rules | `(tactic| walk_at "mine nothing") => `(tactic| skip)
local macro_rules | `(tactic| walk_at "mine nothing") => `(tactic| skip)
local macro_rules | `(tactic| walk_at "mine nothing") => `(tactic| skip)
local macro_rules | `(tactic| walk_at "mine nothing") => `(tactic| skip)
local macro_rules | `(tactic| walk_at "mine nothing") => `(tactic| skip)
local macro_rules | `(tactic| walk_at "mine nothing") => `(tactic| skip)
local macro_rules | `(tactic| walk_at "mine nothing") => `(tactic| skip)
local macro_rules | `(tactic| walk_at "mine nothing") => `(tactic| skip)
local macro_rules | `(tactic| units_room) => `(tactic| (have hcL9 := cLine_is; (try simp only [units_in1, units_deeper, Around.mark_units, units_caller] at *); (try dsimp only [ktrTop] at *); omega))
local macro_rules | `(tactic| k_all) => `(tactic| assumption)
local macro_rules | `(tactic| walk_at "eval Name") => `(tactic| (k_here; (with_reducible show wpAny _ _ (eval _ (envOf _ _ _ _ _)) _ _ _); k_dflt (refine' ld ?k1 ?k2 ?_; (case k1 => k_asm); (case k2 => assumption); k_whole)))
local macro_rules | `(tactic| walk_at "mine enter") => `(tactic| ((refine wpAny_noRaise ?_); (refine wpAny_call ?_); (refine' code_def ?k1 ?k2 ?k3 ?k4 ?k5 ?kA ?kF ?kK ?k6 ?k7 ?k8 ?k9 ?kB ?_ ?c2 ?c3 ?c4 ?c5; (case kA => exact rfl); (case kF => exact rfl); (case kK => assumption); (case k1 => k_asm); (case k2 => k_asm); (case k3 => k_asm); (case k4 => k_asm); (case k5 => k_asm); (case k6 => k_is); (case k7 => k_is); (case k8 => ktr_room); (case k9 => first | exact BindsTo.of_eq rfl | exact binds_K (by k_in) rfl (by k_is) rfl rfl rfl); (case c5 => decide); (case kB => exact locs rfl); (case c2 => exact rfl); (case c3 => exact rfl); (case c4 => exact rfl); k_whole; intro g' L' h' FG' F' N' B' X' T'; (refine wpAny_noRaise ?_); (try dsimp only); (try k_lift B'); (try k_fold))))
local macro_rules | `(tactic| walk_at "eval Name") => `(tactic| (k_here; (with_reducible show wpAny _ _ (eval _ (envOf _ _ _ _ _)) _ _ _); (with_reducible rename Fr _ _ _ _ => kF); k_dflt (refine' name_B kF ?k1 ?k2 ?k3 ?k4 ?k5 ?_; (case k1 => k_asm); (case k2 => k_asm); (case k3 => k_is); (case k4 => boot_by_name); (case k5 => decide); k_whole)))
local macro_rules | `(tactic| walk_at "eval Name") => `(tactic| (k_here; (with_reducible show wpAny _ _ (eval _ (compEnvC _ _ _ _)) _ _ _); (with_reducible rename Fr _ _ _ _ => kF); k_dflt (refine' LCgL.ld_built kF ?k1 ?k2 ?k3 ?k4 ?k5 ?_; (case k1 => k_asm); (case k2 => k_asm); (case k3 => k_is); (case k4 => boot_by_name); (case k5 => decide); k_whole)))
local macro_rules | `(tactic| walk_at "eval Name") => `(tactic| (k_here; (with_reducible show wpAny _ _ (eval _ (compEnvC _ _ _ _)) _ _ _); k_dflt (refine' LCgL.ld_own ?k1 ?k2 ?k3 ?k4 ?_; (case k1 => k_asm); (case k2 => k_mem); (case k3 => k_asm); (case k4 => k_asm); k_whole)))
local macro_rules | `(tactic| walk_at "exec For Name Name cons nil") => `(tactic| refine Hold.go ?_)
local macro_rules | `(tactic| walk_at "exec For Name Call cons nil") => `(tactic| refine Hold.go ?_)
local macro_rules | `(tactic| walk_at "eval ListComp") => `(tactic| refine Hold.go ?_)
local macro_rules | `(tactic| walk_at "exec While") => `(tactic| refine Hold.go ?_)
local macro_rules | `(tactic| walk_at "pyIter ref") => `(tactic| ((with_reducible show wpAny _ _ (pyIter (Value.ref _)) (fun it s₂ => LoopAtV _ _ _ _ _ _ _ _ _ it s₂) _ _); refine Hold.go ?_))
local macro_rules | `(tactic| walk_at "execs nil") => `(tactic| refine wpAny_execs_nil ?_)
local macro_rules | `(tactic| walk_at "mine keep") => `(tactic| first | with_reducible exact over_keep | with_reducible exact fun _ _ => rfl | ((with_reducible refine if_keep (by simp only [List.mem_cons, eq_self, true_or, or_true]) ?_); walk_at "mine keep") | ((with_reducible refine over_sub ?ov1 ?ov2); (case ov1 => k_allIn); (case ov2 => walk_at "mine keep")))
local macro_rules | `(tactic| walk_at "call ref") => `(tactic| refine Hold.go ?_)
local macro_rules | `(tactic| walk_at "mine more") => `(tactic| ((refine wpAny_noRaise ?_); (refine wpAny_call ?_); (refine' enter_more ?k1 ?k2 ?k3 ?k4 ?k5 ?kA ?kF ?kK ?k6 ?k7 ?k8 ?kX ?kM ?kN ?kR ?kP ?kT ?kB ?_ ?c2 ?c3 ?c4 ?c5; (case kA => exact rfl); (case kF => exact rfl); (case kK => first | assumption | exact rfl); (case k1 => k_asm); (case k2 => k_asm); (case k3 => k_asm); (case k4 => k_asm); (case k5 => k_asm); (case k6 => k_is); (case k7 => k_is); (case k8 => ktr_room); (case kX => kp_lit); (case kM => exact rfl); (case kN => exact rfl); (case kR => exact rfl); (case kP => exact rfl); (case kT => exact fun _ => rfl); (case kB => exact fun _ => locs rfl); (case c5 => decide); (case c2 => exact rfl); (case c3 => exact rfl); (case c4 => exact rfl); k_whole; intro D' o' g' L' h' tk' l1 lo' hs' FG' F' N' B' X' T'; (refine wpAny_noRaise ?_); (try k_lt l1); (try dsimp only); (try k_lift B'); (try k_fold))))
local macro_rules | `(tactic| walk_at "subscriptTail") => `(tactic| (k_here; (with_reducible show wpAny _ _ (subscriptTail _ _ (Value.ref _) (Value.str _ _)) _ _ _); k_dflt (refine' kw_item ?k1 ?k2 ?k3 ?k4 ?_; (case k1 => k_asm); (case k2 => k_mem); (case k3 => k_asm); (case k4 => with_reducible first | exact gk_statement | exact gk_imports | exact gk_indent | exact gk_length | exact gk_comments | exact gk_sep | exact gk_prefix | exact gk_comma | exact gk_remove); k_whole; (try dsimp only))))
local macro_rules | `(tactic| walk_at "getItem ref str") => `(tactic| (k_here; k_dflt (refine' kw_get ?k1 ?k2 ?k3 ?k4 ?_; (case k1 => k_asm); (case k2 => k_mem); (case k3 => k_asm); (case k4 => with_reducible first | exact gk_statement | exact gk_imports | exact gk_indent | exact gk_length | exact gk_comments | exact gk_sep | exact gk_prefix | exact gk_comma | exact gk_remove); k_whole; (try dsimp only))))
local macro_rules | `(tactic| walk_at "truthy ref") => `(tactic| (k_here; k_dflt (first | (refine' truthy_cons ?k1 ?k2 ?k3 ?_; (case k1 => k_asm); (case k2 => k_mem); (case k3 => omega); k_whole) | (refine' truthy_nil ?k1 ?k2 ?_; (case k1 => k_asm); (case k2 => k_mem); k_whole))))
local macro_rules | `(tactic| walk_at "callWith ref") => `(tactic| (k_here; (with_reducible show wpAny _ _ (callWith _ (Value.ref _) _ (backTo _ (starEach [] _)) (backToKw _ (keywordEach (_ :: _) _))) _ _ _); k_dflt ((with_reducible refine' callWith_KW0 ?k1 ?k2 ?k3 ?_ ?k4); (case k1 => k_asm); (case k2 => k_is); (case k3 => exact rfl); (case k4 => exact rfl); k_whole)))
theorem reset14 : True := by (w_top off; trivial)
theorem call_int {M : Model} {A : Around} {E : Value → Shared → Prop} {s : Shared} {f a : Value} {n n' : Int} {t : Tok} {Q : Value → Shared → Prop} (e : n = n') (h : wpAny M A (call f [a, .int n' t]) Q E s) : wpAny M A (call f [a, .int n t]) Q E s := e ▸ h
theorem news_sub {h₀ h : Heap} {L : Addr} {l1 l2 : List (Addr × Obj)} (N : News h₀ L h l1) (h' : ∀ p ∈ l2, p ∈ l1) : News h₀ L h l2 := fun p hp => N p (h' p hp)
theorem strs_two {vs : List Value} {ws : List Str} (h : StrsAre vs ws) (hl : 0 < ws.length) : ∃ x t vs' ws', vs = .str x t :: vs' ∧ ws = x :: ws' ∧ StrsAre vs' ws' := by
  cases h with
  | nil => simp at hl
  | cons x t h => exact ⟨x, t, _, _, rfl, rfl, h⟩
theorem ind_facts {n : Int} (h0 : 0 ≤ n) (h1 : n < 6) : (Txt.mul (Str.ofString " ") n).length ≤ 5 ∧ 10 ∉ (Txt.mul (Str.ofString " ") n).cps.toList := by
  have e : (Str.ofString " ") = ⟨#[32]⟩ := by decide +kernel
  rw [e]
  by_cases h : 1 ≤ n
  · have h2 := mul_one_sign 32 n h
    refine ⟨?_, ?_⟩
    · rw [len_cps, h2, List.length_replicate]; omega
    · rw [h2]
      intro h3
      have := List.eq_of_mem_replicate h3
      omega
  · have h2 : n = 0 := by omega
    subst h2
    exact ⟨by decide, by decide⟩
theorem lawgo : PySem.Challenge.rw_fj5009_01.Holds := hd (by
  k_go0
  all_goals try k_fold
  k_steps
  rename IntsAre _ _ => hI
  refine Hold.out ?_
  refine' draw_spec ?aB ?aF ?aX ?aN ?aT rfl ?ar ?au ?aL hI ?al ?ah
  case aB => k_asm
  case aF => k_asm
  case aX => k_asm
  case aN => k_asm
  case aT => k_asm
  case ar => ktr_room
  case au => ktr_units
  case aL => k_asm
  case al => omega
  intro d c h1 tk1 cells ns seed ts nd nc F1 N1 hI1 hl1 hs0 hs1 hcd
  k_steps
  refine Hold.out ?_
  refine' take_spec (rest := []) ?bB ?bF ?bX ?bN ?bT rfl ?br ?bu hI1 hl1 (Nat.ne_of_gt hcd) ?bd ?bc hs0 hs1 (by decide) (by decide) ?bh
  case bB => k_asm
  case bF => k_asm
  case bX => k_asm
  case bN => k_asm
  case bT => k_asm
  case br => ktr_room
  case bu => ktr_units
  case bd => exact fun _ h => nomatch h
  case bc => exact fun _ h => nomatch h
  clear hs0 hs1 hI1 hl1
  intro r tb hb tkb cells ns seed ts nd nc Fb Nb hI1 hl1 hs0 hs1 r0 r1
  obtain ⟨rn, rfl⟩ := Int.eq_ofNat_of_zero_le r0
  k_steps
  refine Hold.out (call_int (n' := ((2 + rn : Nat) : Int)) (by omega) ?_)
  refine' names_spec (rest := []) ?cB ?cF ?cX ?cN ?cT rfl ?cr ?cu hI1 hl1 (Nat.ne_of_gt hcd) (fun _ h => nomatch h) (fun _ h => nomatch h) hs0 hs1 (by omega) ?ch
  case cB => k_asm
  case cF => k_asm
  case cX => k_asm
  case cN => k_asm
  case cT => k_asm
  case cr => ktr_room
  case cu => ktr_units
  clear hs0 hs1 hI1 hl1
  intro l h3 tk3 nvs9 names9 nl cells ns seed ts nd nc F3 N3 hS hnl hg hdl hcl _ hI1 hl1 hs0 hs1
  obtain ⟨x0, tx0, nvs, names, rfl, rfl, hS9⟩ := strs_two hS (by omega)
  clear hS
  have hS := hS9
  clear hS9
  rw [List.length_cons] at hnl
  have hg0 := hg x0 List.mem_cons_self
  replace hg : ∀ x ∈ names, GoodName x := fun x hx => hg x (.tail _ hx)
  have hnv := hS.length
  k_steps
  refine Hold.out ?_
  refine' take_spec (rest := [(l, listOf (.str x0 tx0 :: nvs).toArray nl)]) ?dB ?dF ?dX ?dN ?dT rfl ?dr ?du hI1 hl1 (Nat.ne_of_gt hcd) ?dd ?dc hs0 hs1 (by decide) (by decide) ?dh
  case dB => k_asm
  case dF => k_asm
  case dX => k_asm
  case dN => exact news_rotL (by k_asm)
  case dT => k_asm
  case dr => ktr_room
  case du => ktr_units
  case dd => intro p hp; rw [List.mem_singleton.mp hp]; exact Nat.ne_of_gt hdl
  case dc => intro p hp; rw [List.mem_singleton.mp hp]; exact Nat.ne_of_gt hcl
  clear hs0 hs1 hI1 hl1
  intro wd td hd tkd cells ns seed ts nd nc Fd Nd hI1 hl1 hs0 hs1 wd0 wd1
  obtain ⟨wn, rfl⟩ := Int.eq_ofNat_of_zero_le wd0
  have e8 : (8 : Int) + (wn : Int) = ((8 + wn : Nat) : Int) := by omega
  k_steps
  refine Hold.out ?_
  refine' take_spec (rest := [(l, listOf (.str x0 tx0 :: nvs).toArray nl)]) ?eB ?eF ?eX ?eN ?eT rfl ?er ?eu hI1 hl1 (Nat.ne_of_gt hcd) ?ed ?ec hs0 hs1 (by decide) (by decide) ?eh
  case eB => k_asm
  case eF => k_asm
  case eX => k_asm
  case eN => k_asm
  case eT => k_asm
  case er => ktr_room
  case eu => ktr_units
  case ed => intro p hp; rw [List.mem_singleton.mp hp]; exact Nat.ne_of_gt hdl
  case ec => intro p hp; rw [List.mem_singleton.mp hp]; exact Nat.ne_of_gt hcl
  clear hs0 hs1 hI1 hl1
  intro ri te he tke cells ns seed ts nd nc Fe Ne hI1 hl1 hs0 hs1 ri0 ri1
  k_steps
  refine Hold.out ?_
  refine' take_spec (rest := [(l, listOf (.str x0 tx0 :: nvs).toArray nl)]) ?fB ?fF ?fX ?fN ?fT rfl ?fr ?fu hI1 hl1 (Nat.ne_of_gt hcd) ?fd ?fc hs0 hs1 (by decide) (by decide) ?fh
  case fB => k_asm
  case fF => k_asm
  case fX => k_asm
  case fN => k_asm
  case fT => k_asm
  case fr => ktr_room
  case fu => ktr_units
  case fd => intro p hp; rw [List.mem_singleton.mp hp]; exact Nat.ne_of_gt hdl
  case fc => intro p hp; rw [List.mem_singleton.mp hp]; exact Nat.ne_of_gt hcl
  clear hs0 hs1 hI1 hl1
  intro rc tf hf tkf cells ns seed ts nd nc Ff Nf hI1 hl1 hs0 hs1 rc0 rc1
  k_steps
  rename News _ _ _ _ => N9
  obtain ⟨D9, eD⟩ := nm_hd N9
  subst eD
  obtain ⟨k3, e3⟩ := nm_hd (news_tl N9)
  subst e3
  obtain ⟨k2, e2⟩ := nm_hd (news_tl (news_tl N9))
  subst e2
  obtain ⟨k1, e1⟩ := nm_hd (news_tl (news_tl (news_tl N9)))
  subst e1
  refine Hold.out ?_
  refine' take_spec (rest := [(D9, listOf #[.ref k1, .ref k2, .ref k3] 0), (k3, listOf #[] 0), (k2, listOf #[.str (Str.ofString "noqa") _, .str (Str.ofString "why") _, .str (Str.ofString "noqa") _] 0), (k1, listOf #[.str (Str.ofString "noqa") _] 0), (l, listOf (.str x0 tx0 :: nvs).toArray nl)]) ?zB ?zF ?zX ?zN ?zT rfl ?zr ?zu hI1 hl1 (Nat.ne_of_gt hcd) ?zd ?zc hs0 hs1 (by decide) (by decide) ?zh
  case zB => k_asm
  case zF => k_asm
  case zX => k_asm
  case zN => exact news_sub N9 (by k_allIn)
  case zT => k_asm
  case zr => ktr_room
  case zu => ktr_units
  case zd => intro p hp; simp only [List.mem_cons, List.not_mem_nil, or_false] at hp; rcases hp with rfl | rfl | rfl | rfl | rfl <;> k_ne
  case zc => intro p hp; simp only [List.mem_cons, List.not_mem_nil, or_false] at hp; rcases hp with rfl | rfl | rfl | rfl | rfl <;> k_ne
  clear hs0 hs1 hI1 hl1
  intro rk tz hz tkz cells ns seed ts nd nc Fz Nz hI1 hl1 hs0 hs1 rk0 rk1
  obtain ⟨hil, hi10⟩ := ind_facts ri0 (by omega)
  obtain rfl | rfl | rfl : rk = 0 ∨ rk = 1 ∨ rk = 2 := by omega
  ·  k_steps
     refine Hold.out ?_
     rw [e8]
     refine' lgrid_spec (nvs := nvs) (cvs := [.str (Str.ofString "noqa") _]) (rest := []) (cm := (Str.ofString "(  # noqa")) ?k1aB ?k1aF ?k1aX ?k1aN ?k1aT rfl ?k1ar ?k1au hS (by omega) hg0 hg hil (by omega) (.inr (.inl ⟨_, rfl, rfl⟩)) hi10 ?k1ah
     case k1aB => k_asm
     case k1aF => k_asm
     case k1aX => k_asm
     case k1aN => exact news_sub (by k_asm) (by k_allIn)
     case k1aT => k_asm
     case k1ar => ktr_room
     case k1au => ktr_units
     intro t5 h5 tk5 F5 N5
     have hsp : ∀ _ : Nat, Txt.split (vgEnd (rc == 1) (vg (Txt.mul (Str.ofString " ") ri) (8 + wn) (rc == 1) true ((Str.ofString "from m \x69mport ") ++ ((Str.ofString "(  # noqa") ++ Str.ofString "\n" ++ (Txt.mul (Str.ofString " ") ri) ++ x0)) ((Txt.mul (Str.ofString " ") ri) ++ x0) names) ++ Str.ofString ")") (Str.ofString "\n") = (Str.ofString "from m \x69mport (  # noqa") :: rowsS (Txt.mul (Str.ofString " ") ri) (endS (rc == 1) false) (grp (Txt.mul (Str.ofString " ") ri).length (8 + wn) (rc == 1) true [x0] names) := fun _ =>
       (split_grid (by decide +kernel) hi10 (fun x hx => (List.mem_cons.mp hx).elim (fun e => e ▸ hg0) (hg x))).trans (by rw [show (Str.ofString "from m \x69mport ") ++ (Str.ofString "(  # noqa") = (Str.ofString "from m \x69mport (  # noqa") by decide +kernel])
     have htl : (vgEnd (rc == 1) (vg (Txt.mul (Str.ofString " ") ri) (8 + wn) (rc == 1) true ((Str.ofString "from m \x69mport ") ++ ((Str.ofString "(  # noqa") ++ Str.ofString "\n" ++ (Txt.mul (Str.ofString " ") ri) ++ x0)) ((Txt.mul (Str.ofString " ") ri) ++ x0) names) ++ Str.ofString ")").length ≤ 1000 := by
       rw [len_app]
       exact Nat.add_le_add (told_len hil hg0 hg (by omega) (by decide) (by decide)) (show (Str.ofString ")").length ≤ 100 by decide)
     generalize (vgEnd (rc == 1) (vg (Txt.mul (Str.ofString " ") ri) (8 + wn) (rc == 1) true ((Str.ofString "from m \x69mport ") ++ ((Str.ofString "(  # noqa") ++ Str.ofString "\n" ++ (Txt.mul (Str.ofString " ") ri) ++ x0)) ((Txt.mul (Str.ofString " ") ri) ++ x0) names) ++ Str.ofString ")") = told at hsp htl ⊢
     k_steps
     refine Hold.out ?_
     rw [e8]
     refine' fits0_spec (names := x0 :: names) (gs := (grp (Txt.mul (Str.ofString " ") ri).length (8 + wn) (rc == 1) true [x0] names)) (rest := [(k1, listOf ([.str (Str.ofString "noqa") _]).toArray 0)]) ?k1bB ?k1bF ?k1bX ?k1bN ?k1bT rfl ?k1br ?k1bu (.cons x0 tx0 hS) (by rw [List.length_cons]; omega) (fun x hx => (List.mem_cons.mp hx).elim (fun e => e ▸ hg0) (hg x)) hil (by omega) htl (hsp 0) grp_ne grp_flat (gr_ne (grouped := false)) (gr_fit (grouped := false)) (gr_least (grouped := false)) ?k1bh
     case k1bB => k_asm
     case k1bF => k_asm
     case k1bX => k_asm
     case k1bN => k_asm
     case k1bT => k_asm
     case k1br => ktr_room
     case k1bu => ktr_units
     clear hsp htl
     intro h6 tk6 F6 N6
     k_steps
     refine Hold.out ?_
     rw [e8]
     refine' lgrouped_spec (nvs := nvs) (cvs := [.str (Str.ofString "noqa") _]) (rest := []) (cm := (Str.ofString "(  # noqa")) ?k1cB ?k1cF ?k1cX ?k1cN ?k1cT rfl ?k1cr ?k1cu hS (by omega) hg0 hg hil (by omega) (.inr (.inl ⟨_, rfl, rfl⟩)) hi10 ?k1ch
     case k1cB => k_asm
     case k1cF => k_asm
     case k1cX => k_asm
     case k1cN => exact news_sub (by k_asm) (by k_allIn)
     case k1cT => k_asm
     case k1cr => ktr_room
     case k1cu => ktr_units
     intro t7 h7 tk7 F7 N7
     have hsp : ∀ _ : Nat, Txt.split (vgEnd (rc == 1) (vg (Txt.mul (Str.ofString " ") ri) (8 + wn) (rc == 1) false ((Str.ofString "from m \x69mport ") ++ ((Str.ofString "(  # noqa") ++ Str.ofString "\n" ++ (Txt.mul (Str.ofString " ") ri) ++ x0)) ((Txt.mul (Str.ofString " ") ri) ++ x0) names) ++ Str.ofString "\n" ++ Str.ofString ")") (Str.ofString "\n") = (Str.ofString "from m \x69mport (  # noqa") :: rowsS (Txt.mul (Str.ofString " ") ri) (endS (rc == 1) true) (grp (Txt.mul (Str.ofString " ") ri).length (8 + wn) (rc == 1) false [x0] names) ++ [Str.ofString ")"] := fun _ =>
       (split_grouped (by decide +kernel) hi10 (fun x hx => (List.mem_cons.mp hx).elim (fun e => e ▸ hg0) (hg x))).trans (by rw [show (Str.ofString "from m \x69mport ") ++ (Str.ofString "(  # noqa") = (Str.ofString "from m \x69mport (  # noqa") by decide +kernel])
     have htl : (vgEnd (rc == 1) (vg (Txt.mul (Str.ofString " ") ri) (8 + wn) (rc == 1) false ((Str.ofString "from m \x69mport ") ++ ((Str.ofString "(  # noqa") ++ Str.ofString "\n" ++ (Txt.mul (Str.ofString " ") ri) ++ x0)) ((Txt.mul (Str.ofString " ") ri) ++ x0) names) ++ Str.ofString "\n" ++ Str.ofString ")").length ≤ 1000 := by
       rw [len_app, len_app]
       exact Nat.le_trans (Nat.add_le_add (Nat.add_le_add (told_len hil hg0 hg (by omega) (by decide) (by decide)) (show (Str.ofString "\n").length ≤ 10 by decide)) (show (Str.ofString ")").length ≤ 10 by decide)) (by decide)
     generalize (vgEnd (rc == 1) (vg (Txt.mul (Str.ofString " ") ri) (8 + wn) (rc == 1) false ((Str.ofString "from m \x69mport ") ++ ((Str.ofString "(  # noqa") ++ Str.ofString "\n" ++ (Txt.mul (Str.ofString " ") ri) ++ x0)) ((Txt.mul (Str.ofString " ") ri) ++ x0) names) ++ Str.ofString "\n" ++ Str.ofString ")") = told at hsp htl ⊢
     k_steps
     refine Hold.out ?_
     rw [e8]
     refine' fits1_spec (names := x0 :: names) (gs := (grp (Txt.mul (Str.ofString " ") ri).length (8 + wn) (rc == 1) false [x0] names)) (rest := [(k1, listOf ([.str (Str.ofString "noqa") _]).toArray 0)]) ?k1dB ?k1dF ?k1dX ?k1dN ?k1dT rfl ?k1dr ?k1du (.cons x0 tx0 hS) (by rw [List.length_cons]; omega) (fun x hx => (List.mem_cons.mp hx).elim (fun e => e ▸ hg0) (hg x)) hil (by omega) htl (hsp 0) grp_ne grp_flat (gr_ne (grouped := true)) (gr_fit (grouped := true)) (gr_least (grouped := true)) ?k1dh
     case k1dB => k_asm
     case k1dF => k_asm
     case k1dX => k_asm
     case k1dN => k_asm
     case k1dT => k_asm
     case k1dr => ktr_room
     case k1du => ktr_units
     clear hsp htl
     intro h8 tk8 F8 N8
     k_steps
     refine Hold.out (call_kw (kws' := nkvs _ _ _ _) rfl ?_)
     refine' none_spec (rest := []) ?k1eB ?k1eF ?k1eX ?k1eN ?k1eT rfl ?k1er ?k1eu ?k1eh
     case k1eB => k_asm
     case k1eF => k_asm
     case k1eX => k_asm
     case k1eN => exact news_sub (by k_asm) (by k_allIn)
     case k1eT => k_asm
     case k1er => ktr_room
     case k1eu => ktr_units
     intro t9 h9 tk9 F9 N9
     k_steps


  ·  k_steps
     refine Hold.out ?_
     rw [e8]
     refine' lgrid_spec (nvs := nvs) (cvs := [.str (Str.ofString "noqa") _, .str (Str.ofString "why") _, .str (Str.ofString "noqa") _]) (rest := []) (cm := (Str.ofString "(  # noqa; why")) ?k2aB ?k2aF ?k2aX ?k2aN ?k2aT rfl ?k2ar ?k2au hS (by omega) hg0 hg hil (by omega) (.inr (.inr ⟨_, _, _, rfl, rfl⟩)) hi10 ?k2ah
     case k2aB => k_asm
     case k2aF => k_asm
     case k2aX => k_asm
     case k2aN => exact news_sub (by k_asm) (by k_allIn)
     case k2aT => k_asm
     case k2ar => ktr_room
     case k2au => ktr_units
     intro t5 h5 tk5 F5 N5
     have hsp : ∀ _ : Nat, Txt.split (vgEnd (rc == 1) (vg (Txt.mul (Str.ofString " ") ri) (8 + wn) (rc == 1) true ((Str.ofString "from m \x69mport ") ++ ((Str.ofString "(  # noqa; why") ++ Str.ofString "\n" ++ (Txt.mul (Str.ofString " ") ri) ++ x0)) ((Txt.mul (Str.ofString " ") ri) ++ x0) names) ++ Str.ofString ")") (Str.ofString "\n") = (Str.ofString "from m \x69mport (  # noqa; why") :: rowsS (Txt.mul (Str.ofString " ") ri) (endS (rc == 1) false) (grp (Txt.mul (Str.ofString " ") ri).length (8 + wn) (rc == 1) true [x0] names) := fun _ =>
       (split_grid (by decide +kernel) hi10 (fun x hx => (List.mem_cons.mp hx).elim (fun e => e ▸ hg0) (hg x))).trans (by rw [show (Str.ofString "from m \x69mport ") ++ (Str.ofString "(  # noqa; why") = (Str.ofString "from m \x69mport (  # noqa; why") by decide +kernel])
     have htl : (vgEnd (rc == 1) (vg (Txt.mul (Str.ofString " ") ri) (8 + wn) (rc == 1) true ((Str.ofString "from m \x69mport ") ++ ((Str.ofString "(  # noqa; why") ++ Str.ofString "\n" ++ (Txt.mul (Str.ofString " ") ri) ++ x0)) ((Txt.mul (Str.ofString " ") ri) ++ x0) names) ++ Str.ofString ")").length ≤ 1000 := by
       rw [len_app]
       exact Nat.add_le_add (told_len hil hg0 hg (by omega) (by decide) (by decide)) (show (Str.ofString ")").length ≤ 100 by decide)
     generalize (vgEnd (rc == 1) (vg (Txt.mul (Str.ofString " ") ri) (8 + wn) (rc == 1) true ((Str.ofString "from m \x69mport ") ++ ((Str.ofString "(  # noqa; why") ++ Str.ofString "\n" ++ (Txt.mul (Str.ofString " ") ri) ++ x0)) ((Txt.mul (Str.ofString " ") ri) ++ x0) names) ++ Str.ofString ")") = told at hsp htl ⊢
     k_steps
     refine Hold.out ?_
     rw [e8]
     refine' fits0_spec (names := x0 :: names) (gs := (grp (Txt.mul (Str.ofString " ") ri).length (8 + wn) (rc == 1) true [x0] names)) (rest := [(k2, listOf ([.str (Str.ofString "noqa") _, .str (Str.ofString "why") _, .str (Str.ofString "noqa") _]).toArray 0)]) ?k2bB ?k2bF ?k2bX ?k2bN ?k2bT rfl ?k2br ?k2bu (.cons x0 tx0 hS) (by rw [List.length_cons]; omega) (fun x hx => (List.mem_cons.mp hx).elim (fun e => e ▸ hg0) (hg x)) hil (by omega) htl (hsp 0) grp_ne grp_flat (gr_ne (grouped := false)) (gr_fit (grouped := false)) (gr_least (grouped := false)) ?k2bh
     case k2bB => k_asm
     case k2bF => k_asm
     case k2bX => k_asm
     case k2bN => k_asm
     case k2bT => k_asm
     case k2br => ktr_room
     case k2bu => ktr_units
     clear hsp htl
     intro h6 tk6 F6 N6
     k_steps
     refine Hold.out ?_
     rw [e8]
     refine' lgrouped_spec (nvs := nvs) (cvs := [.str (Str.ofString "noqa") _, .str (Str.ofString "why") _, .str (Str.ofString "noqa") _]) (rest := []) (cm := (Str.ofString "(  # noqa; why")) ?k2cB ?k2cF ?k2cX ?k2cN ?k2cT rfl ?k2cr ?k2cu hS (by omega) hg0 hg hil (by omega) (.inr (.inr ⟨_, _, _, rfl, rfl⟩)) hi10 ?k2ch
     case k2cB => k_asm
     case k2cF => k_asm
     case k2cX => k_asm
     case k2cN => exact news_sub (by k_asm) (by k_allIn)
     case k2cT => k_asm
     case k2cr => ktr_room
     case k2cu => ktr_units
     intro t7 h7 tk7 F7 N7
     have hsp : ∀ _ : Nat, Txt.split (vgEnd (rc == 1) (vg (Txt.mul (Str.ofString " ") ri) (8 + wn) (rc == 1) false ((Str.ofString "from m \x69mport ") ++ ((Str.ofString "(  # noqa; why") ++ Str.ofString "\n" ++ (Txt.mul (Str.ofString " ") ri) ++ x0)) ((Txt.mul (Str.ofString " ") ri) ++ x0) names) ++ Str.ofString "\n" ++ Str.ofString ")") (Str.ofString "\n") = (Str.ofString "from m \x69mport (  # noqa; why") :: rowsS (Txt.mul (Str.ofString " ") ri) (endS (rc == 1) true) (grp (Txt.mul (Str.ofString " ") ri).length (8 + wn) (rc == 1) false [x0] names) ++ [Str.ofString ")"] := fun _ =>
       (split_grouped (by decide +kernel) hi10 (fun x hx => (List.mem_cons.mp hx).elim (fun e => e ▸ hg0) (hg x))).trans (by rw [show (Str.ofString "from m \x69mport ") ++ (Str.ofString "(  # noqa; why") = (Str.ofString "from m \x69mport (  # noqa; why") by decide +kernel])
     have htl : (vgEnd (rc == 1) (vg (Txt.mul (Str.ofString " ") ri) (8 + wn) (rc == 1) false ((Str.ofString "from m \x69mport ") ++ ((Str.ofString "(  # noqa; why") ++ Str.ofString "\n" ++ (Txt.mul (Str.ofString " ") ri) ++ x0)) ((Txt.mul (Str.ofString " ") ri) ++ x0) names) ++ Str.ofString "\n" ++ Str.ofString ")").length ≤ 1000 := by
       rw [len_app, len_app]
       exact Nat.le_trans (Nat.add_le_add (Nat.add_le_add (told_len hil hg0 hg (by omega) (by decide) (by decide)) (show (Str.ofString "\n").length ≤ 10 by decide)) (show (Str.ofString ")").length ≤ 10 by decide)) (by decide)
     generalize (vgEnd (rc == 1) (vg (Txt.mul (Str.ofString " ") ri) (8 + wn) (rc == 1) false ((Str.ofString "from m \x69mport ") ++ ((Str.ofString "(  # noqa; why") ++ Str.ofString "\n" ++ (Txt.mul (Str.ofString " ") ri) ++ x0)) ((Txt.mul (Str.ofString " ") ri) ++ x0) names) ++ Str.ofString "\n" ++ Str.ofString ")") = told at hsp htl ⊢
     k_steps
     refine Hold.out ?_
     rw [e8]
     refine' fits1_spec (names := x0 :: names) (gs := (grp (Txt.mul (Str.ofString " ") ri).length (8 + wn) (rc == 1) false [x0] names)) (rest := [(k2, listOf ([.str (Str.ofString "noqa") _, .str (Str.ofString "why") _, .str (Str.ofString "noqa") _]).toArray 0)]) ?k2dB ?k2dF ?k2dX ?k2dN ?k2dT rfl ?k2dr ?k2du (.cons x0 tx0 hS) (by rw [List.length_cons]; omega) (fun x hx => (List.mem_cons.mp hx).elim (fun e => e ▸ hg0) (hg x)) hil (by omega) htl (hsp 0) grp_ne grp_flat (gr_ne (grouped := true)) (gr_fit (grouped := true)) (gr_least (grouped := true)) ?k2dh
     case k2dB => k_asm
     case k2dF => k_asm
     case k2dX => k_asm
     case k2dN => k_asm
     case k2dT => k_asm
     case k2dr => ktr_room
     case k2du => ktr_units
     clear hsp htl
     intro h8 tk8 F8 N8
     k_steps
     refine Hold.out (call_kw (kws' := nkvs _ _ _ _) rfl ?_)
     refine' none_spec (rest := []) ?k2eB ?k2eF ?k2eX ?k2eN ?k2eT rfl ?k2er ?k2eu ?k2eh
     case k2eB => k_asm
     case k2eF => k_asm
     case k2eX => k_asm
     case k2eN => exact news_sub (by k_asm) (by k_allIn)
     case k2eT => k_asm
     case k2er => ktr_room
     case k2eu => ktr_units
     intro t9 h9 tk9 F9 N9
     k_steps


  ·  k_steps
     refine Hold.out ?_
     rw [e8]
     refine' lgrid_spec (nvs := nvs) (cvs := []) (rest := []) (cm := (Str.ofString "(")) ?k3aB ?k3aF ?k3aX ?k3aN ?k3aT rfl ?k3ar ?k3au hS (by omega) hg0 hg hil (by omega) (.inl ⟨rfl, rfl⟩) hi10 ?k3ah
     case k3aB => k_asm
     case k3aF => k_asm
     case k3aX => k_asm
     case k3aN => exact news_sub (by k_asm) (by k_allIn)
     case k3aT => k_asm
     case k3ar => ktr_room
     case k3au => ktr_units
     intro t5 h5 tk5 F5 N5
     have hsp : ∀ _ : Nat, Txt.split (vgEnd (rc == 1) (vg (Txt.mul (Str.ofString " ") ri) (8 + wn) (rc == 1) true ((Str.ofString "from m \x69mport ") ++ ((Str.ofString "(") ++ Str.ofString "\n" ++ (Txt.mul (Str.ofString " ") ri) ++ x0)) ((Txt.mul (Str.ofString " ") ri) ++ x0) names) ++ Str.ofString ")") (Str.ofString "\n") = (Str.ofString "from m \x69mport (") :: rowsS (Txt.mul (Str.ofString " ") ri) (endS (rc == 1) false) (grp (Txt.mul (Str.ofString " ") ri).length (8 + wn) (rc == 1) true [x0] names) := fun _ =>
       (split_grid (by decide +kernel) hi10 (fun x hx => (List.mem_cons.mp hx).elim (fun e => e ▸ hg0) (hg x))).trans (by rw [show (Str.ofString "from m \x69mport ") ++ (Str.ofString "(") = (Str.ofString "from m \x69mport (") by decide +kernel])
     have htl : (vgEnd (rc == 1) (vg (Txt.mul (Str.ofString " ") ri) (8 + wn) (rc == 1) true ((Str.ofString "from m \x69mport ") ++ ((Str.ofString "(") ++ Str.ofString "\n" ++ (Txt.mul (Str.ofString " ") ri) ++ x0)) ((Txt.mul (Str.ofString " ") ri) ++ x0) names) ++ Str.ofString ")").length ≤ 1000 := by
       rw [len_app]
       exact Nat.add_le_add (told_len hil hg0 hg (by omega) (by decide) (by decide)) (show (Str.ofString ")").length ≤ 100 by decide)
     generalize (vgEnd (rc == 1) (vg (Txt.mul (Str.ofString " ") ri) (8 + wn) (rc == 1) true ((Str.ofString "from m \x69mport ") ++ ((Str.ofString "(") ++ Str.ofString "\n" ++ (Txt.mul (Str.ofString " ") ri) ++ x0)) ((Txt.mul (Str.ofString " ") ri) ++ x0) names) ++ Str.ofString ")") = told at hsp htl ⊢
     k_steps
     refine Hold.out ?_
     rw [e8]
     refine' fits0_spec (names := x0 :: names) (gs := (grp (Txt.mul (Str.ofString " ") ri).length (8 + wn) (rc == 1) true [x0] names)) (rest := [(k3, listOf ([]).toArray 0)]) ?k3bB ?k3bF ?k3bX ?k3bN ?k3bT rfl ?k3br ?k3bu (.cons x0 tx0 hS) (by rw [List.length_cons]; omega) (fun x hx => (List.mem_cons.mp hx).elim (fun e => e ▸ hg0) (hg x)) hil (by omega) htl (hsp 0) grp_ne grp_flat (gr_ne (grouped := false)) (gr_fit (grouped := false)) (gr_least (grouped := false)) ?k3bh
     case k3bB => k_asm
     case k3bF => k_asm
     case k3bX => k_asm
     case k3bN => k_asm
     case k3bT => k_asm
     case k3br => ktr_room
     case k3bu => ktr_units
     clear hsp htl
     intro h6 tk6 F6 N6
     k_steps
     refine Hold.out ?_
     rw [e8]
     refine' lgrouped_spec (nvs := nvs) (cvs := []) (rest := []) (cm := (Str.ofString "(")) ?k3cB ?k3cF ?k3cX ?k3cN ?k3cT rfl ?k3cr ?k3cu hS (by omega) hg0 hg hil (by omega) (.inl ⟨rfl, rfl⟩) hi10 ?k3ch
     case k3cB => k_asm
     case k3cF => k_asm
     case k3cX => k_asm
     case k3cN => exact news_sub (by k_asm) (by k_allIn)
     case k3cT => k_asm
     case k3cr => ktr_room
     case k3cu => ktr_units
     intro t7 h7 tk7 F7 N7
     have hsp : ∀ _ : Nat, Txt.split (vgEnd (rc == 1) (vg (Txt.mul (Str.ofString " ") ri) (8 + wn) (rc == 1) false ((Str.ofString "from m \x69mport ") ++ ((Str.ofString "(") ++ Str.ofString "\n" ++ (Txt.mul (Str.ofString " ") ri) ++ x0)) ((Txt.mul (Str.ofString " ") ri) ++ x0) names) ++ Str.ofString "\n" ++ Str.ofString ")") (Str.ofString "\n") = (Str.ofString "from m \x69mport (") :: rowsS (Txt.mul (Str.ofString " ") ri) (endS (rc == 1) true) (grp (Txt.mul (Str.ofString " ") ri).length (8 + wn) (rc == 1) false [x0] names) ++ [Str.ofString ")"] := fun _ =>
       (split_grouped (by decide +kernel) hi10 (fun x hx => (List.mem_cons.mp hx).elim (fun e => e ▸ hg0) (hg x))).trans (by rw [show (Str.ofString "from m \x69mport ") ++ (Str.ofString "(") = (Str.ofString "from m \x69mport (") by decide +kernel])
     have htl : (vgEnd (rc == 1) (vg (Txt.mul (Str.ofString " ") ri) (8 + wn) (rc == 1) false ((Str.ofString "from m \x69mport ") ++ ((Str.ofString "(") ++ Str.ofString "\n" ++ (Txt.mul (Str.ofString " ") ri) ++ x0)) ((Txt.mul (Str.ofString " ") ri) ++ x0) names) ++ Str.ofString "\n" ++ Str.ofString ")").length ≤ 1000 := by
       rw [len_app, len_app]
       exact Nat.le_trans (Nat.add_le_add (Nat.add_le_add (told_len hil hg0 hg (by omega) (by decide) (by decide)) (show (Str.ofString "\n").length ≤ 10 by decide)) (show (Str.ofString ")").length ≤ 10 by decide)) (by decide)
     generalize (vgEnd (rc == 1) (vg (Txt.mul (Str.ofString " ") ri) (8 + wn) (rc == 1) false ((Str.ofString "from m \x69mport ") ++ ((Str.ofString "(") ++ Str.ofString "\n" ++ (Txt.mul (Str.ofString " ") ri) ++ x0)) ((Txt.mul (Str.ofString " ") ri) ++ x0) names) ++ Str.ofString "\n" ++ Str.ofString ")") = told at hsp htl ⊢
     k_steps
     refine Hold.out ?_
     rw [e8]
     refine' fits1_spec (names := x0 :: names) (gs := (grp (Txt.mul (Str.ofString " ") ri).length (8 + wn) (rc == 1) false [x0] names)) (rest := [(k3, listOf ([]).toArray 0)]) ?k3dB ?k3dF ?k3dX ?k3dN ?k3dT rfl ?k3dr ?k3du (.cons x0 tx0 hS) (by rw [List.length_cons]; omega) (fun x hx => (List.mem_cons.mp hx).elim (fun e => e ▸ hg0) (hg x)) hil (by omega) htl (hsp 0) grp_ne grp_flat (gr_ne (grouped := true)) (gr_fit (grouped := true)) (gr_least (grouped := true)) ?k3dh
     case k3dB => k_asm
     case k3dF => k_asm
     case k3dX => k_asm
     case k3dN => k_asm
     case k3dT => k_asm
     case k3dr => ktr_room
     case k3du => ktr_units
     clear hsp htl
     intro h8 tk8 F8 N8
     k_steps
     refine Hold.out (call_kw (kws' := nkvs _ _ _ _) rfl ?_)
     refine' none_spec (rest := []) ?k3eB ?k3eF ?k3eX ?k3eN ?k3eT rfl ?k3er ?k3eu ?k3eh
     case k3eB => k_asm
     case k3eF => k_asm
     case k3eX => k_asm
     case k3eN => exact news_sub (by k_asm) (by k_allIn)
     case k3eT => k_asm
     case k3er => ktr_room
     case k3eu => ktr_units
     intro t9 h9 tk9 F9 N9
     k_steps)
end Mine
theorem PySem.Challenge.cw_fj5009_01_holds : PySem.Challenge.rw_fj5009_01.Holds := by
  exact Mine.lawgo
